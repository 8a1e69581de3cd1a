import JvmDerived
import JvmDerived.Pilot.@@N@@Statement
import JvmDerived.Pilot.@@N@@Code
set_option linter.unusedVariables false
set_option linter.unusedSimpArgs false
namespace Jvm.Pilot.@@N@@
open Jvm Jvm.ClassFile Sem Op Lib Jvm.Free Jvm.Stand Jvm.LawKit Jvm.RoadKit Bundle Jvm.Pilot.@@N@@.Jvm.D
section Own
variable {p : Program} {l : Launch} {e : Env} {R : Room} {s : State} {m : MethodId} {args : Array Value} {below : List Frame} {meth : Method} {c : Code} {T T' : State} {locs : List Loc} {cells slots : Nat}
/-- from the frame g over the state T the body comes to its end, as Q says -/
def own_E (p : Program) (e : Env) (below : List Frame) (s : State) (Q : Option Value → Heap → List Loc → Prop) (k n : Nat) (T : State) (g : JFrame) : Prop :=
  ∃ U o, Steps p.tables e below (T.setTop g) U ∧ U.status = .running ∧ Ended U below o ∧ ∃ v L, o = Outcome.returned v ∧ Q v U.heap L ∧ FrameEnd s o U L k n
variable {Q : Option Value → Heap → List Loc → Prop} {k n : Nat} {g g' : JFrame}
theorem own_via (st : ∀ t, Steps p.tables e below (T'.setTop g') t → Steps p.tables e below (T.setTop g) t) (h : own_E p e below s Q k n T' g') : own_E p e below s Q k n T g := by
  obtain ⟨U, o, h1, r⟩ := h
  exact ⟨U, o, st U h1, r⟩
theorem own_thru (st : Steps p.tables e below (T.setTop g) (T'.setTop g')) (h : own_E p e below s Q k n T' g') : own_E p e below s Q k n T g := own_via (fun _ k => st.trans k) h
theorem own_retN (X : Stand p l e R s m args below meth c T locs cells slots) (hx : p.tables.exec = Jvm.exec) (hlk : meth.locks = false) {pc : Nat} {Ls : Array Slot} {z : Int32} {t : FieldType} {rest : List Value} (hret : meth.sig.returnType = some t) (ht : t = .boolean ∨ t = .byte ∨ t = .char ∨ t = .short)
    (hd : decode c.code pc = .ok (.ireturn, 1)) (hk : cells ≤ k) (hn : slots ≤ n) (hQ : Q (some (.int (nar t z))) T.heap locs) : own_E p e below s Q k n T (mkF m pc Ls (.int z :: rest)) := by
  obtain ⟨fs, hr, hrun, hended, hW, hsame⟩ := X.leave (v := some (.int (nar t z))) (fun h => by rw [hret] at h; cases h) hlk
  exact ⟨_, _, retN X hx hret ht hd hr, hrun, hended, _, _, rfl, hQ, ⟨_, rfl⟩, hW, hsame.mono hk hn⟩
theorem own_ret (X : Stand p l e R s m args below meth c T locs cells slots) (hx : p.tables.exec = Jvm.exec) (hlk : meth.locks = false) {pc : Nat} {Ls : Array Slot} {w : Value} {t : FieldType} {i : Instr} {rest : List Value} (hret : meth.sig.returnType = some t) (hnr : narrow t w = w)
    (hi : (i = .ireturn ∧ (t = .int ∨ t = .boolean ∨ t = .byte ∨ t = .char ∨ t = .short) ∧ ∃ z, w = .int z) ∨ (i = .lreturn ∧ t = .long ∧ ∃ z, w = .long z) ∨ (i = .dreturn ∧ t = .double ∧ ∃ z, w = .double z) ∨ (i = .freturn ∧ t = .float ∧ ∃ z, w = .float z) ∨ (i = .areturn ∧ t.isReference = true ∧ w.isRef = true))
    (hd : decode c.code pc = .ok (i, 1)) (hk : cells ≤ k) (hn : slots ≤ n) (hQ : Q (some w) T.heap locs) : own_E p e below s Q k n T (mkF m pc Ls (w :: rest)) := by
  obtain ⟨fs, hr, hrun, hended, hW, hsame⟩ := X.leave (v := some w) (fun h => by rw [hret] at h; cases h) hlk
  exact ⟨_, _, retOut X hx hret hnr hi hd hr, hrun, hended, _, _, rfl, hQ, ⟨_, rfl⟩, hW, hsame.mono hk hn⟩
theorem own_retV (X : Stand p l e R s m args below meth c T locs cells slots) (hx : p.tables.exec = Jvm.exec) (hlk : meth.locks = false) {pc : Nat} {Ls : Array Slot} (hret : meth.sig.returnType = none)
    (hd : decode c.code pc = .ok (.return_, 1)) (hk : cells ≤ k) (hn : slots ≤ n) (hQ : Q none T.heap locs) : own_E p e below s Q k n T (mkF m pc Ls []) := by
  obtain ⟨fs, hr, hrun, hended, hW, hsame⟩ := X.leave (v := none) (fun _ => rfl) hlk
  exact ⟨_, _, X.returnOut hx hret hd hr, hrun, hended, _, _, rfl, hQ, ⟨_, rfl⟩, hW, hsame.mono hk hn⟩
end Own
def own_ushr (x y : Int32) : Int32 := (x.toUInt32 >>> (y &&& 31).toUInt32).toInt32
def own_ushrL (x : Int64) (y : Int32) : Int64 := (x.toUInt64 >>> (y &&& 0x3f).toInt64.toUInt64).toInt64
/-- a field of an old object, said by the case to hold an int -/
theorem own_fldI {Z : State} {args : Array Value} {t : Term} {C n d : String} {a : Addr} {k : Int32} (ev : t.eval args Z none [] Z = some (.ref a)) (h : (Cond.eq (.field t C n d) (.int k)).value args Z none Z [] = some true) : Fld Z Z.heap a C n d (.int k) := by
  obtain ⟨x, y, h1, h2, k1, k2⟩ := cmp_v (Or.inl h)
  obtain rfl : y = .int k := (Option.some.inj h2).symm
  obtain ⟨z, rfl⟩ : ∃ z, x = .int z := k2
  have e := gotT (Cond.eq_ints h1 h2) h
  subst e
  rw [fld_at ev] at h1
  exact Fld.start h1
/-- a field of an old object, said by the case to hold what another term names (a reference) -/
theorem own_fldR {Z : State} {args : Array Value} {t u : Term} {C n d : String} {a b : Addr} (ev : t.eval args Z none [] Z = some (.ref a)) (eu : u.eval args Z none [] Z = some (.ref b)) (h : (Cond.eq (.field t C n d) u).value args Z none Z [] = some true) : Fld Z Z.heap a C n d (.ref b) := by
  obtain ⟨x, y, h1, h2, k1, k2⟩ := cmp_v (Or.inl h)
  obtain rfl : y = .ref b := Option.some.inj (h2.symm.trans eu)
  have hx : x.isRef = true := k2.2
  have q := gotT (eq_R h1 h2 hx rfl) h
  subst q
  rw [fld_at ev] at h1
  exact Fld.start h1
section OwnRef
variable {p : Program} {l : Launch} {e : Env} {R : Room} {s : State} {m : MethodId} {args : Array Value} {below : List Frame} {meth : Method} {c : Code} {T T' : State} {locs : List Loc} {cells slots : Nat} {Z : State} {h h' : Heap} {a b : Addr} {C : String} {N : Nat} {f : Nat → Value}
/-- an array of N references over the class C, whose i-th holds f i -/
def own_RA (Z : State) (h : Heap) (a : Addr) (C : String) (N : Nat) (f : Nat → Value) : Prop := ∃ cl : Cell, Arr Z h a cl (.object C) ∧ Ovr Z cl.cls C ∧ cl.slots.size = N ∧ ∀ i, i < N → cl.slots[i]? = some (f i)
theorem own_RA.lt (F : own_RA Z h a C N f) : a < h.size := by obtain ⟨cl, A, -⟩ := F; exact A.lt
theorem own_RA.new {k : ClassId} {z : Int32} (A : Arr Z h a (newA k (.object C) z) (.object C)) (O : Ovr Z k C) (hz : z.toNatClampNeg = N) : own_RA Z h a C N (fun _ => .null) :=
  ⟨_, A, O, by rw [sz_new, hz], fun i hi => by simp [newA, hz, hi, defaultValue]⟩
def own_updV (f : Nat → Value) (j : Nat) (x : Value) (i : Nat) : Value := if i = j then x else f i
theorem own_aastore (X : Stand p l e R s m args below meth c T locs cells slots) (hx : p.tables.exec = Jvm.exec) (hZ : Z.Warmed39 s.vm) (eT : T.heap = h) (F : own_RA Z h a C N f) (hN : N < 2 ^ 31) {jn : Nat} (hj : jn < N) {j : Int32} (ej : j = Int32.ofNat jn) (I : Ins Z h b C true)
    {g : JFrame} (hg : g.method = m) {rest : List Value} (hs : g.stack = .ref b :: .int j :: .ref a :: rest) (hd : decode c.code g.pc = .ok (.aastore, 1)) {n0 : Nat} (N0 : Fr n0 locs) (hge : n0 ≤ a) :
    ∃ T' h', Stand p l e R s m args below meth c T' (locs ++ [⟨a, jn⟩]) cells slots ∧ T'.heap = h' ∧ own_RA Z h' a C N (own_updV f jn (.ref b)) ∧ Wr h h' a jn (.ref b) ∧ Fr n0 (locs ++ [⟨a, jn⟩]) ∧ ∀ t, Steps p.tables e below (T'.setTop { g with pc := g.pc + 1, stack := rest }) t → Steps p.tables e below (T.setTop g) t := by
  obtain ⟨cl, A, O, S, H⟩ := F
  obtain ⟨T', h', X', e', W, st⟩ := stR X hx hZ eT A (by rw [S]; exact within ej hj hN) rfl (Sto.of A O I) hg hs hd
  rw [clamp_of ej (by omega)] at X' W
  refine ⟨T', h', X', e', ⟨_, A.same W, O, by rw [sz_set]; exact S, fun i hi => ?_⟩, W, Fr.snoc X' N0 hge, st⟩
  by_cases q : i = jn
  · subst q; simp [Cell.setSlot, own_updV, S, hi]
  · have := H i hi
    simp only [Cell.setSlot, own_updV, if_neg q]
    rw [Array.getElem?_setIfInBounds_ne (Ne.symm q)]; exact this
theorem own_aaload (X : Stand p l e R s m args below meth c T locs cells slots) (hx : p.tables.exec = Jvm.exec) (hZ : Z.Warmed39 s.vm) (eT : T.heap = h) (F : own_RA Z h a C N f) (hN : N < 2 ^ 31) {jn : Nat} (hj : jn < N) {j : Int32} (ej : j = Int32.ofNat jn) {v : Value} (hv : f jn = v)
    {g : JFrame} (hg : g.method = m) {rest : List Value} (hs : g.stack = .int j :: .ref a :: rest) (hd : decode c.code g.pc = .ok (.aaload, 1)) :
    ∀ t, Steps p.tables e below (T.setTop { g with pc := g.pc + 1, stack := v :: rest }) t → Steps p.tables e below (T.setTop g) t := by
  obtain ⟨cl, A, O, S, H⟩ := F
  exact X.aaload hx (by rw [eT]; exact A.1) (State.isArrayOf_alike hZ.alike A.2.1) rfl A.2.2 (by rw [S]; exact within ej hj hN) (by rw [clamp_of ej (by omega), ← hv]; exact H _ hj) hg hs hd
end OwnRef
def own_names : List (String × Nat) := [("PLUS", 0), ("MINUS", 1), ("TIMES", 2), ("DIVIDE", 3), ("MIN", 4), ("MAX", 5), ("POW", 6), ("AND", 7), ("OR", 8), ("IMPLIES", 9), ("EQUALS", 10), ("NOT_EQUALS", 11), ("LESS", 12), ("LESS_OR_EQUAL", 13), ("GREATER", 14), ("GREATER_OR_EQUAL", 15)]
def own_comm (n : Nat) : Int32 := [1, 0, 1, 0, 1, 1, 0, 1, 1, 0, 1, 1, 0, 0, 0, 0].getD n 0
def own_ca (n : Nat) : Int32 := if n = 0 ∨ n = 4 ∨ n = 5 ∨ n = 8 then 1 else 0
/-- the sixteen constants: what the statics hold, and what is known of each object -/
def own_C (Z : State) (h : Heap) (B : Nat → Addr) : Prop := (∀ q ∈ own_names, Sta Z h "com/example/strategos/strategos/dd/Operation" q.1 "Lcom/example/strategos/strategos/dd/Operation;" (.ref (B q.2))) ∧ ∀ i, i < 16 → Exa Z h (B i) "com/example/strategos/strategos/dd/Operation" ∧ Fld Z h (B i) "java/lang/Enum" "ordinal" "I" (.int (Int32.ofNat i)) ∧ Fld Z h (B i) "com/example/strategos/strategos/dd/Operation" "commutative" "Z" (.int (own_comm i))
theorem own_C.ext {Z : State} {h h' : Heap} {B : Nat → Addr} (H : own_C Z h B) (E : Ext h h') : own_C Z h' B := ⟨fun q hq => (H.1 q hq).ext E, fun i hi => ⟨(H.2 i hi).1.ext E, (H.2 i hi).2.1.ext E, (H.2 i hi).2.2.ext E⟩⟩
theorem own_C.wr {Z : State} {h h' : Heap} {B : Nat → Addr} {a : Addr} {sl : Nat} {v : Value} (H : own_C Z h B) (W : Wr h h' a sl v) (hne : ∀ i, i < 16 → B i ≠ a) : own_C Z h' B := ⟨fun q hq => (H.1 q hq).wr W, fun i hi => ⟨(H.2 i hi).1.wr W, (H.2 i hi).2.1.other W (Or.inl (hne i hi)), (H.2 i hi).2.2.other W (Or.inl (hne i hi))⟩⟩
theorem own_C.inj {Z : State} {h : Heap} {B : Nat → Addr} (H : own_C Z h B) {i j : Nat} (hi : i < 16) (hj : j < 16) (e : B i = B j) : i = j := by
  refine Classical.byContradiction fun q => ?_
  refine Fld.ne (H.2 i hi).2.1 (H.2 j hj).2.1 (fun r => q ?_) e
  have r := Value.int.inj r
  have := congrArg Int32.toInt r
  rw [Int32.toInt_ofNat_small (by omega), Int32.toInt_ofNat_small (by omega)] at this
  omega
theorem own_ca_b (n : Nat) : nar .boolean (own_ca n) = own_ca n := by unfold own_ca; split <;> rfl
theorem own_comm_b' : ∀ n : Fin 16, nar .boolean (own_comm n.1) = own_comm n.1 := by decide +kernel
theorem own_comm_b {n : Nat} (h : n < 16) : nar .boolean (own_comm n) = own_comm n := own_comm_b' ⟨n, h⟩
theorem own_road0' : ∀ n : Fin 16, own_comm n.1 = 0 → own_ca n.1 = 0 := by decide +kernel
theorem own_road0 {n : Nat} (h : n < 16) (q : own_comm n = 0) : own_ca n = 0 := own_road0' ⟨n, h⟩ q
theorem own_road1' : ∀ n : Fin 16, ¬ own_comm n.1 = 0 → ¬ n.1 = 2 → ¬ n.1 = 7 → ¬ n.1 = 10 → ¬ n.1 = 11 → (n.1 = 0 ∨ n.1 = 4 ∨ n.1 = 5 ∨ n.1 = 8) := by decide +kernel
theorem own_road1 {n : Nat} (h : n < 16) (q : ¬ own_comm n = 0) (q1 : ¬ n = 2) (q2 : ¬ n = 7) (q3 : ¬ n = 10) (q4 : ¬ n = 11) : n = 0 ∨ n = 4 ∨ n = 5 ∨ n = 8 := own_road1' ⟨n, h⟩ q q1 q2 q3 q4
theorem own_d0 : FP.dconst0 = FP.l2d 0 := by decide +kernel
theorem own_d1 : FP.dconst1 = FP.l2d 1 := by decide +kernel
def own_K (K : Int) (a : Int64) : Prop := -K ≤ a.toInt ∧ a.toInt ≤ K
theorem own_K.b53 {K : Int} {a : Int64} (h : own_K K a) (hK : K < 9007199254740992) : B53 a := ⟨by have := h.1; omega, by have := h.2; omega⟩
theorem own_K.mono {K K' : Int} {a : Int64} (h : own_K K a) (hK : K ≤ K') : own_K K' a := ⟨by have := h.1; omega, by have := h.2; omega⟩
def own_op (n : Nat) (a b : Int64) : Int64 := if n = 0 then a + b else if n = 4 then (if a < b then a else b) else if n = 5 then (if a < b then b else a) else if a = 0 ∧ b = 0 then 0 else 1
theorem own_add {K : Int} {a b : Int64} (ha : own_K K a) (hb : own_K K b) (hK : K < 1000000) : (a + b).toInt = a.toInt + b.toInt := by
  have h := c_ladd a b; have r := rng64 (a + b); have := ha.1; have := ha.2; have := hb.1; have := hb.2; omega
theorem own_op_K {K : Int} {n : Nat} {a b : Int64} (ha : own_K K a) (hb : own_K K b) (h1 : 1 ≤ K) (hK : K < 1000000) : own_K (2 * K) (own_op n a b) := by
  have := ha.1; have := ha.2; have := hb.1; have := hb.2
  unfold own_op
  split
  · have e := own_add ha hb hK
    exact ⟨by omega, by omega⟩
  · split
    · split
      · exact ⟨by omega, by omega⟩
      · exact ⟨by omega, by omega⟩
    · split
      · split
        · exact ⟨by omega, by omega⟩
        · exact ⟨by omega, by omega⟩
      · split
        · exact ⟨by show -(2 * K) ≤ (0 : Int64).toInt; rw [show (0 : Int64).toInt = 0 from rfl]; omega, by show (0 : Int64).toInt ≤ 2 * K; rw [show (0 : Int64).toInt = 0 from rfl]; omega⟩
        · exact ⟨by show -(2 * K) ≤ (1 : Int64).toInt; rw [show (1 : Int64).toInt = 1 from rfl]; omega, by show (1 : Int64).toInt ≤ 2 * K; rw [show (1 : Int64).toInt = 1 from rfl]; omega⟩
theorem own_op_comm (n : Nat) (a b : Int64) : own_op n a b = own_op n b a := by
  unfold own_op
  split
  · exact Int64.add_comm a b
  · split
    · by_cases h : a < b
      · have h2 : ¬ b < a := by rw [Int64.lt_iff_toInt_lt] at *; omega
        rw [if_pos h, if_neg h2]
      · by_cases h2 : b < a
        · rw [if_neg h, if_pos h2]
        · rw [if_neg h, if_neg h2]; rw [Int64.lt_iff_toInt_lt] at *; exact Int64.toInt_inj.mp (by omega)
    · split
      · by_cases h : a < b
        · have h2 : ¬ b < a := by rw [Int64.lt_iff_toInt_lt] at *; omega
          rw [if_pos h, if_neg h2]
        · by_cases h2 : b < a
          · rw [if_neg h, if_pos h2]
          · rw [if_neg h, if_neg h2]; rw [Int64.lt_iff_toInt_lt] at *; exact Int64.toInt_inj.mp (by omega)
      · by_cases h : a = 0 ∧ b = 0
        · rw [if_pos h, if_pos ⟨h.2, h.1⟩]
        · rw [if_neg h, if_neg (fun q => h ⟨q.2, q.1⟩)]
theorem own_op_assoc (n : Nat) (a b c : Int64) : own_op n (own_op n a b) c = own_op n a (own_op n b c) := by
  unfold own_op
  split
  · exact Int64.add_assoc a b c
  · split
    · apply Int64.toInt_inj.mp
      simp only [Int64.lt_iff_toInt_lt]
      repeat' split
      all_goals omega
    · split
      · apply Int64.toInt_inj.mp
        simp only [Int64.lt_iff_toInt_lt]
        repeat' split
        all_goals omega
      · by_cases h1 : a = 0 <;> by_cases h2 : b = 0 <;> by_cases h3 : c = 0 <;> simp [h1, h2, h3]
theorem own_cmp {a b : Int64} (ha : B53 a) (hb : B53 b) : (cmpValue (FP.dcmp (FP.l2d a) (FP.l2d b)) .l = 0) ↔ a = b := by
  rw [dcmpV_w ha hb, lw_eq]
theorem own_cmpL {L : Int64 → UInt64} (hL : FP.l2d = L) {a b : Int64} (ha : B53 a) (hb : B53 b) (h : a = b) : cmpValue (FP.dcmp (L a) (L b)) .l = 0 := by
  subst hL; exact (own_cmp ha hb).mpr h
theorem own_b0 : B53 0 := ⟨by decide, by decide⟩
theorem own_rem (x : Int32) : own_K 1000 ((x % (1000 : Int32)).toInt64) := by
  have h := c_irem x 1000 1000 rfl
  have e := c_i2l (x % (1000 : Int32))
  refine ⟨?_, ?_⟩ <;> rw [e] <;> rcases Int.lt_or_le x.toInt 0 with q | q
  · rw [h.2 q]; omega
  · rw [h.1 q]; omega
  · rw [h.2 q]; omega
  · rw [h.1 q]; omega
theorem own_ix16 (x : Int32) : ∃ n : Nat, n < 16 ∧ ((x &&& (2147483647 : Int32)) % (16 : Int32)) = Int32.ofNat n := by
  have h0 : 0 ≤ (x &&& (2147483647 : Int32)).toInt := (c_andS x 2147483647).2.2 (by decide)
  have h := (c_irem (x &&& (2147483647 : Int32)) 16 16 rfl).1 h0
  refine ⟨((x &&& (2147483647 : Int32)).toInt % 16).toNat, by omega, ?_⟩
  apply Int32.toInt_inj.mp
  rw [h, Int32.toInt_ofNat_small (by omega)]
  omega
def QI (r : Int32) (h0 : Heap) (n0 : Nat) (v : Option Value) (h : Heap) (L : List Loc) : Prop := v = some (.int r) ∧ Fr n0 L ∧ h = h0
def QD (r : UInt64) (h0 : Heap) (n0 : Nat) (v : Option Value) (h : Heap) (L : List Loc) : Prop := v = some (.double r) ∧ Fr n0 L ∧ h = h0
theorem d1_0 : decode prog_27_method_5_code 0 = .ok (.aload_n 0, 1) := by decide +kernel
theorem d1_1 : decode prog_27_method_5_code 1 = .ok (.getstatic 3, 3) := by decide +kernel
theorem d1_4 : decode prog_27_method_5_code 4 = .ok (.if_acmp .eq 24, 3) := by decide +kernel
theorem d1_7 : decode prog_27_method_5_code 7 = .ok (.aload_n 0, 1) := by decide +kernel
theorem d1_8 : decode prog_27_method_5_code 8 = .ok (.getstatic 16, 3) := by decide +kernel
theorem d1_11 : decode prog_27_method_5_code 11 = .ok (.if_acmp .eq 17, 3) := by decide +kernel
theorem d1_14 : decode prog_27_method_5_code 14 = .ok (.aload_n 0, 1) := by decide +kernel
theorem d1_15 : decode prog_27_method_5_code 15 = .ok (.getstatic 19, 3) := by decide +kernel
theorem d1_18 : decode prog_27_method_5_code 18 = .ok (.if_acmp .eq 10, 3) := by decide +kernel
theorem d1_21 : decode prog_27_method_5_code 21 = .ok (.aload_n 0, 1) := by decide +kernel
theorem d1_22 : decode prog_27_method_5_code 22 = .ok (.getstatic 28, 3) := by decide +kernel
theorem d1_25 : decode prog_27_method_5_code 25 = .ok (.if_acmp .ne 7, 3) := by decide +kernel
theorem d1_28 : decode prog_27_method_5_code 28 = .ok (.iconst 1, 1) := by decide +kernel
theorem d1_29 : decode prog_27_method_5_code 29 = .ok (.goto 4, 3) := by decide +kernel
theorem d1_32 : decode prog_27_method_5_code 32 = .ok (.iconst 0, 1) := by decide +kernel
theorem d1_33 : decode prog_27_method_5_code 33 = .ok (.ireturn, 1) := by decide +kernel
theorem pn_1 : plainName "com/example/strategos/strategos/dd/Operation" = true := by first | (simp [plainName, overriddenIn]; done) | decide +kernel
theorem ef_1 (m : MethodId) (x0 : Addr) : entryFrame m #[(.ref x0)] 1 = mkF m 0 #[.val (.ref x0)] [] := by first | (simp [entryFrame, mkF, argsToLocals, Value.category]; done) | rfl
theorem pd_1 : parseMethodDescriptor "()Z" = some ⟨[], some .boolean⟩ := by decide +kernel
set_option maxRecDepth 65536 in
set_option maxHeartbeats 40000000 in
theorem rm1 (l : Launch) (Z : State) (a0 : Array Value) (hw : ∀ d ∈ tables_1, d.before a0 Z = true) (ws : List Jvm.Cond) (B : Nat → Addr) (n : Nat) (hn : n < 16) (h0 : Heap) (n0 : Nat) (Z0 : n0 ≤ h0.size) (HC : own_C Z h0 B) :
    MetFree l (⟨"com/example/strategos/strategos/dd/Operation", "canAbstract", "()Z"⟩ : MethodName) (head1 (Jvm.Cond.code (⟨"com/example/strategos/strategos/dd/Operation", "canAbstract", "()Z"⟩ : MethodName) prog_27_method_5_code 1 (some .boolean) :: ws) ({ frames := 0, cells := 0, slots := 0, locals := 0 } : Room)) (fun a9 U9 => a9 = #[(.ref (B n))] ∧ Z.Warmed39 U9.vm ∧ U9.heap = h0) (fun _ _ _ _ _ => True) (fun _ U9 o9 V9 => ∃ v9 L9, o9 = .returned v9 ∧ QI (own_ca n) h0 n0 v9 V9.heap L9 ∧ FrameEnd U9 o9 V9 L9 ({ frames := 0, cells := 0, slots := 0, locals := 0 } : Room).cells ({ frames := 0, cells := 0, slots := 0, locals := 0 } : Room).slots) := by
  refine MetFree.of_bodySF (plainFor_of_name pn_1) hisR ?_
  intro p e s m args below meth c s₁ Bd hml0 hP hK
  obtain ⟨rfl, hZ, hh⟩ := hP
  have hx := Bd.exec
  have hby := Bd.bytes
  have hlk := Bd.notSynchronized
  have hml : c.maxLocals = 1 := hml0
  have hown : s.vm.findClass "com/example/strategos/strategos/dd/Operation" = some m.cls := findClass_of_methodNamed Bd.named
  have hnm := (name_of_methodNamed Bd.named Bd.method).1
  have X0 : Stand p l e ({ frames := 0, cells := 0, slots := 0, locals := 0 } : Room) s m #[(.ref (B n))] below meth c s₁ [] 0 0 := Stand.of_body Bd
  have e0 : s₁.heap = h0 := by rw [← hh, Bd.state]; rfl
  have N0 := Fr.nil n0
  show own_E p e below s (QI (own_ca n) h0 n0) _ _ s₁ (entryFrame m #[(.ref (B n))] 1)
  rw [ef_1]
  show own_E _ _ _ _ _ _ _ s₁ (mkF m 0 #[.val (.ref (B n))] [])
  refine own_via (fun t => XS.aloadN X0.here hx rfl (hb hby d1_0) rfl rfl) ?_
  show own_E _ _ _ _ _ _ _ s₁ (mkF m 1 #[.val (.ref (B n))] [(.ref (B n))])
  obtain ⟨T1, X1, e1, st1⟩ := getS (host := "") X0 hx hZ hown (hw _ (List.mem_of_getElem? (i := 42) rfl)) Via.refl e0 (HC.1 ("PLUS", 0) (List.mem_of_getElem? (i := 0) rfl)) (g := (mkF m 1 #[.val (.ref (B n))] [(.ref (B n))])) rfl (hb hby d1_1)
  refine own_via st1 ?_
  show own_E _ _ _ _ _ _ _ T1 (mkF m 4 #[.val (.ref (B n))] [(.ref (B 0)), (.ref (B n))])
  by_cases c4_2 : n = 0
  · refine own_via (fun t => Jvm.RoadKit.acmp (g := (mkF m 4 #[.val (.ref (B n))] [(.ref (B 0)), (.ref (B n))])) X1 hx rfl rfl rfl (pc0 := 4) (pc' := 28) (same := true) rfl (hb hby d1_4) rfl (decide_eq_true (by rw [c4_2])) (by decide) (by decide)) ?_
    show own_E _ _ _ _ _ _ _ T1 (mkF m 28 #[.val (.ref (B n))] [])
    refine own_via (fun t => XS.iconst X1.here hx rfl (hb hby d1_28)) ?_
    show own_E _ _ _ _ _ _ _ T1 (mkF m 29 #[.val (.ref (B n))] [(.int (1 : Int32))])
    refine own_via (fun t => XS.goto X1.here hx rfl (pc0 := 29) (pc' := 33) rfl (hb hby d1_29) (by decide) (by decide)) ?_
    show own_E _ _ _ _ _ _ _ T1 (mkF m 33 #[.val (.ref (B n))] [(.int (1 : Int32))])
    exact own_retN X1 hx hlk Bd.returns (Or.inl rfl) (hb hby d1_33) (Nat.le_refl _) (Nat.le_refl _) ⟨congrArg (fun z => some (Value.int z)) (show (1 : Int32) = own_ca n from (if_pos (by omega)).symm), N0, e1⟩
  · refine own_via (fun t => Jvm.RoadKit.acmp (g := (mkF m 4 #[.val (.ref (B n))] [(.ref (B 0)), (.ref (B n))])) X1 hx rfl rfl rfl (pc0 := 4) (pc' := 7) (same := false) rfl (hb hby d1_4) rfl (decide_eq_false (fun q => c4_2 (HC.inj hn (by decide) (Value.ref.inj q)))) (by decide) (by decide)) ?_
    show own_E _ _ _ _ _ _ _ T1 (mkF m 7 #[.val (.ref (B n))] [])
    refine own_via (fun t => XS.aloadN X1.here hx rfl (hb hby d1_7) rfl rfl) ?_
    show own_E _ _ _ _ _ _ _ T1 (mkF m 8 #[.val (.ref (B n))] [(.ref (B n))])
    obtain ⟨T3, X3, e3, st3⟩ := getS (host := "") X1 hx hZ hown (hw _ (List.mem_of_getElem? (i := 64) rfl)) Via.refl e1 (HC.1 ("MIN", 4) (List.mem_of_getElem? (i := 4) rfl)) (g := (mkF m 8 #[.val (.ref (B n))] [(.ref (B n))])) rfl (hb hby d1_8)
    refine own_via st3 ?_
    show own_E _ _ _ _ _ _ _ T3 (mkF m 11 #[.val (.ref (B n))] [(.ref (B 4)), (.ref (B n))])
    by_cases c11_4 : n = 4
    · refine own_via (fun t => Jvm.RoadKit.acmp (g := (mkF m 11 #[.val (.ref (B n))] [(.ref (B 4)), (.ref (B n))])) X3 hx rfl rfl rfl (pc0 := 11) (pc' := 28) (same := true) rfl (hb hby d1_11) rfl (decide_eq_true (by rw [c11_4])) (by decide) (by decide)) ?_
      show own_E _ _ _ _ _ _ _ T3 (mkF m 28 #[.val (.ref (B n))] [])
      refine own_via (fun t => XS.iconst X3.here hx rfl (hb hby d1_28)) ?_
      show own_E _ _ _ _ _ _ _ T3 (mkF m 29 #[.val (.ref (B n))] [(.int (1 : Int32))])
      refine own_via (fun t => XS.goto X3.here hx rfl (pc0 := 29) (pc' := 33) rfl (hb hby d1_29) (by decide) (by decide)) ?_
      show own_E _ _ _ _ _ _ _ T3 (mkF m 33 #[.val (.ref (B n))] [(.int (1 : Int32))])
      exact own_retN X3 hx hlk Bd.returns (Or.inl rfl) (hb hby d1_33) (Nat.le_refl _) (Nat.le_refl _) ⟨congrArg (fun z => some (Value.int z)) (show (1 : Int32) = own_ca n from (if_pos (by omega)).symm), N0, e3⟩
    · refine own_via (fun t => Jvm.RoadKit.acmp (g := (mkF m 11 #[.val (.ref (B n))] [(.ref (B 4)), (.ref (B n))])) X3 hx rfl rfl rfl (pc0 := 11) (pc' := 14) (same := false) rfl (hb hby d1_11) rfl (decide_eq_false (fun q => c11_4 (HC.inj hn (by decide) (Value.ref.inj q)))) (by decide) (by decide)) ?_
      show own_E _ _ _ _ _ _ _ T3 (mkF m 14 #[.val (.ref (B n))] [])
      refine own_via (fun t => XS.aloadN X3.here hx rfl (hb hby d1_14) rfl rfl) ?_
      show own_E _ _ _ _ _ _ _ T3 (mkF m 15 #[.val (.ref (B n))] [(.ref (B n))])
      obtain ⟨T5, X5, e5, st5⟩ := getS (host := "") X3 hx hZ hown (hw _ (List.mem_of_getElem? (i := 65) rfl)) Via.refl e3 (HC.1 ("MAX", 5) (List.mem_of_getElem? (i := 5) rfl)) (g := (mkF m 15 #[.val (.ref (B n))] [(.ref (B n))])) rfl (hb hby d1_15)
      refine own_via st5 ?_
      show own_E _ _ _ _ _ _ _ T5 (mkF m 18 #[.val (.ref (B n))] [(.ref (B 5)), (.ref (B n))])
      by_cases c18_6 : n = 5
      · refine own_via (fun t => Jvm.RoadKit.acmp (g := (mkF m 18 #[.val (.ref (B n))] [(.ref (B 5)), (.ref (B n))])) X5 hx rfl rfl rfl (pc0 := 18) (pc' := 28) (same := true) rfl (hb hby d1_18) rfl (decide_eq_true (by rw [c18_6])) (by decide) (by decide)) ?_
        show own_E _ _ _ _ _ _ _ T5 (mkF m 28 #[.val (.ref (B n))] [])
        refine own_via (fun t => XS.iconst X5.here hx rfl (hb hby d1_28)) ?_
        show own_E _ _ _ _ _ _ _ T5 (mkF m 29 #[.val (.ref (B n))] [(.int (1 : Int32))])
        refine own_via (fun t => XS.goto X5.here hx rfl (pc0 := 29) (pc' := 33) rfl (hb hby d1_29) (by decide) (by decide)) ?_
        show own_E _ _ _ _ _ _ _ T5 (mkF m 33 #[.val (.ref (B n))] [(.int (1 : Int32))])
        exact own_retN X5 hx hlk Bd.returns (Or.inl rfl) (hb hby d1_33) (Nat.le_refl _) (Nat.le_refl _) ⟨congrArg (fun z => some (Value.int z)) (show (1 : Int32) = own_ca n from (if_pos (by omega)).symm), N0, e5⟩
      · refine own_via (fun t => Jvm.RoadKit.acmp (g := (mkF m 18 #[.val (.ref (B n))] [(.ref (B 5)), (.ref (B n))])) X5 hx rfl rfl rfl (pc0 := 18) (pc' := 21) (same := false) rfl (hb hby d1_18) rfl (decide_eq_false (fun q => c18_6 (HC.inj hn (by decide) (Value.ref.inj q)))) (by decide) (by decide)) ?_
        show own_E _ _ _ _ _ _ _ T5 (mkF m 21 #[.val (.ref (B n))] [])
        refine own_via (fun t => XS.aloadN X5.here hx rfl (hb hby d1_21) rfl rfl) ?_
        show own_E _ _ _ _ _ _ _ T5 (mkF m 22 #[.val (.ref (B n))] [(.ref (B n))])
        obtain ⟨T7, X7, e7, st7⟩ := getS (host := "") X5 hx hZ hown (hw _ (List.mem_of_getElem? (i := 66) rfl)) Via.refl e5 (HC.1 ("OR", 8) (List.mem_of_getElem? (i := 8) rfl)) (g := (mkF m 22 #[.val (.ref (B n))] [(.ref (B n))])) rfl (hb hby d1_22)
        refine own_via st7 ?_
        show own_E _ _ _ _ _ _ _ T7 (mkF m 25 #[.val (.ref (B n))] [(.ref (B 8)), (.ref (B n))])
        by_cases c25_8 : n = 8
        · refine own_via (fun t => Jvm.RoadKit.acmp (g := (mkF m 25 #[.val (.ref (B n))] [(.ref (B 8)), (.ref (B n))])) X7 hx rfl rfl rfl (pc0 := 25) (pc' := 28) (same := true) rfl (hb hby d1_25) rfl (decide_eq_true (by rw [c25_8])) (by decide) (by decide)) ?_
          show own_E _ _ _ _ _ _ _ T7 (mkF m 28 #[.val (.ref (B n))] [])
          refine own_via (fun t => XS.iconst X7.here hx rfl (hb hby d1_28)) ?_
          show own_E _ _ _ _ _ _ _ T7 (mkF m 29 #[.val (.ref (B n))] [(.int (1 : Int32))])
          refine own_via (fun t => XS.goto X7.here hx rfl (pc0 := 29) (pc' := 33) rfl (hb hby d1_29) (by decide) (by decide)) ?_
          show own_E _ _ _ _ _ _ _ T7 (mkF m 33 #[.val (.ref (B n))] [(.int (1 : Int32))])
          exact own_retN X7 hx hlk Bd.returns (Or.inl rfl) (hb hby d1_33) (Nat.le_refl _) (Nat.le_refl _) ⟨congrArg (fun z => some (Value.int z)) (show (1 : Int32) = own_ca n from (if_pos (by omega)).symm), N0, e7⟩
        · refine own_via (fun t => Jvm.RoadKit.acmp (g := (mkF m 25 #[.val (.ref (B n))] [(.ref (B 8)), (.ref (B n))])) X7 hx rfl rfl rfl (pc0 := 25) (pc' := 32) (same := false) rfl (hb hby d1_25) rfl (decide_eq_false (fun q => c25_8 (HC.inj hn (by decide) (Value.ref.inj q)))) (by decide) (by decide)) ?_
          show own_E _ _ _ _ _ _ _ T7 (mkF m 32 #[.val (.ref (B n))] [])
          refine own_via (fun t => XS.iconst X7.here hx rfl (hb hby d1_32)) ?_
          show own_E _ _ _ _ _ _ _ T7 (mkF m 33 #[.val (.ref (B n))] [(.int (0 : Int32))])
          exact own_retN X7 hx hlk Bd.returns (Or.inl rfl) (hb hby d1_33) (Nat.le_refl _) (Nat.le_refl _) ⟨congrArg (fun z => some (Value.int z)) (show (0 : Int32) = own_ca n from (if_neg (by omega)).symm), N0, e7⟩
theorem d2_0 : decode prog_27_method_4_code 0 = .ok (.aload_n 0, 1) := by decide +kernel
theorem d2_1 : decode prog_27_method_4_code 1 = .ok (.getfield 71, 3) := by decide +kernel
theorem d2_4 : decode prog_27_method_4_code 4 = .ok (.ireturn, 1) := by decide +kernel
theorem pn_2 : plainName "com/example/strategos/strategos/dd/Operation" = true := by first | (simp [plainName, overriddenIn]; done) | decide +kernel
theorem ef_2 (m : MethodId) (x0 : Addr) : entryFrame m #[(.ref x0)] 1 = mkF m 0 #[.val (.ref x0)] [] := by first | (simp [entryFrame, mkF, argsToLocals, Value.category]; done) | rfl
set_option maxRecDepth 65536 in
set_option maxHeartbeats 40000000 in
theorem rm2 (l : Launch) (Z : State) (a0 : Array Value) (hw : ∀ d ∈ tables_1, d.before a0 Z = true) (ws : List Jvm.Cond) (B : Nat → Addr) (n : Nat) (hn : n < 16) (h0 : Heap) (n0 : Nat) (Z0 : n0 ≤ h0.size) (HC : own_C Z h0 B) :
    MetFree l (⟨"com/example/strategos/strategos/dd/Operation", "isCommutative", "()Z"⟩ : MethodName) (head1 (Jvm.Cond.code (⟨"com/example/strategos/strategos/dd/Operation", "isCommutative", "()Z"⟩ : MethodName) prog_27_method_4_code 1 (some .boolean) :: ws) ({ frames := 0, cells := 0, slots := 0, locals := 0 } : Room)) (fun a9 U9 => a9 = #[(.ref (B n))] ∧ Z.Warmed39 U9.vm ∧ U9.heap = h0) (fun _ _ _ _ _ => True) (fun _ U9 o9 V9 => ∃ v9 L9, o9 = .returned v9 ∧ QI (own_comm n) h0 n0 v9 V9.heap L9 ∧ FrameEnd U9 o9 V9 L9 ({ frames := 0, cells := 0, slots := 0, locals := 0 } : Room).cells ({ frames := 0, cells := 0, slots := 0, locals := 0 } : Room).slots) := by
  refine MetFree.of_bodySF (plainFor_of_name pn_2) hisR ?_
  intro p e s m args below meth c s₁ Bd hml0 hP hK
  obtain ⟨rfl, hZ, hh⟩ := hP
  have hx := Bd.exec
  have hby := Bd.bytes
  have hlk := Bd.notSynchronized
  have hml : c.maxLocals = 1 := hml0
  have hown : s.vm.findClass "com/example/strategos/strategos/dd/Operation" = some m.cls := findClass_of_methodNamed Bd.named
  have hnm := (name_of_methodNamed Bd.named Bd.method).1
  have X0 : Stand p l e ({ frames := 0, cells := 0, slots := 0, locals := 0 } : Room) s m #[(.ref (B n))] below meth c s₁ [] 0 0 := Stand.of_body Bd
  have e0 : s₁.heap = h0 := by rw [← hh, Bd.state]; rfl
  have N0 := Fr.nil n0
  show own_E p e below s (QI (own_comm n) h0 n0) _ _ s₁ (entryFrame m #[(.ref (B n))] 1)
  rw [ef_2]
  show own_E _ _ _ _ _ _ _ s₁ (mkF m 0 #[.val (.ref (B n))] [])
  refine own_via (fun t => XS.aloadN X0.here hx rfl (hb hby d2_0) rfl rfl) ?_
  show own_E _ _ _ _ _ _ _ s₁ (mkF m 1 #[.val (.ref (B n))] [(.ref (B n))])
  obtain ⟨T9, X9, e9, st9⟩ := getF X0 hx hZ hown (host := "") (Or.inl (hw _ (List.mem_of_getElem? (i := 48) rfl))) Via.refl e0 (HC.2 n hn).2.2 (g := (mkF m 1 #[.val (.ref (B n))] [(.ref (B n))])) rfl rfl (hb hby d2_1)
  refine own_via st9 ?_
  show own_E _ _ _ _ _ _ _ T9 (mkF m 4 #[.val (.ref (B n))] [(.int (own_comm n))])
  exact own_retN X9 hx hlk Bd.returns (Or.inl rfl) (hb hby d2_4) (Nat.le_refl _) (Nat.le_refl _) ⟨by rw [own_comm_b hn], N0, e9⟩
theorem d3_0 : decode jdk_37_method_2_code 0 = .ok (.aload_n 0, 1) := by decide +kernel
theorem d3_1 : decode jdk_37_method_2_code 1 = .ok (.getfield 7, 3) := by decide +kernel
theorem d3_4 : decode jdk_37_method_2_code 4 = .ok (.ireturn, 1) := by decide +kernel
theorem pn_3 : plainName "java/lang/Enum" = true := by first | (simp [plainName, overriddenIn]; done) | decide +kernel
theorem ef_3 (m : MethodId) (x0 : Addr) : entryFrame m #[(.ref x0)] 1 = mkF m 0 #[.val (.ref x0)] [] := by first | (simp [entryFrame, mkF, argsToLocals, Value.category]; done) | rfl
theorem pd_3 : parseMethodDescriptor "()I" = some ⟨[], some .int⟩ := by decide +kernel
set_option maxRecDepth 65536 in
set_option maxHeartbeats 40000000 in
theorem rm3 (l : Launch) (Z : State) (a0 : Array Value) (hw : ∀ d ∈ tables_1, d.before a0 Z = true) (ws : List Jvm.Cond) (o : Addr) (z : Int32) (h0 : Heap) (n0 : Nat) (Z0 : n0 ≤ h0.size) (F1 : Fld Z h0 o "java/lang/Enum" "ordinal" "I" (.int z)) :
    MetFree l (⟨"java/lang/Enum", "ordinal", "()I"⟩ : MethodName) (head1 (Jvm.Cond.code (⟨"java/lang/Enum", "ordinal", "()I"⟩ : MethodName) jdk_37_method_2_code 1 (some .int) :: ws) ({ frames := 0, cells := 0, slots := 0, locals := 0 } : Room)) (fun a9 U9 => a9 = #[(.ref o)] ∧ Z.Warmed39 U9.vm ∧ U9.heap = h0) (fun _ _ _ _ _ => True) (fun _ U9 o9 V9 => ∃ v9 L9, o9 = .returned v9 ∧ QI z h0 n0 v9 V9.heap L9 ∧ FrameEnd U9 o9 V9 L9 ({ frames := 0, cells := 0, slots := 0, locals := 0 } : Room).cells ({ frames := 0, cells := 0, slots := 0, locals := 0 } : Room).slots) := by
  refine MetFree.of_bodySF (plainFor_of_name pn_3) hisR ?_
  intro p e s m args below meth c s₁ Bd hml0 hP hK
  obtain ⟨rfl, hZ, hh⟩ := hP
  have hx := Bd.exec
  have hby := Bd.bytes
  have hlk := Bd.notSynchronized
  have hml : c.maxLocals = 1 := hml0
  have hown : s.vm.findClass "java/lang/Enum" = some m.cls := findClass_of_methodNamed Bd.named
  have hnm := (name_of_methodNamed Bd.named Bd.method).1
  have X0 : Stand p l e ({ frames := 0, cells := 0, slots := 0, locals := 0 } : Room) s m #[(.ref o)] below meth c s₁ [] 0 0 := Stand.of_body Bd
  have e0 : s₁.heap = h0 := by rw [← hh, Bd.state]; rfl
  have N0 := Fr.nil n0
  show own_E p e below s (QI z h0 n0) _ _ s₁ (entryFrame m #[(.ref o)] 1)
  rw [ef_3]
  show own_E _ _ _ _ _ _ _ s₁ (mkF m 0 #[.val (.ref o)] [])
  refine own_via (fun t => XS.aloadN X0.here hx rfl (hb hby d3_0) rfl rfl) ?_
  show own_E _ _ _ _ _ _ _ s₁ (mkF m 1 #[.val (.ref o)] [(.ref o)])
  obtain ⟨T10, X10, e10, st10⟩ := getF X0 hx hZ hown (host := "") (Or.inl (hw _ (List.mem_of_getElem? (i := 62) rfl))) Via.refl e0 F1 (g := (mkF m 1 #[.val (.ref o)] [(.ref o)])) rfl rfl (hb hby d3_1)
  refine own_via st10 ?_
  show own_E _ _ _ _ _ _ _ T10 (mkF m 4 #[.val (.ref o)] [(.int z)])
  exact own_ret X10 hx hlk Bd.returns rfl (Or.inl ⟨rfl, Or.inl rfl, _, rfl⟩) (hb hby d3_4) (Nat.le_refl _) (Nat.le_refl _) ⟨rfl, N0, e10⟩
theorem d4_0 : decode prog_27_method_7_code 0 = .ok (.iload_n 0, 1) := by decide +kernel
theorem d4_1 : decode prog_27_method_7_code 1 = .ok (.ifCond .eq 7, 3) := by decide +kernel
theorem d4_4 : decode prog_27_method_7_code 4 = .ok (.dconst 1, 1) := by decide +kernel
theorem d4_5 : decode prog_27_method_7_code 5 = .ok (.goto 4, 3) := by decide +kernel
theorem d4_8 : decode prog_27_method_7_code 8 = .ok (.dconst 0, 1) := by decide +kernel
theorem d4_9 : decode prog_27_method_7_code 9 = .ok (.dreturn, 1) := by decide +kernel
theorem pn_4 : plainName "com/example/strategos/strategos/dd/Operation" = true := by first | (simp [plainName, overriddenIn]; done) | decide +kernel
theorem ef_4 (m : MethodId) (x0 : Int32) : entryFrame m #[(.int x0)] 1 = mkF m 0 #[.val (.int x0)] [] := by first | (simp [entryFrame, mkF, argsToLocals, Value.category]; done) | rfl
theorem pd_4 : parseMethodDescriptor "(Z)D" = some ⟨[.boolean], some .double⟩ := by decide +kernel
set_option maxRecDepth 65536 in
set_option maxHeartbeats 40000000 in
theorem rm4 (l : Launch) (Z : State) (a0 : Array Value) (hw : ∀ d ∈ tables_1, d.before a0 Z = true) (ws : List Jvm.Cond) (z : Int32) (h0 : Heap) (n0 : Nat) (Z0 : n0 ≤ h0.size) :
    MetFree l (⟨"com/example/strategos/strategos/dd/Operation", "truth", "(Z)D"⟩ : MethodName) (head1 (Jvm.Cond.code (⟨"com/example/strategos/strategos/dd/Operation", "truth", "(Z)D"⟩ : MethodName) prog_27_method_7_code 1 (some .double) :: ws) ({ frames := 0, cells := 0, slots := 0, locals := 0 } : Room)) (fun a9 U9 => a9 = #[(.int z)] ∧ Z.Warmed39 U9.vm ∧ U9.heap = h0) (fun _ _ _ _ _ => True) (fun _ U9 o9 V9 => ∃ v9 L9, o9 = .returned v9 ∧ QD (FP.l2d (if z = 0 then 0 else 1)) h0 n0 v9 V9.heap L9 ∧ FrameEnd U9 o9 V9 L9 ({ frames := 0, cells := 0, slots := 0, locals := 0 } : Room).cells ({ frames := 0, cells := 0, slots := 0, locals := 0 } : Room).slots) := by
  refine MetFree.of_bodySF (plainFor_of_name pn_4) hisR ?_
  intro p e s m args below meth c s₁ Bd hml0 hP hK
  obtain ⟨rfl, hZ, hh⟩ := hP
  have hx := Bd.exec
  have hby := Bd.bytes
  have hlk := Bd.notSynchronized
  have hml : c.maxLocals = 1 := hml0
  have hown : s.vm.findClass "com/example/strategos/strategos/dd/Operation" = some m.cls := findClass_of_methodNamed Bd.named
  have hnm := (name_of_methodNamed Bd.named Bd.method).1
  have X0 : Stand p l e ({ frames := 0, cells := 0, slots := 0, locals := 0 } : Room) s m #[(.int z)] below meth c s₁ [] 0 0 := Stand.of_body Bd
  have e0 : s₁.heap = h0 := by rw [← hh, Bd.state]; rfl
  have N0 := Fr.nil n0
  show own_E p e below s (QD (FP.l2d (if z = 0 then 0 else 1)) h0 n0) _ _ s₁ (entryFrame m #[(.int z)] 1)
  rw [ef_4]
  show own_E _ _ _ _ _ _ _ s₁ (mkF m 0 #[.val (.int z)] [])
  refine own_via (fun t => XS.iloadN X0.here hx rfl (hb hby d4_0) rfl) ?_
  show own_E _ _ _ _ _ _ _ s₁ (mkF m 1 #[.val (.int z)] [(.int z)])
  by_cases c1_11 : z = (0 : Int32)
  · refine own_via (fun t => XS.ifYes X0.here hx rfl (pc0 := 1) (pc' := 8) rfl (hb hby d4_1) rfl ((if0 _ _).trans (teq c1_11).1) (by decide) (by decide)) ?_
    show own_E _ _ _ _ _ _ _ s₁ (mkF m 8 #[.val (.int z)] [])
    refine own_via (fun t => XS.dconst0 X0.here hx rfl (hb hby d4_8) own_d0) ?_
    show own_E _ _ _ _ _ _ _ s₁ (mkF m 9 #[.val (.int z)] [(.double (FP.l2d 0))])
    exact own_ret X0 hx hlk Bd.returns rfl (Or.inr (Or.inr (Or.inl ⟨rfl, rfl, _, rfl⟩))) (hb hby d4_9) (Nat.le_refl _) (Nat.le_refl _) ⟨by rw [if_pos c1_11], N0, e0⟩
  · refine own_via (fun t => XS.ifNo X0.here hx rfl (hb hby d4_1) rfl ((if0 _ _).trans (feq c1_11).1)) ?_
    show own_E _ _ _ _ _ _ _ s₁ (mkF m 4 #[.val (.int z)] [])
    refine own_via (fun t => XS.dconst1 X0.here hx rfl (hb hby d4_4) own_d1) ?_
    show own_E _ _ _ _ _ _ _ s₁ (mkF m 5 #[.val (.int z)] [(.double (FP.l2d 1))])
    refine own_via (fun t => XS.goto X0.here hx rfl (pc0 := 5) (pc' := 9) rfl (hb hby d4_5) (by decide) (by decide)) ?_
    show own_E _ _ _ _ _ _ _ s₁ (mkF m 9 #[.val (.int z)] [(.double (FP.l2d 1))])
    exact own_ret X0 hx hlk Bd.returns rfl (Or.inr (Or.inr (Or.inl ⟨rfl, rfl, _, rfl⟩))) (hb hby d4_9) (Nat.le_refl _) (Nat.le_refl _) ⟨by rw [if_neg c1_11], N0, e0⟩
theorem own_minb : jdk_29_method_72_code = Jvm.Free.Fl.Abs.minDCode := by decide +kernel
theorem own_maxb : jdk_29_method_68_code = Jvm.Free.Fl.Abs.maxDCode := by decide +kernel
theorem own_minc {a : Array Value} {s : State} (h : (Cond.code (⟨"java/lang/Math", "min", "(DD)D"⟩ : MethodName) jdk_29_method_72_code 4 (some .double)).before a s = true) : (Cond.code Jvm.Free.Fl.Abs.minDN Jvm.Free.Fl.Abs.minDCode 4 (some .double)).before a s = true := by rw [← own_minb]; exact h
theorem own_maxc {a : Array Value} {s : State} (h : (Cond.code (⟨"java/lang/Math", "max", "(DD)D"⟩ : MethodName) jdk_29_method_68_code 4 (some .double)).before a s = true) : (Cond.code Jvm.Free.Fl.Abs.maxDN Jvm.Free.Fl.Abs.maxDCode 4 (some .double)).before a s = true := by rw [← own_maxb]; exact h
theorem d5_0 : decode prog_27_method_6_code 0 = .ok (.aload_n 0, 1) := by decide +kernel
theorem d5_1 : decode prog_27_method_6_code 1 = .ok (.invokevirtual 75, 3) := by decide +kernel
theorem d5_4 : decode prog_27_method_6_code 4 = .ok (.tableswitch 347 0 15 #[80, 88, 96, 120, 128, 138, 148, 158, 183, 208, 233, 252, 271, 290, 309, 328], 80) := by decide +kernel
theorem d5_84 : decode prog_27_method_6_code 84 = .ok (.dload_n 1, 1) := by decide +kernel
theorem d5_85 : decode prog_27_method_6_code 85 = .ok (.dload_n 3, 1) := by decide +kernel
theorem d5_86 : decode prog_27_method_6_code 86 = .ok (.dadd, 1) := by decide +kernel
theorem d5_87 : decode prog_27_method_6_code 87 = .ok (.dstore 5, 2) := by decide +kernel
theorem d5_89 : decode prog_27_method_6_code 89 = .ok (.goto 271, 3) := by decide +kernel
theorem d5_92 : decode prog_27_method_6_code 92 = .ok (.dload_n 1, 1) := by decide +kernel
theorem d5_93 : decode prog_27_method_6_code 93 = .ok (.dload_n 3, 1) := by decide +kernel
theorem d5_94 : decode prog_27_method_6_code 94 = .ok (.dsub, 1) := by decide +kernel
theorem d5_95 : decode prog_27_method_6_code 95 = .ok (.dstore 5, 2) := by decide +kernel
theorem d5_97 : decode prog_27_method_6_code 97 = .ok (.goto 263, 3) := by decide +kernel
theorem d5_100 : decode prog_27_method_6_code 100 = .ok (.dload_n 1, 1) := by decide +kernel
theorem d5_101 : decode prog_27_method_6_code 101 = .ok (.dconst 0, 1) := by decide +kernel
theorem d5_102 : decode prog_27_method_6_code 102 = .ok (.dcmp .l, 1) := by decide +kernel
theorem d5_103 : decode prog_27_method_6_code 103 = .ok (.ifCond .eq 9, 3) := by decide +kernel
theorem d5_106 : decode prog_27_method_6_code 106 = .ok (.dload_n 3, 1) := by decide +kernel
theorem d5_107 : decode prog_27_method_6_code 107 = .ok (.dconst 0, 1) := by decide +kernel
theorem d5_108 : decode prog_27_method_6_code 108 = .ok (.dcmp .l, 1) := by decide +kernel
theorem d5_109 : decode prog_27_method_6_code 109 = .ok (.ifCond .ne 7, 3) := by decide +kernel
theorem d5_112 : decode prog_27_method_6_code 112 = .ok (.dconst 0, 1) := by decide +kernel
theorem d5_113 : decode prog_27_method_6_code 113 = .ok (.goto 6, 3) := by decide +kernel
theorem d5_116 : decode prog_27_method_6_code 116 = .ok (.dload_n 1, 1) := by decide +kernel
theorem d5_117 : decode prog_27_method_6_code 117 = .ok (.dload_n 3, 1) := by decide +kernel
theorem d5_118 : decode prog_27_method_6_code 118 = .ok (.dmul, 1) := by decide +kernel
theorem d5_119 : decode prog_27_method_6_code 119 = .ok (.dstore 5, 2) := by decide +kernel
theorem d5_121 : decode prog_27_method_6_code 121 = .ok (.goto 239, 3) := by decide +kernel
theorem d5_124 : decode prog_27_method_6_code 124 = .ok (.dload_n 1, 1) := by decide +kernel
theorem d5_125 : decode prog_27_method_6_code 125 = .ok (.dload_n 3, 1) := by decide +kernel
theorem d5_126 : decode prog_27_method_6_code 126 = .ok (.ddiv, 1) := by decide +kernel
theorem d5_127 : decode prog_27_method_6_code 127 = .ok (.dstore 5, 2) := by decide +kernel
theorem d5_129 : decode prog_27_method_6_code 129 = .ok (.goto 231, 3) := by decide +kernel
theorem d5_132 : decode prog_27_method_6_code 132 = .ok (.dload_n 1, 1) := by decide +kernel
theorem d5_133 : decode prog_27_method_6_code 133 = .ok (.dload_n 3, 1) := by decide +kernel
theorem d5_134 : decode prog_27_method_6_code 134 = .ok (.invokestatic 79, 3) := by decide +kernel
theorem d5_137 : decode prog_27_method_6_code 137 = .ok (.dstore 5, 2) := by decide +kernel
theorem d5_139 : decode prog_27_method_6_code 139 = .ok (.goto 221, 3) := by decide +kernel
theorem d5_142 : decode prog_27_method_6_code 142 = .ok (.dload_n 1, 1) := by decide +kernel
theorem d5_143 : decode prog_27_method_6_code 143 = .ok (.dload_n 3, 1) := by decide +kernel
theorem d5_144 : decode prog_27_method_6_code 144 = .ok (.invokestatic 85, 3) := by decide +kernel
theorem d5_147 : decode prog_27_method_6_code 147 = .ok (.dstore 5, 2) := by decide +kernel
theorem d5_149 : decode prog_27_method_6_code 149 = .ok (.goto 211, 3) := by decide +kernel
theorem d5_152 : decode prog_27_method_6_code 152 = .ok (.dload_n 1, 1) := by decide +kernel
theorem d5_153 : decode prog_27_method_6_code 153 = .ok (.dload_n 3, 1) := by decide +kernel
theorem d5_154 : decode prog_27_method_6_code 154 = .ok (.invokestatic 88, 3) := by decide +kernel
theorem d5_157 : decode prog_27_method_6_code 157 = .ok (.dstore 5, 2) := by decide +kernel
theorem d5_159 : decode prog_27_method_6_code 159 = .ok (.goto 201, 3) := by decide +kernel
theorem d5_162 : decode prog_27_method_6_code 162 = .ok (.dload_n 1, 1) := by decide +kernel
theorem d5_163 : decode prog_27_method_6_code 163 = .ok (.dconst 0, 1) := by decide +kernel
theorem d5_164 : decode prog_27_method_6_code 164 = .ok (.dcmp .l, 1) := by decide +kernel
theorem d5_165 : decode prog_27_method_6_code 165 = .ok (.ifCond .eq 13, 3) := by decide +kernel
theorem d5_168 : decode prog_27_method_6_code 168 = .ok (.dload_n 3, 1) := by decide +kernel
theorem d5_169 : decode prog_27_method_6_code 169 = .ok (.dconst 0, 1) := by decide +kernel
theorem d5_170 : decode prog_27_method_6_code 170 = .ok (.dcmp .l, 1) := by decide +kernel
theorem d5_171 : decode prog_27_method_6_code 171 = .ok (.ifCond .eq 7, 3) := by decide +kernel
theorem d5_174 : decode prog_27_method_6_code 174 = .ok (.iconst 1, 1) := by decide +kernel
theorem d5_175 : decode prog_27_method_6_code 175 = .ok (.goto 4, 3) := by decide +kernel
theorem d5_178 : decode prog_27_method_6_code 178 = .ok (.iconst 0, 1) := by decide +kernel
theorem d5_179 : decode prog_27_method_6_code 179 = .ok (.invokestatic 91, 3) := by decide +kernel
theorem d5_182 : decode prog_27_method_6_code 182 = .ok (.dstore 5, 2) := by decide +kernel
theorem d5_184 : decode prog_27_method_6_code 184 = .ok (.goto 176, 3) := by decide +kernel
theorem d5_187 : decode prog_27_method_6_code 187 = .ok (.dload_n 1, 1) := by decide +kernel
theorem d5_188 : decode prog_27_method_6_code 188 = .ok (.dconst 0, 1) := by decide +kernel
theorem d5_189 : decode prog_27_method_6_code 189 = .ok (.dcmp .l, 1) := by decide +kernel
theorem d5_190 : decode prog_27_method_6_code 190 = .ok (.ifCond .ne 9, 3) := by decide +kernel
theorem d5_193 : decode prog_27_method_6_code 193 = .ok (.dload_n 3, 1) := by decide +kernel
theorem d5_194 : decode prog_27_method_6_code 194 = .ok (.dconst 0, 1) := by decide +kernel
theorem d5_195 : decode prog_27_method_6_code 195 = .ok (.dcmp .l, 1) := by decide +kernel
theorem d5_196 : decode prog_27_method_6_code 196 = .ok (.ifCond .eq 7, 3) := by decide +kernel
theorem d5_199 : decode prog_27_method_6_code 199 = .ok (.iconst 1, 1) := by decide +kernel
theorem d5_200 : decode prog_27_method_6_code 200 = .ok (.goto 4, 3) := by decide +kernel
theorem d5_203 : decode prog_27_method_6_code 203 = .ok (.iconst 0, 1) := by decide +kernel
theorem d5_204 : decode prog_27_method_6_code 204 = .ok (.invokestatic 91, 3) := by decide +kernel
theorem d5_207 : decode prog_27_method_6_code 207 = .ok (.dstore 5, 2) := by decide +kernel
theorem d5_209 : decode prog_27_method_6_code 209 = .ok (.goto 151, 3) := by decide +kernel
theorem d5_212 : decode prog_27_method_6_code 212 = .ok (.dload_n 1, 1) := by decide +kernel
theorem d5_213 : decode prog_27_method_6_code 213 = .ok (.dconst 0, 1) := by decide +kernel
theorem d5_214 : decode prog_27_method_6_code 214 = .ok (.dcmp .l, 1) := by decide +kernel
theorem d5_215 : decode prog_27_method_6_code 215 = .ok (.ifCond .eq 9, 3) := by decide +kernel
theorem d5_218 : decode prog_27_method_6_code 218 = .ok (.dload_n 3, 1) := by decide +kernel
theorem d5_219 : decode prog_27_method_6_code 219 = .ok (.dconst 0, 1) := by decide +kernel
theorem d5_220 : decode prog_27_method_6_code 220 = .ok (.dcmp .l, 1) := by decide +kernel
theorem d5_221 : decode prog_27_method_6_code 221 = .ok (.ifCond .eq 7, 3) := by decide +kernel
theorem d5_224 : decode prog_27_method_6_code 224 = .ok (.iconst 1, 1) := by decide +kernel
theorem d5_225 : decode prog_27_method_6_code 225 = .ok (.goto 4, 3) := by decide +kernel
theorem d5_228 : decode prog_27_method_6_code 228 = .ok (.iconst 0, 1) := by decide +kernel
theorem d5_229 : decode prog_27_method_6_code 229 = .ok (.invokestatic 91, 3) := by decide +kernel
theorem d5_232 : decode prog_27_method_6_code 232 = .ok (.dstore 5, 2) := by decide +kernel
theorem d5_234 : decode prog_27_method_6_code 234 = .ok (.goto 126, 3) := by decide +kernel
theorem d5_237 : decode prog_27_method_6_code 237 = .ok (.dload_n 1, 1) := by decide +kernel
theorem d5_238 : decode prog_27_method_6_code 238 = .ok (.dload_n 3, 1) := by decide +kernel
theorem d5_239 : decode prog_27_method_6_code 239 = .ok (.dcmp .l, 1) := by decide +kernel
theorem d5_240 : decode prog_27_method_6_code 240 = .ok (.ifCond .ne 7, 3) := by decide +kernel
theorem d5_243 : decode prog_27_method_6_code 243 = .ok (.iconst 1, 1) := by decide +kernel
theorem d5_244 : decode prog_27_method_6_code 244 = .ok (.goto 4, 3) := by decide +kernel
theorem d5_247 : decode prog_27_method_6_code 247 = .ok (.iconst 0, 1) := by decide +kernel
theorem d5_248 : decode prog_27_method_6_code 248 = .ok (.invokestatic 91, 3) := by decide +kernel
theorem d5_251 : decode prog_27_method_6_code 251 = .ok (.dstore 5, 2) := by decide +kernel
theorem d5_253 : decode prog_27_method_6_code 253 = .ok (.goto 107, 3) := by decide +kernel
theorem d5_256 : decode prog_27_method_6_code 256 = .ok (.dload_n 1, 1) := by decide +kernel
theorem d5_257 : decode prog_27_method_6_code 257 = .ok (.dload_n 3, 1) := by decide +kernel
theorem d5_258 : decode prog_27_method_6_code 258 = .ok (.dcmp .l, 1) := by decide +kernel
theorem d5_259 : decode prog_27_method_6_code 259 = .ok (.ifCond .eq 7, 3) := by decide +kernel
theorem d5_262 : decode prog_27_method_6_code 262 = .ok (.iconst 1, 1) := by decide +kernel
theorem d5_263 : decode prog_27_method_6_code 263 = .ok (.goto 4, 3) := by decide +kernel
theorem d5_266 : decode prog_27_method_6_code 266 = .ok (.iconst 0, 1) := by decide +kernel
theorem d5_267 : decode prog_27_method_6_code 267 = .ok (.invokestatic 91, 3) := by decide +kernel
theorem d5_270 : decode prog_27_method_6_code 270 = .ok (.dstore 5, 2) := by decide +kernel
theorem d5_272 : decode prog_27_method_6_code 272 = .ok (.goto 88, 3) := by decide +kernel
theorem d5_275 : decode prog_27_method_6_code 275 = .ok (.dload_n 1, 1) := by decide +kernel
theorem d5_276 : decode prog_27_method_6_code 276 = .ok (.dload_n 3, 1) := by decide +kernel
theorem d5_277 : decode prog_27_method_6_code 277 = .ok (.dcmp .g, 1) := by decide +kernel
theorem d5_278 : decode prog_27_method_6_code 278 = .ok (.ifCond .ge 7, 3) := by decide +kernel
theorem d5_281 : decode prog_27_method_6_code 281 = .ok (.iconst 1, 1) := by decide +kernel
theorem d5_282 : decode prog_27_method_6_code 282 = .ok (.goto 4, 3) := by decide +kernel
theorem d5_285 : decode prog_27_method_6_code 285 = .ok (.iconst 0, 1) := by decide +kernel
theorem d5_286 : decode prog_27_method_6_code 286 = .ok (.invokestatic 91, 3) := by decide +kernel
theorem d5_289 : decode prog_27_method_6_code 289 = .ok (.dstore 5, 2) := by decide +kernel
theorem d5_291 : decode prog_27_method_6_code 291 = .ok (.goto 69, 3) := by decide +kernel
theorem d5_294 : decode prog_27_method_6_code 294 = .ok (.dload_n 1, 1) := by decide +kernel
theorem d5_295 : decode prog_27_method_6_code 295 = .ok (.dload_n 3, 1) := by decide +kernel
theorem d5_296 : decode prog_27_method_6_code 296 = .ok (.dcmp .g, 1) := by decide +kernel
theorem d5_297 : decode prog_27_method_6_code 297 = .ok (.ifCond .gt 7, 3) := by decide +kernel
theorem d5_300 : decode prog_27_method_6_code 300 = .ok (.iconst 1, 1) := by decide +kernel
theorem d5_301 : decode prog_27_method_6_code 301 = .ok (.goto 4, 3) := by decide +kernel
theorem d5_304 : decode prog_27_method_6_code 304 = .ok (.iconst 0, 1) := by decide +kernel
theorem d5_305 : decode prog_27_method_6_code 305 = .ok (.invokestatic 91, 3) := by decide +kernel
theorem d5_308 : decode prog_27_method_6_code 308 = .ok (.dstore 5, 2) := by decide +kernel
theorem d5_310 : decode prog_27_method_6_code 310 = .ok (.goto 50, 3) := by decide +kernel
theorem d5_313 : decode prog_27_method_6_code 313 = .ok (.dload_n 1, 1) := by decide +kernel
theorem d5_314 : decode prog_27_method_6_code 314 = .ok (.dload_n 3, 1) := by decide +kernel
theorem d5_315 : decode prog_27_method_6_code 315 = .ok (.dcmp .l, 1) := by decide +kernel
theorem d5_316 : decode prog_27_method_6_code 316 = .ok (.ifCond .le 7, 3) := by decide +kernel
theorem d5_319 : decode prog_27_method_6_code 319 = .ok (.iconst 1, 1) := by decide +kernel
theorem d5_320 : decode prog_27_method_6_code 320 = .ok (.goto 4, 3) := by decide +kernel
theorem d5_323 : decode prog_27_method_6_code 323 = .ok (.iconst 0, 1) := by decide +kernel
theorem d5_324 : decode prog_27_method_6_code 324 = .ok (.invokestatic 91, 3) := by decide +kernel
theorem d5_327 : decode prog_27_method_6_code 327 = .ok (.dstore 5, 2) := by decide +kernel
theorem d5_329 : decode prog_27_method_6_code 329 = .ok (.goto 31, 3) := by decide +kernel
theorem d5_332 : decode prog_27_method_6_code 332 = .ok (.dload_n 1, 1) := by decide +kernel
theorem d5_333 : decode prog_27_method_6_code 333 = .ok (.dload_n 3, 1) := by decide +kernel
theorem d5_334 : decode prog_27_method_6_code 334 = .ok (.dcmp .l, 1) := by decide +kernel
theorem d5_335 : decode prog_27_method_6_code 335 = .ok (.ifCond .lt 7, 3) := by decide +kernel
theorem d5_338 : decode prog_27_method_6_code 338 = .ok (.iconst 1, 1) := by decide +kernel
theorem d5_339 : decode prog_27_method_6_code 339 = .ok (.goto 4, 3) := by decide +kernel
theorem d5_342 : decode prog_27_method_6_code 342 = .ok (.iconst 0, 1) := by decide +kernel
theorem d5_343 : decode prog_27_method_6_code 343 = .ok (.invokestatic 91, 3) := by decide +kernel
theorem d5_346 : decode prog_27_method_6_code 346 = .ok (.dstore 5, 2) := by decide +kernel
theorem d5_348 : decode prog_27_method_6_code 348 = .ok (.goto 12, 3) := by decide +kernel
theorem d5_351 : decode prog_27_method_6_code 351 = .ok (.new 95, 3) := by decide +kernel
theorem d5_354 : decode prog_27_method_6_code 354 = .ok (.dup, 1) := by decide +kernel
theorem d5_355 : decode prog_27_method_6_code 355 = .ok (.aload_n 0, 1) := by decide +kernel
theorem d5_356 : decode prog_27_method_6_code 356 = .ok (.invokespecial 97, 3) := by decide +kernel
theorem d5_359 : decode prog_27_method_6_code 359 = .ok (.athrow, 1) := by decide +kernel
theorem d5_360 : decode prog_27_method_6_code 360 = .ok (.dload 5, 2) := by decide +kernel
theorem d5_362 : decode prog_27_method_6_code 362 = .ok (.dreturn, 1) := by decide +kernel
theorem pn_5 : plainName "com/example/strategos/strategos/dd/Operation" = true := by first | (simp [plainName, overriddenIn]; done) | decide +kernel
theorem ef_5 (m : MethodId) (x0 : Addr) (x1 : UInt64) (x2 : UInt64) : entryFrame m #[(.ref x0), (.double x1), (.double x2)] 7 = mkF m 0 #[.val (.ref x0), .val (.double x1), .second, .val (.double x2), .second, .unset, .unset] [] := by first | (simp [entryFrame, mkF, argsToLocals, Value.category]; done) | rfl
theorem pd_5 : parseMethodDescriptor "(DD)D" = some ⟨[.double, .double], some .double⟩ := by decide +kernel
set_option maxRecDepth 65536 in
set_option maxHeartbeats 40000000 in
theorem rm5 (l : Launch) (Z : State) (a0 : Array Value) (hw : ∀ d ∈ tables_1, d.before a0 Z = true) (ws : List Jvm.Cond) (B : Nat → Addr) (n : Nat) (hn : n = 0 ∨ n = 4 ∨ n = 5 ∨ n = 8) (aa bb : Int64) (ha : own_K 10000 aa) (hb0 : own_K 10000 bb) (LD : Int64 → UInt64) (hL : FP.l2d = LD) (h0 : Heap) (n0 : Nat) (Z0 : n0 ≤ h0.size) (HC : own_C Z h0 B) :
    MetFree l (⟨"com/example/strategos/strategos/dd/Operation", "apply", "(DD)D"⟩ : MethodName) (head1 (Jvm.Cond.code (⟨"com/example/strategos/strategos/dd/Operation", "apply", "(DD)D"⟩ : MethodName) prog_27_method_6_code 7 (some .double) :: ws) ({ frames := 1, cells := 0, slots := 0, locals := 20 } : Room)) (fun a9 U9 => a9 = #[(.ref (B n)), (.double (LD aa)), (.double (LD bb))] ∧ Z.Warmed39 U9.vm ∧ U9.heap = h0) (fun _ _ _ _ _ => True) (fun _ U9 o9 V9 => ∃ v9 L9, o9 = .returned v9 ∧ QD (LD (own_op n aa bb)) h0 n0 v9 V9.heap L9 ∧ FrameEnd U9 o9 V9 L9 ({ frames := 1, cells := 0, slots := 0, locals := 20 } : Room).cells ({ frames := 1, cells := 0, slots := 0, locals := 20 } : Room).slots) := by
  refine MetFree.of_bodySF (plainFor_of_name pn_5) hisR ?_
  intro p e s m args below meth c s₁ Bd hml0 hP hK
  obtain ⟨rfl, hZ, hh⟩ := hP
  have hx := Bd.exec
  have hby := Bd.bytes
  have hlk := Bd.notSynchronized
  have hml : c.maxLocals = 7 := hml0
  have hown : s.vm.findClass "com/example/strategos/strategos/dd/Operation" = some m.cls := findClass_of_methodNamed Bd.named
  have hnm := (name_of_methodNamed Bd.named Bd.method).1
  have X0 : Stand p l e ({ frames := 1, cells := 0, slots := 0, locals := 20 } : Room) s m #[(.ref (B n)), (.double (LD aa)), (.double (LD bb))] below meth c s₁ [] 0 0 := Stand.of_body Bd
  have e0 : s₁.heap = h0 := by rw [← hh, Bd.state]; rfl
  have N0 := Fr.nil n0
  show own_E p e below s (QD (LD (own_op n aa bb)) h0 n0) _ _ s₁ (entryFrame m #[(.ref (B n)), (.double (LD aa)), (.double (LD bb))] 7)
  rw [ef_5]
  subst hL
  have hn16 : n < 16 := by omega
  have ba53 := ha.b53 (by decide)
  have bb53 := hb0.b53 (by decide)
  show own_E _ _ _ _ _ _ _ s₁ (mkF m 0 #[.val (.ref (B n)), .val (.double (FP.l2d aa)), .second, .val (.double (FP.l2d bb)), .second, .unset, .unset] [])
  refine own_via (fun t => XS.aloadN X0.here hx rfl (hb hby d5_0) rfl rfl) ?_
  show own_E _ _ _ _ _ _ _ s₁ (mkF m 1 #[.val (.ref (B n)), .val (.double (FP.l2d aa)), .second, .val (.double (FP.l2d bb)), .second, .unset, .unset] [(.ref (B n))])
  obtain ⟨cq12, kq12, q12a, q12b, q12c⟩ := isOf hZ e0 (HC.2 n hn16).1
  obtain ⟨_, _, ⟨T12, L12, k12, n12⟩, -, X12, ⟨Lc12, hQ12, l12, y12, z12⟩, st12⟩ := X0.virtualBackUp hx (x := (⟨"com/example/strategos/strategos/dd/Operation", "ordinal", "()I"⟩ : MethodName)) (y := (⟨"java/lang/Enum", "ordinal", "()I"⟩ : MethodName)) hown (mvT hZ (hw _ (List.mem_of_getElem? (i := 55) rfl))) (mvT hZ (hw _ (List.mem_of_getElem? (i := 56) rfl))) (mvT hZ (hw _ (List.mem_of_getElem? (i := 57) rfl))) (by decide) (mvT hZ (hw _ (List.mem_of_getElem? (i := 59) rfl))) (mvT hZ (hw _ (List.mem_of_getElem? (i := 58) rfl))) (backOf (W := 0) (rm3 l Z a0 hw [] (B n) (Int32.ofNat n) h0 n0 Z0 (HC.2 n hn16).2.1) hZ (hw _ (List.mem_of_getElem? (i := 61) rfl)) (hw _ (List.mem_of_getElem? (i := 60) rfl)) (by decide) (by decide)) q12a q12c (g := (mkF m 1 #[.val (.ref (B n)), .val (.double (FP.l2d aa)), .second, .val (.double (FP.l2d bb)), .second, .unset, .unset] [(.ref (B n))])) rfl (by rw [hml]; rfl) (Steps.refl _) (argsL := []) (rest := []) (lenOf pd_3 rfl) rfl (by show 2 * 0 + _ ≤ _; exact Nat.le_of_eq rfl) (hb hby d5_1) (fun _ _ => ⟨rfl, e0, (by decide : 0 + 0 ≤ _), (by decide : 0 + 0 ≤ _)⟩)
  dsimp only [Pt.U, Pt.locs, Pt.cells, Pt.slots] at X12 l12 y12 z12 st12 hQ12
  subst l12 y12 z12
  obtain ⟨rfl, N12, e12⟩ := hQ12
  refine own_thru st12 ?_
  show own_E _ _ _ _ _ _ _ T12 (mkF m 4 #[.val (.ref (B n)), .val (.double (FP.l2d aa)), .second, .val (.double (FP.l2d bb)), .second, .unset, .unset] [(.int (Int32.ofNat n))])
  have NA := Fr.app N0 N12
  rcases hn with rfl | rfl | rfl | rfl
  · have hd0 : decode c.code (mkF m 4 #[.val (.ref (B 0)), .val (.double (FP.l2d aa)), .second, .val (.double (FP.l2d bb)), .second, .unset, .unset] [(.int (Int32.ofNat 0))]).pc = .ok (.tableswitch 347 0 15 #[80, 88, 96, 120, 128, 138, 148, 158, 183, 208, 233, 252, 271, 290, 309, 328], 80) := hb hby d5_4
    have st0 := fun t => XS.tswIn (e := e) (target := t) X12.here hx (g := (mkF m 4 #[.val (.ref (B 0)), .val (.double (FP.l2d aa)), .second, .val (.double (FP.l2d bb)), .second, .unset, .unset] [(.int (Int32.ofNat 0))])) rfl (pc0 := 4) (pc' := 84) (o := 80) rfl hd0 (i := Int32.ofNat 0) (rest := []) rfl (by decide) (by decide) (by decide) (by decide)
    refine own_via st0 ?_
    show own_E _ _ _ _ _ _ _ T12 (mkF m 84 #[.val (.ref (B 0)), .val (.double (FP.l2d aa)), .second, .val (.double (FP.l2d bb)), .second, .unset, .unset] [])
    refine own_via (fun t => XS.dloadN X12.here hx rfl (hb hby d5_84) rfl) ?_
    show own_E _ _ _ _ _ _ _ T12 (mkF m 85 #[.val (.ref (B 0)), .val (.double (FP.l2d aa)), .second, .val (.double (FP.l2d bb)), .second, .unset, .unset] [(.double (FP.l2d aa))])
    refine own_via (fun t => XS.dloadN X12.here hx rfl (hb hby d5_85) rfl) ?_
    show own_E _ _ _ _ _ _ _ T12 (mkF m 86 #[.val (.ref (B 0)), .val (.double (FP.l2d aa)), .second, .val (.double (FP.l2d bb)), .second, .unset, .unset] [(.double (FP.l2d bb)), (.double (FP.l2d aa))])
    refine own_via (fun t => XS.daddS X12.here hx rfl (hb hby d5_86) rfl (nn_w (dadd_w ba53 bb53)) (dadd_w ba53 bb53)) ?_
    show own_E _ _ _ _ _ _ _ T12 (mkF m 87 #[.val (.ref (B 0)), .val (.double (FP.l2d aa)), .second, .val (.double (FP.l2d bb)), .second, .unset, .unset] [(.double (FP.l2d (aa + bb)))])
    refine own_via (fun t => XS.dstore X12.here hx rfl (hb hby d5_87) rfl (l' := #[.val (.ref (B 0)), .val (.double (FP.l2d aa)), .second, .val (.double (FP.l2d bb)), .second, .val (.double (FP.l2d (aa + bb))), .second]) rfl) ?_
    show own_E _ _ _ _ _ _ _ T12 (mkF m 89 #[.val (.ref (B 0)), .val (.double (FP.l2d aa)), .second, .val (.double (FP.l2d bb)), .second, .val (.double (FP.l2d (aa + bb))), .second] [])
    refine own_via (fun t => XS.goto X12.here hx rfl (pc0 := 89) (pc' := 360) rfl (hb hby d5_89) (by decide) (by decide)) ?_
    show own_E _ _ _ _ _ _ _ T12 (mkF m 360 #[.val (.ref (B 0)), .val (.double (FP.l2d aa)), .second, .val (.double (FP.l2d bb)), .second, .val (.double (FP.l2d (aa + bb))), .second] [])
    refine own_via (fun t => XS.dload X12.here hx rfl (hb hby d5_360) rfl) ?_
    show own_E _ _ _ _ _ _ _ T12 (mkF m 362 #[.val (.ref (B 0)), .val (.double (FP.l2d aa)), .second, .val (.double (FP.l2d bb)), .second, .val (.double (FP.l2d (aa + bb))), .second] [(.double (FP.l2d (aa + bb)))])
    exact own_ret X12 hx hlk Bd.returns rfl (Or.inr (Or.inr (Or.inl ⟨rfl, rfl, _, rfl⟩))) (hb hby d5_362) (by decide) (by decide) ⟨congrArg (fun z => some (Value.double (FP.l2d z))) (show (aa + bb) = own_op 0 aa bb from (if_pos rfl).symm), NA, e12⟩
  · have hd0 : decode c.code (mkF m 4 #[.val (.ref (B 4)), .val (.double (FP.l2d aa)), .second, .val (.double (FP.l2d bb)), .second, .unset, .unset] [(.int (Int32.ofNat 4))]).pc = .ok (.tableswitch 347 0 15 #[80, 88, 96, 120, 128, 138, 148, 158, 183, 208, 233, 252, 271, 290, 309, 328], 80) := hb hby d5_4
    have st0 := fun t => XS.tswIn (e := e) (target := t) X12.here hx (g := (mkF m 4 #[.val (.ref (B 4)), .val (.double (FP.l2d aa)), .second, .val (.double (FP.l2d bb)), .second, .unset, .unset] [(.int (Int32.ofNat 4))])) rfl (pc0 := 4) (pc' := 132) (o := 128) rfl hd0 (i := Int32.ofNat 4) (rest := []) rfl (by decide) (by decide) (by decide) (by decide)
    refine own_via st0 ?_
    show own_E _ _ _ _ _ _ _ T12 (mkF m 132 #[.val (.ref (B 4)), .val (.double (FP.l2d aa)), .second, .val (.double (FP.l2d bb)), .second, .unset, .unset] [])
    refine own_via (fun t => XS.dloadN X12.here hx rfl (hb hby d5_132) rfl) ?_
    show own_E _ _ _ _ _ _ _ T12 (mkF m 133 #[.val (.ref (B 4)), .val (.double (FP.l2d aa)), .second, .val (.double (FP.l2d bb)), .second, .unset, .unset] [(.double (FP.l2d aa))])
    refine own_via (fun t => XS.dloadN X12.here hx rfl (hb hby d5_133) rfl) ?_
    show own_E _ _ _ _ _ _ _ T12 (mkF m 134 #[.val (.ref (B 4)), .val (.double (FP.l2d aa)), .second, .val (.double (FP.l2d bb)), .second, .unset, .unset] [(.double (FP.l2d bb)), (.double (FP.l2d aa))])
    by_cases c134_13 : aa < bb
    · obtain ⟨T14, X14, e14, st14⟩ := natS X12 hx hZ (y := (⟨"java/lang/Math", "min", "(DD)D"⟩ : MethodName)) hown (hw _ (List.mem_of_getElem? (i := 70) rfl)) (hw _ (List.mem_of_getElem? (i := 71) rfl)) (hw _ (List.mem_of_getElem? (i := 72) rfl)) (by0 := jdk_29_method_72_code) (ml := 4) (rt := some .double) (hw _ (List.mem_of_getElem? (i := 73) rfl)) (by decide) e12 (W := 0) (F := fun a' => a' = #[.double (FP.l2d aa), .double (FP.l2d bb)] ∧ Jvm.Free.Fl.NoNaN64 (FP.l2d aa) ∧ Jvm.Free.Fl.NoNaN64 (FP.l2d bb)) (fun hc => Jvm.Free.Fl.Abs.minD_pays (FP.l2d aa) (FP.l2d bb) (own_minc hc) (by decide) (by decide)) (g := (mkF m 134 #[.val (.ref (B 4)), .val (.double (FP.l2d aa)), .second, .val (.double (FP.l2d bb)), .second, .unset, .unset] [(.double (FP.l2d bb)), (.double (FP.l2d aa))])) rfl (by rw [hml]; rfl) (argsL := [(.double (FP.l2d aa)), (.double (FP.l2d bb))]) (rest := []) (lenOf pd_5 rfl) rfl (by show 2 * 0 + _ ≤ _; exact Nat.le_of_eq rfl) (hb hby d5_134) (by decide) (by decide) ⟨rfl, nn_w rfl, nn_w rfl⟩ (congrArg Value.double (min_l ba53 bb53 c134_13))
      refine own_via st14 ?_
      show own_E _ _ _ _ _ _ _ T14 (mkF m 137 #[.val (.ref (B 4)), .val (.double (FP.l2d aa)), .second, .val (.double (FP.l2d bb)), .second, .unset, .unset] [(.double (FP.l2d aa))])
      refine own_via (fun t => XS.dstore X14.here hx rfl (hb hby d5_137) rfl (l' := #[.val (.ref (B 4)), .val (.double (FP.l2d aa)), .second, .val (.double (FP.l2d bb)), .second, .val (.double (FP.l2d aa)), .second]) rfl) ?_
      show own_E _ _ _ _ _ _ _ T14 (mkF m 139 #[.val (.ref (B 4)), .val (.double (FP.l2d aa)), .second, .val (.double (FP.l2d bb)), .second, .val (.double (FP.l2d aa)), .second] [])
      refine own_via (fun t => XS.goto X14.here hx rfl (pc0 := 139) (pc' := 360) rfl (hb hby d5_139) (by decide) (by decide)) ?_
      show own_E _ _ _ _ _ _ _ T14 (mkF m 360 #[.val (.ref (B 4)), .val (.double (FP.l2d aa)), .second, .val (.double (FP.l2d bb)), .second, .val (.double (FP.l2d aa)), .second] [])
      refine own_via (fun t => XS.dload X14.here hx rfl (hb hby d5_360) rfl) ?_
      show own_E _ _ _ _ _ _ _ T14 (mkF m 362 #[.val (.ref (B 4)), .val (.double (FP.l2d aa)), .second, .val (.double (FP.l2d bb)), .second, .val (.double (FP.l2d aa)), .second] [(.double (FP.l2d aa))])
      exact own_ret X14 hx hlk Bd.returns rfl (Or.inr (Or.inr (Or.inl ⟨rfl, rfl, _, rfl⟩))) (hb hby d5_362) (by decide) (by decide) ⟨congrArg (fun z => some (Value.double (FP.l2d z))) (show aa = own_op 4 aa bb from (if_pos c134_13).symm), NA, e14⟩
    · obtain ⟨T15, X15, e15, st15⟩ := natS X12 hx hZ (y := (⟨"java/lang/Math", "min", "(DD)D"⟩ : MethodName)) hown (hw _ (List.mem_of_getElem? (i := 70) rfl)) (hw _ (List.mem_of_getElem? (i := 71) rfl)) (hw _ (List.mem_of_getElem? (i := 72) rfl)) (by0 := jdk_29_method_72_code) (ml := 4) (rt := some .double) (hw _ (List.mem_of_getElem? (i := 73) rfl)) (by decide) e12 (W := 0) (F := fun a' => a' = #[.double (FP.l2d aa), .double (FP.l2d bb)] ∧ Jvm.Free.Fl.NoNaN64 (FP.l2d aa) ∧ Jvm.Free.Fl.NoNaN64 (FP.l2d bb)) (fun hc => Jvm.Free.Fl.Abs.minD_pays (FP.l2d aa) (FP.l2d bb) (own_minc hc) (by decide) (by decide)) (g := (mkF m 134 #[.val (.ref (B 4)), .val (.double (FP.l2d aa)), .second, .val (.double (FP.l2d bb)), .second, .unset, .unset] [(.double (FP.l2d bb)), (.double (FP.l2d aa))])) rfl (by rw [hml]; rfl) (argsL := [(.double (FP.l2d aa)), (.double (FP.l2d bb))]) (rest := []) (lenOf pd_5 rfl) rfl (by show 2 * 0 + _ ≤ _; exact Nat.le_of_eq rfl) (hb hby d5_134) (by decide) (by decide) ⟨rfl, nn_w rfl, nn_w rfl⟩ (congrArg Value.double (min_g ba53 bb53 c134_13))
      refine own_via st15 ?_
      show own_E _ _ _ _ _ _ _ T15 (mkF m 137 #[.val (.ref (B 4)), .val (.double (FP.l2d aa)), .second, .val (.double (FP.l2d bb)), .second, .unset, .unset] [(.double (FP.l2d bb))])
      refine own_via (fun t => XS.dstore X15.here hx rfl (hb hby d5_137) rfl (l' := #[.val (.ref (B 4)), .val (.double (FP.l2d aa)), .second, .val (.double (FP.l2d bb)), .second, .val (.double (FP.l2d bb)), .second]) rfl) ?_
      show own_E _ _ _ _ _ _ _ T15 (mkF m 139 #[.val (.ref (B 4)), .val (.double (FP.l2d aa)), .second, .val (.double (FP.l2d bb)), .second, .val (.double (FP.l2d bb)), .second] [])
      refine own_via (fun t => XS.goto X15.here hx rfl (pc0 := 139) (pc' := 360) rfl (hb hby d5_139) (by decide) (by decide)) ?_
      show own_E _ _ _ _ _ _ _ T15 (mkF m 360 #[.val (.ref (B 4)), .val (.double (FP.l2d aa)), .second, .val (.double (FP.l2d bb)), .second, .val (.double (FP.l2d bb)), .second] [])
      refine own_via (fun t => XS.dload X15.here hx rfl (hb hby d5_360) rfl) ?_
      show own_E _ _ _ _ _ _ _ T15 (mkF m 362 #[.val (.ref (B 4)), .val (.double (FP.l2d aa)), .second, .val (.double (FP.l2d bb)), .second, .val (.double (FP.l2d bb)), .second] [(.double (FP.l2d bb))])
      exact own_ret X15 hx hlk Bd.returns rfl (Or.inr (Or.inr (Or.inl ⟨rfl, rfl, _, rfl⟩))) (hb hby d5_362) (by decide) (by decide) ⟨congrArg (fun z => some (Value.double (FP.l2d z))) (show bb = own_op 4 aa bb from (if_neg c134_13).symm), NA, e15⟩
  · have hd0 : decode c.code (mkF m 4 #[.val (.ref (B 5)), .val (.double (FP.l2d aa)), .second, .val (.double (FP.l2d bb)), .second, .unset, .unset] [(.int (Int32.ofNat 5))]).pc = .ok (.tableswitch 347 0 15 #[80, 88, 96, 120, 128, 138, 148, 158, 183, 208, 233, 252, 271, 290, 309, 328], 80) := hb hby d5_4
    have st0 := fun t => XS.tswIn (e := e) (target := t) X12.here hx (g := (mkF m 4 #[.val (.ref (B 5)), .val (.double (FP.l2d aa)), .second, .val (.double (FP.l2d bb)), .second, .unset, .unset] [(.int (Int32.ofNat 5))])) rfl (pc0 := 4) (pc' := 142) (o := 138) rfl hd0 (i := Int32.ofNat 5) (rest := []) rfl (by decide) (by decide) (by decide) (by decide)
    refine own_via st0 ?_
    show own_E _ _ _ _ _ _ _ T12 (mkF m 142 #[.val (.ref (B 5)), .val (.double (FP.l2d aa)), .second, .val (.double (FP.l2d bb)), .second, .unset, .unset] [])
    refine own_via (fun t => XS.dloadN X12.here hx rfl (hb hby d5_142) rfl) ?_
    show own_E _ _ _ _ _ _ _ T12 (mkF m 143 #[.val (.ref (B 5)), .val (.double (FP.l2d aa)), .second, .val (.double (FP.l2d bb)), .second, .unset, .unset] [(.double (FP.l2d aa))])
    refine own_via (fun t => XS.dloadN X12.here hx rfl (hb hby d5_143) rfl) ?_
    show own_E _ _ _ _ _ _ _ T12 (mkF m 144 #[.val (.ref (B 5)), .val (.double (FP.l2d aa)), .second, .val (.double (FP.l2d bb)), .second, .unset, .unset] [(.double (FP.l2d bb)), (.double (FP.l2d aa))])
    by_cases c144_16 : aa < bb
    · obtain ⟨T17, X17, e17, st17⟩ := natS X12 hx hZ (y := (⟨"java/lang/Math", "max", "(DD)D"⟩ : MethodName)) hown (hw _ (List.mem_of_getElem? (i := 74) rfl)) (hw _ (List.mem_of_getElem? (i := 75) rfl)) (hw _ (List.mem_of_getElem? (i := 72) rfl)) (by0 := jdk_29_method_68_code) (ml := 4) (rt := some .double) (hw _ (List.mem_of_getElem? (i := 76) rfl)) (by decide) e12 (W := 0) (F := fun a' => a' = #[.double (FP.l2d aa), .double (FP.l2d bb)] ∧ Jvm.Free.Fl.NoNaN64 (FP.l2d aa) ∧ Jvm.Free.Fl.NoNaN64 (FP.l2d bb)) (fun hc => Jvm.Free.Fl.Abs.maxD_pays (FP.l2d aa) (FP.l2d bb) (own_maxc hc) (by decide) (by decide)) (g := (mkF m 144 #[.val (.ref (B 5)), .val (.double (FP.l2d aa)), .second, .val (.double (FP.l2d bb)), .second, .unset, .unset] [(.double (FP.l2d bb)), (.double (FP.l2d aa))])) rfl (by rw [hml]; rfl) (argsL := [(.double (FP.l2d aa)), (.double (FP.l2d bb))]) (rest := []) (lenOf pd_5 rfl) rfl (by show 2 * 0 + _ ≤ _; exact Nat.le_of_eq rfl) (hb hby d5_144) (by decide) (by decide) ⟨rfl, nn_w rfl, nn_w rfl⟩ (congrArg Value.double (max_l ba53 bb53 c144_16))
      refine own_via st17 ?_
      show own_E _ _ _ _ _ _ _ T17 (mkF m 147 #[.val (.ref (B 5)), .val (.double (FP.l2d aa)), .second, .val (.double (FP.l2d bb)), .second, .unset, .unset] [(.double (FP.l2d bb))])
      refine own_via (fun t => XS.dstore X17.here hx rfl (hb hby d5_147) rfl (l' := #[.val (.ref (B 5)), .val (.double (FP.l2d aa)), .second, .val (.double (FP.l2d bb)), .second, .val (.double (FP.l2d bb)), .second]) rfl) ?_
      show own_E _ _ _ _ _ _ _ T17 (mkF m 149 #[.val (.ref (B 5)), .val (.double (FP.l2d aa)), .second, .val (.double (FP.l2d bb)), .second, .val (.double (FP.l2d bb)), .second] [])
      refine own_via (fun t => XS.goto X17.here hx rfl (pc0 := 149) (pc' := 360) rfl (hb hby d5_149) (by decide) (by decide)) ?_
      show own_E _ _ _ _ _ _ _ T17 (mkF m 360 #[.val (.ref (B 5)), .val (.double (FP.l2d aa)), .second, .val (.double (FP.l2d bb)), .second, .val (.double (FP.l2d bb)), .second] [])
      refine own_via (fun t => XS.dload X17.here hx rfl (hb hby d5_360) rfl) ?_
      show own_E _ _ _ _ _ _ _ T17 (mkF m 362 #[.val (.ref (B 5)), .val (.double (FP.l2d aa)), .second, .val (.double (FP.l2d bb)), .second, .val (.double (FP.l2d bb)), .second] [(.double (FP.l2d bb))])
      exact own_ret X17 hx hlk Bd.returns rfl (Or.inr (Or.inr (Or.inl ⟨rfl, rfl, _, rfl⟩))) (hb hby d5_362) (by decide) (by decide) ⟨congrArg (fun z => some (Value.double (FP.l2d z))) (show bb = own_op 5 aa bb from (if_pos c144_16).symm), NA, e17⟩
    · obtain ⟨T18, X18, e18, st18⟩ := natS X12 hx hZ (y := (⟨"java/lang/Math", "max", "(DD)D"⟩ : MethodName)) hown (hw _ (List.mem_of_getElem? (i := 74) rfl)) (hw _ (List.mem_of_getElem? (i := 75) rfl)) (hw _ (List.mem_of_getElem? (i := 72) rfl)) (by0 := jdk_29_method_68_code) (ml := 4) (rt := some .double) (hw _ (List.mem_of_getElem? (i := 76) rfl)) (by decide) e12 (W := 0) (F := fun a' => a' = #[.double (FP.l2d aa), .double (FP.l2d bb)] ∧ Jvm.Free.Fl.NoNaN64 (FP.l2d aa) ∧ Jvm.Free.Fl.NoNaN64 (FP.l2d bb)) (fun hc => Jvm.Free.Fl.Abs.maxD_pays (FP.l2d aa) (FP.l2d bb) (own_maxc hc) (by decide) (by decide)) (g := (mkF m 144 #[.val (.ref (B 5)), .val (.double (FP.l2d aa)), .second, .val (.double (FP.l2d bb)), .second, .unset, .unset] [(.double (FP.l2d bb)), (.double (FP.l2d aa))])) rfl (by rw [hml]; rfl) (argsL := [(.double (FP.l2d aa)), (.double (FP.l2d bb))]) (rest := []) (lenOf pd_5 rfl) rfl (by show 2 * 0 + _ ≤ _; exact Nat.le_of_eq rfl) (hb hby d5_144) (by decide) (by decide) ⟨rfl, nn_w rfl, nn_w rfl⟩ (congrArg Value.double (max_g ba53 bb53 c144_16))
      refine own_via st18 ?_
      show own_E _ _ _ _ _ _ _ T18 (mkF m 147 #[.val (.ref (B 5)), .val (.double (FP.l2d aa)), .second, .val (.double (FP.l2d bb)), .second, .unset, .unset] [(.double (FP.l2d aa))])
      refine own_via (fun t => XS.dstore X18.here hx rfl (hb hby d5_147) rfl (l' := #[.val (.ref (B 5)), .val (.double (FP.l2d aa)), .second, .val (.double (FP.l2d bb)), .second, .val (.double (FP.l2d aa)), .second]) rfl) ?_
      show own_E _ _ _ _ _ _ _ T18 (mkF m 149 #[.val (.ref (B 5)), .val (.double (FP.l2d aa)), .second, .val (.double (FP.l2d bb)), .second, .val (.double (FP.l2d aa)), .second] [])
      refine own_via (fun t => XS.goto X18.here hx rfl (pc0 := 149) (pc' := 360) rfl (hb hby d5_149) (by decide) (by decide)) ?_
      show own_E _ _ _ _ _ _ _ T18 (mkF m 360 #[.val (.ref (B 5)), .val (.double (FP.l2d aa)), .second, .val (.double (FP.l2d bb)), .second, .val (.double (FP.l2d aa)), .second] [])
      refine own_via (fun t => XS.dload X18.here hx rfl (hb hby d5_360) rfl) ?_
      show own_E _ _ _ _ _ _ _ T18 (mkF m 362 #[.val (.ref (B 5)), .val (.double (FP.l2d aa)), .second, .val (.double (FP.l2d bb)), .second, .val (.double (FP.l2d aa)), .second] [(.double (FP.l2d aa))])
      exact own_ret X18 hx hlk Bd.returns rfl (Or.inr (Or.inr (Or.inl ⟨rfl, rfl, _, rfl⟩))) (hb hby d5_362) (by decide) (by decide) ⟨congrArg (fun z => some (Value.double (FP.l2d z))) (show aa = own_op 5 aa bb from (if_neg c144_16).symm), NA, e18⟩
  · have hd0 : decode c.code (mkF m 4 #[.val (.ref (B 8)), .val (.double (FP.l2d aa)), .second, .val (.double (FP.l2d bb)), .second, .unset, .unset] [(.int (Int32.ofNat 8))]).pc = .ok (.tableswitch 347 0 15 #[80, 88, 96, 120, 128, 138, 148, 158, 183, 208, 233, 252, 271, 290, 309, 328], 80) := hb hby d5_4
    have st0 := fun t => XS.tswIn (e := e) (target := t) X12.here hx (g := (mkF m 4 #[.val (.ref (B 8)), .val (.double (FP.l2d aa)), .second, .val (.double (FP.l2d bb)), .second, .unset, .unset] [(.int (Int32.ofNat 8))])) rfl (pc0 := 4) (pc' := 187) (o := 183) rfl hd0 (i := Int32.ofNat 8) (rest := []) rfl (by decide) (by decide) (by decide) (by decide)
    refine own_via st0 ?_
    show own_E _ _ _ _ _ _ _ T12 (mkF m 187 #[.val (.ref (B 8)), .val (.double (FP.l2d aa)), .second, .val (.double (FP.l2d bb)), .second, .unset, .unset] [])
    refine own_via (fun t => XS.dloadN X12.here hx rfl (hb hby d5_187) rfl) ?_
    show own_E _ _ _ _ _ _ _ T12 (mkF m 188 #[.val (.ref (B 8)), .val (.double (FP.l2d aa)), .second, .val (.double (FP.l2d bb)), .second, .unset, .unset] [(.double (FP.l2d aa))])
    refine own_via (fun t => XS.dconst0 X12.here hx rfl (hb hby d5_188) own_d0) ?_
    show own_E _ _ _ _ _ _ _ T12 (mkF m 189 #[.val (.ref (B 8)), .val (.double (FP.l2d aa)), .second, .val (.double (FP.l2d bb)), .second, .unset, .unset] [(.double (FP.l2d 0)), (.double (FP.l2d aa))])
    refine own_via (fun t => XS.dcmpS X12.here hx rfl (hb hby d5_189) rfl rfl) ?_
    show own_E _ _ _ _ _ _ _ T12 (mkF m 190 #[.val (.ref (B 8)), .val (.double (FP.l2d aa)), .second, .val (.double (FP.l2d bb)), .second, .unset, .unset] [(.int (cmpValue (FP.dcmp (FP.l2d aa) (FP.l2d 0)) .l))])
    by_cases c190_19 : (cmpValue (FP.dcmp (FP.l2d aa) (FP.l2d 0)) .l) = (0 : Int32)
    · refine own_via (fun t => XS.ifNo X12.here hx rfl (hb hby d5_190) rfl ((if0 _ _).trans (teq c190_19).2)) ?_
      show own_E _ _ _ _ _ _ _ T12 (mkF m 193 #[.val (.ref (B 8)), .val (.double (FP.l2d aa)), .second, .val (.double (FP.l2d bb)), .second, .unset, .unset] [])
      refine own_via (fun t => XS.dloadN X12.here hx rfl (hb hby d5_193) rfl) ?_
      show own_E _ _ _ _ _ _ _ T12 (mkF m 194 #[.val (.ref (B 8)), .val (.double (FP.l2d aa)), .second, .val (.double (FP.l2d bb)), .second, .unset, .unset] [(.double (FP.l2d bb))])
      refine own_via (fun t => XS.dconst0 X12.here hx rfl (hb hby d5_194) own_d0) ?_
      show own_E _ _ _ _ _ _ _ T12 (mkF m 195 #[.val (.ref (B 8)), .val (.double (FP.l2d aa)), .second, .val (.double (FP.l2d bb)), .second, .unset, .unset] [(.double (FP.l2d 0)), (.double (FP.l2d bb))])
      refine own_via (fun t => XS.dcmpS X12.here hx rfl (hb hby d5_195) rfl rfl) ?_
      show own_E _ _ _ _ _ _ _ T12 (mkF m 196 #[.val (.ref (B 8)), .val (.double (FP.l2d aa)), .second, .val (.double (FP.l2d bb)), .second, .unset, .unset] [(.int (cmpValue (FP.dcmp (FP.l2d bb) (FP.l2d 0)) .l))])
      by_cases c196_20 : (cmpValue (FP.dcmp (FP.l2d bb) (FP.l2d 0)) .l) = (0 : Int32)
      · refine own_via (fun t => XS.ifYes X12.here hx rfl (pc0 := 196) (pc' := 203) rfl (hb hby d5_196) rfl ((if0 _ _).trans (teq c196_20).1) (by decide) (by decide)) ?_
        show own_E _ _ _ _ _ _ _ T12 (mkF m 203 #[.val (.ref (B 8)), .val (.double (FP.l2d aa)), .second, .val (.double (FP.l2d bb)), .second, .unset, .unset] [])
        refine own_via (fun t => XS.iconst X12.here hx rfl (hb hby d5_203)) ?_
        show own_E _ _ _ _ _ _ _ T12 (mkF m 204 #[.val (.ref (B 8)), .val (.double (FP.l2d aa)), .second, .val (.double (FP.l2d bb)), .second, .unset, .unset] [(.int (0 : Int32))])
        obtain ⟨_, _, ⟨T21, L21, k21, n21⟩, -, X21, ⟨Lc21, hQ21, l21, y21, z21⟩, st21⟩ := Jvm.LawKit.callS X12 hx (y := (⟨"com/example/strategos/strategos/dd/Operation", "truth", "(Z)D"⟩ : MethodName)) hown (mvT hZ (hw _ (List.mem_of_getElem? (i := 67) rfl))) (mvT hZ (hw _ (List.mem_of_getElem? (i := 68) rfl))) (mvT hZ (hw _ (List.mem_of_getElem? (i := 3) rfl))) (mvT hZ (hw _ (List.mem_of_getElem? (i := 69) rfl))) (by decide) (backOf (W := 0) (rm4 l Z a0 hw [] (0 : Int32) h0 n0 Z0) hZ (hw _ (List.mem_of_getElem? (i := 69) rfl)) (hw _ (List.mem_of_getElem? (i := 3) rfl)) (by decide) (by decide)) (g := (mkF m 204 #[.val (.ref (B 8)), .val (.double (FP.l2d aa)), .second, .val (.double (FP.l2d bb)), .second, .unset, .unset] [(.int (0 : Int32))])) rfl (by rw [hml]; rfl) (argsL := [(.int (0 : Int32))]) (rest := []) (lenOf pd_4 rfl) rfl (by show 2 * 0 + _ ≤ _; exact Nat.le_of_eq rfl) (hb hby d5_204) (fun _ _ => ⟨rfl, e12, (by decide : 0 + 0 ≤ _), (by decide : 0 + 0 ≤ _)⟩)
        dsimp only [Pt.U, Pt.locs, Pt.cells, Pt.slots] at X21 l21 y21 z21 st21 hQ21
        subst l21 y21 z21
        obtain ⟨rfl, N21, e21⟩ := hQ21
        refine own_via st21 ?_
        show own_E _ _ _ _ _ _ _ T21 (mkF m 207 #[.val (.ref (B 8)), .val (.double (FP.l2d aa)), .second, .val (.double (FP.l2d bb)), .second, .unset, .unset] [(.double (FP.l2d (if (0 : Int32) = 0 then 0 else 1)))])
        refine own_via (fun t => XS.dstore X21.here hx rfl (hb hby d5_207) rfl (l' := #[.val (.ref (B 8)), .val (.double (FP.l2d aa)), .second, .val (.double (FP.l2d bb)), .second, .val (.double (FP.l2d (if (0 : Int32) = 0 then 0 else 1))), .second]) rfl) ?_
        show own_E _ _ _ _ _ _ _ T21 (mkF m 209 #[.val (.ref (B 8)), .val (.double (FP.l2d aa)), .second, .val (.double (FP.l2d bb)), .second, .val (.double (FP.l2d (if (0 : Int32) = 0 then 0 else 1))), .second] [])
        refine own_via (fun t => XS.goto X21.here hx rfl (pc0 := 209) (pc' := 360) rfl (hb hby d5_209) (by decide) (by decide)) ?_
        show own_E _ _ _ _ _ _ _ T21 (mkF m 360 #[.val (.ref (B 8)), .val (.double (FP.l2d aa)), .second, .val (.double (FP.l2d bb)), .second, .val (.double (FP.l2d (if (0 : Int32) = 0 then 0 else 1))), .second] [])
        refine own_via (fun t => XS.dload X21.here hx rfl (hb hby d5_360) rfl) ?_
        show own_E _ _ _ _ _ _ _ T21 (mkF m 362 #[.val (.ref (B 8)), .val (.double (FP.l2d aa)), .second, .val (.double (FP.l2d bb)), .second, .val (.double (FP.l2d (if (0 : Int32) = 0 then 0 else 1))), .second] [(.double (FP.l2d (if (0 : Int32) = 0 then 0 else 1)))])
        exact own_ret X21 hx hlk Bd.returns rfl (Or.inr (Or.inr (Or.inl ⟨rfl, rfl, _, rfl⟩))) (hb hby d5_362) (by decide) (by decide) ⟨congrArg (fun z => some (Value.double (FP.l2d z))) (show (if (0 : Int32) = 0 then 0 else 1 : Int64) = own_op 8 aa bb from by rw [if_pos rfl]; exact (if_pos ⟨(own_cmp ba53 own_b0).mp c190_19, (own_cmp bb53 own_b0).mp c196_20⟩).symm), Fr.app NA N21, e21⟩
      · refine own_via (fun t => XS.ifNo X12.here hx rfl (hb hby d5_196) rfl ((if0 _ _).trans (feq c196_20).1)) ?_
        show own_E _ _ _ _ _ _ _ T12 (mkF m 199 #[.val (.ref (B 8)), .val (.double (FP.l2d aa)), .second, .val (.double (FP.l2d bb)), .second, .unset, .unset] [])
        refine own_via (fun t => XS.iconst X12.here hx rfl (hb hby d5_199)) ?_
        show own_E _ _ _ _ _ _ _ T12 (mkF m 200 #[.val (.ref (B 8)), .val (.double (FP.l2d aa)), .second, .val (.double (FP.l2d bb)), .second, .unset, .unset] [(.int (1 : Int32))])
        refine own_via (fun t => XS.goto X12.here hx rfl (pc0 := 200) (pc' := 204) rfl (hb hby d5_200) (by decide) (by decide)) ?_
        show own_E _ _ _ _ _ _ _ T12 (mkF m 204 #[.val (.ref (B 8)), .val (.double (FP.l2d aa)), .second, .val (.double (FP.l2d bb)), .second, .unset, .unset] [(.int (1 : Int32))])
        obtain ⟨_, _, ⟨T22, L22, k22, n22⟩, -, X22, ⟨Lc22, hQ22, l22, y22, z22⟩, st22⟩ := Jvm.LawKit.callS X12 hx (y := (⟨"com/example/strategos/strategos/dd/Operation", "truth", "(Z)D"⟩ : MethodName)) hown (mvT hZ (hw _ (List.mem_of_getElem? (i := 67) rfl))) (mvT hZ (hw _ (List.mem_of_getElem? (i := 68) rfl))) (mvT hZ (hw _ (List.mem_of_getElem? (i := 3) rfl))) (mvT hZ (hw _ (List.mem_of_getElem? (i := 69) rfl))) (by decide) (backOf (W := 0) (rm4 l Z a0 hw [] (1 : Int32) h0 n0 Z0) hZ (hw _ (List.mem_of_getElem? (i := 69) rfl)) (hw _ (List.mem_of_getElem? (i := 3) rfl)) (by decide) (by decide)) (g := (mkF m 204 #[.val (.ref (B 8)), .val (.double (FP.l2d aa)), .second, .val (.double (FP.l2d bb)), .second, .unset, .unset] [(.int (1 : Int32))])) rfl (by rw [hml]; rfl) (argsL := [(.int (1 : Int32))]) (rest := []) (lenOf pd_4 rfl) rfl (by show 2 * 0 + _ ≤ _; exact Nat.le_of_eq rfl) (hb hby d5_204) (fun _ _ => ⟨rfl, e12, (by decide : 0 + 0 ≤ _), (by decide : 0 + 0 ≤ _)⟩)
        dsimp only [Pt.U, Pt.locs, Pt.cells, Pt.slots] at X22 l22 y22 z22 st22 hQ22
        subst l22 y22 z22
        obtain ⟨rfl, N22, e22⟩ := hQ22
        refine own_via st22 ?_
        show own_E _ _ _ _ _ _ _ T22 (mkF m 207 #[.val (.ref (B 8)), .val (.double (FP.l2d aa)), .second, .val (.double (FP.l2d bb)), .second, .unset, .unset] [(.double (FP.l2d (if (1 : Int32) = 0 then 0 else 1)))])
        refine own_via (fun t => XS.dstore X22.here hx rfl (hb hby d5_207) rfl (l' := #[.val (.ref (B 8)), .val (.double (FP.l2d aa)), .second, .val (.double (FP.l2d bb)), .second, .val (.double (FP.l2d (if (1 : Int32) = 0 then 0 else 1))), .second]) rfl) ?_
        show own_E _ _ _ _ _ _ _ T22 (mkF m 209 #[.val (.ref (B 8)), .val (.double (FP.l2d aa)), .second, .val (.double (FP.l2d bb)), .second, .val (.double (FP.l2d (if (1 : Int32) = 0 then 0 else 1))), .second] [])
        refine own_via (fun t => XS.goto X22.here hx rfl (pc0 := 209) (pc' := 360) rfl (hb hby d5_209) (by decide) (by decide)) ?_
        show own_E _ _ _ _ _ _ _ T22 (mkF m 360 #[.val (.ref (B 8)), .val (.double (FP.l2d aa)), .second, .val (.double (FP.l2d bb)), .second, .val (.double (FP.l2d (if (1 : Int32) = 0 then 0 else 1))), .second] [])
        refine own_via (fun t => XS.dload X22.here hx rfl (hb hby d5_360) rfl) ?_
        show own_E _ _ _ _ _ _ _ T22 (mkF m 362 #[.val (.ref (B 8)), .val (.double (FP.l2d aa)), .second, .val (.double (FP.l2d bb)), .second, .val (.double (FP.l2d (if (1 : Int32) = 0 then 0 else 1))), .second] [(.double (FP.l2d (if (1 : Int32) = 0 then 0 else 1)))])
        exact own_ret X22 hx hlk Bd.returns rfl (Or.inr (Or.inr (Or.inl ⟨rfl, rfl, _, rfl⟩))) (hb hby d5_362) (by decide) (by decide) ⟨congrArg (fun z => some (Value.double (FP.l2d z))) (show (if (1 : Int32) = 0 then 0 else 1 : Int64) = own_op 8 aa bb from by rw [if_neg (by decide)]; exact (if_neg (fun q => c196_20 ((own_cmp bb53 own_b0).mpr q.2))).symm), Fr.app NA N22, e22⟩
    · refine own_via (fun t => XS.ifYes X12.here hx rfl (pc0 := 190) (pc' := 199) rfl (hb hby d5_190) rfl ((if0 _ _).trans (feq c190_19).2) (by decide) (by decide)) ?_
      show own_E _ _ _ _ _ _ _ T12 (mkF m 199 #[.val (.ref (B 8)), .val (.double (FP.l2d aa)), .second, .val (.double (FP.l2d bb)), .second, .unset, .unset] [])
      refine own_via (fun t => XS.iconst X12.here hx rfl (hb hby d5_199)) ?_
      show own_E _ _ _ _ _ _ _ T12 (mkF m 200 #[.val (.ref (B 8)), .val (.double (FP.l2d aa)), .second, .val (.double (FP.l2d bb)), .second, .unset, .unset] [(.int (1 : Int32))])
      refine own_via (fun t => XS.goto X12.here hx rfl (pc0 := 200) (pc' := 204) rfl (hb hby d5_200) (by decide) (by decide)) ?_
      show own_E _ _ _ _ _ _ _ T12 (mkF m 204 #[.val (.ref (B 8)), .val (.double (FP.l2d aa)), .second, .val (.double (FP.l2d bb)), .second, .unset, .unset] [(.int (1 : Int32))])
      obtain ⟨_, _, ⟨T23, L23, k23, n23⟩, -, X23, ⟨Lc23, hQ23, l23, y23, z23⟩, st23⟩ := Jvm.LawKit.callS X12 hx (y := (⟨"com/example/strategos/strategos/dd/Operation", "truth", "(Z)D"⟩ : MethodName)) hown (mvT hZ (hw _ (List.mem_of_getElem? (i := 67) rfl))) (mvT hZ (hw _ (List.mem_of_getElem? (i := 68) rfl))) (mvT hZ (hw _ (List.mem_of_getElem? (i := 3) rfl))) (mvT hZ (hw _ (List.mem_of_getElem? (i := 69) rfl))) (by decide) (backOf (W := 0) (rm4 l Z a0 hw [] (1 : Int32) h0 n0 Z0) hZ (hw _ (List.mem_of_getElem? (i := 69) rfl)) (hw _ (List.mem_of_getElem? (i := 3) rfl)) (by decide) (by decide)) (g := (mkF m 204 #[.val (.ref (B 8)), .val (.double (FP.l2d aa)), .second, .val (.double (FP.l2d bb)), .second, .unset, .unset] [(.int (1 : Int32))])) rfl (by rw [hml]; rfl) (argsL := [(.int (1 : Int32))]) (rest := []) (lenOf pd_4 rfl) rfl (by show 2 * 0 + _ ≤ _; exact Nat.le_of_eq rfl) (hb hby d5_204) (fun _ _ => ⟨rfl, e12, (by decide : 0 + 0 ≤ _), (by decide : 0 + 0 ≤ _)⟩)
      dsimp only [Pt.U, Pt.locs, Pt.cells, Pt.slots] at X23 l23 y23 z23 st23 hQ23
      subst l23 y23 z23
      obtain ⟨rfl, N23, e23⟩ := hQ23
      refine own_via st23 ?_
      show own_E _ _ _ _ _ _ _ T23 (mkF m 207 #[.val (.ref (B 8)), .val (.double (FP.l2d aa)), .second, .val (.double (FP.l2d bb)), .second, .unset, .unset] [(.double (FP.l2d (if (1 : Int32) = 0 then 0 else 1)))])
      refine own_via (fun t => XS.dstore X23.here hx rfl (hb hby d5_207) rfl (l' := #[.val (.ref (B 8)), .val (.double (FP.l2d aa)), .second, .val (.double (FP.l2d bb)), .second, .val (.double (FP.l2d (if (1 : Int32) = 0 then 0 else 1))), .second]) rfl) ?_
      show own_E _ _ _ _ _ _ _ T23 (mkF m 209 #[.val (.ref (B 8)), .val (.double (FP.l2d aa)), .second, .val (.double (FP.l2d bb)), .second, .val (.double (FP.l2d (if (1 : Int32) = 0 then 0 else 1))), .second] [])
      refine own_via (fun t => XS.goto X23.here hx rfl (pc0 := 209) (pc' := 360) rfl (hb hby d5_209) (by decide) (by decide)) ?_
      show own_E _ _ _ _ _ _ _ T23 (mkF m 360 #[.val (.ref (B 8)), .val (.double (FP.l2d aa)), .second, .val (.double (FP.l2d bb)), .second, .val (.double (FP.l2d (if (1 : Int32) = 0 then 0 else 1))), .second] [])
      refine own_via (fun t => XS.dload X23.here hx rfl (hb hby d5_360) rfl) ?_
      show own_E _ _ _ _ _ _ _ T23 (mkF m 362 #[.val (.ref (B 8)), .val (.double (FP.l2d aa)), .second, .val (.double (FP.l2d bb)), .second, .val (.double (FP.l2d (if (1 : Int32) = 0 then 0 else 1))), .second] [(.double (FP.l2d (if (1 : Int32) = 0 then 0 else 1)))])
      exact own_ret X23 hx hlk Bd.returns rfl (Or.inr (Or.inr (Or.inl ⟨rfl, rfl, _, rfl⟩))) (hb hby d5_362) (by decide) (by decide) ⟨congrArg (fun z => some (Value.double (FP.l2d z))) (show (if (1 : Int32) = 0 then 0 else 1 : Int64) = own_op 8 aa bb from by rw [if_neg (by decide)]; exact (if_neg (fun q => c190_19 ((own_cmp ba53 own_b0).mpr q.1))).symm), Fr.app NA N23, e23⟩
set_option maxRecDepth 65536 in
set_option maxHeartbeats 40000000 in
theorem own_ap (l : Launch) (Z : State) (a0 : Array Value) (hw : ∀ d ∈ tables_1, d.before a0 Z = true) (B : Nat → Addr) (n : Nat) (hn : n < 16) (hg : n = 0 ∨ n = 4 ∨ n = 5 ∨ n = 8) (aa bb : Int64) (ha : own_K 10000 aa) (hb0 : own_K 10000 bb) (LD : Int64 → UInt64) (hL : FP.l2d = LD) (h0 : Heap) (n0 : Nat) (Z0 : n0 ≤ h0.size) (HC : own_C Z h0 B)
    {p : Program} {e : Env} {s : State} {m : MethodId} {args : Array Value} {below : List Frame} {meth : Method} {c : Code} {T : State} {locs : List Loc} (X : Stand p l e room_1 s m args below meth c T locs 1 16) (hx : p.tables.exec = Jvm.exec) (hZ : Z.Warmed39 s.vm) (hown : s.vm.findClass "com/example/strategos/strategos/dd/OperationCanAbstractPinLaw" = some m.cls) (hml : c.maxLocals = 16) (eT : T.heap = h0) (N : Fr n0 locs)
    {pc : Nat} {Ls : Array Slot} (hLs : Ls.size = 16) {rest : List Value} (hW : (rest.map fun v => v.category).sum ≤ 10) (hd : decode c.code pc = .ok (.invokevirtual 66, 3)) :
    ∃ T' locs', Stand p l e room_1 s m args below meth c T' locs' 1 16 ∧ T'.heap = h0 ∧ Fr n0 locs' ∧ Steps p.tables e below (T.setTop (mkF m pc Ls (.double (LD bb) :: .double (LD aa) :: .ref (B n) :: rest))) (T'.setTop (mkF m (pc + 3) Ls (.double (LD (own_op n aa bb)) :: rest))) := by
  obtain ⟨cq, kq, qa, qb, qc⟩ := isOf hZ eT (HC.2 n hn).1
  obtain ⟨_, _, ⟨T1, L1, k1, n1⟩, -, X1, ⟨Lc, hQ, l1, y1, z1⟩, st⟩ := X.virtualBack hx (y := (⟨"com/example/strategos/strategos/dd/Operation", "apply", "(DD)D"⟩ : MethodName)) (z := (⟨"com/example/strategos/strategos/dd/Operation", "apply", "(DD)D"⟩ : MethodName)) hown (mvT hZ (hw _ (List.mem_of_getElem? (i := 50) rfl))) (mvT hZ (hw _ (List.mem_of_getElem? (i := 51) rfl))) (notFace_of_selects (args := #[]) (mvT hZ (hw _ (List.mem_of_getElem? (i := 53) rfl)))) (mvT hZ (hw _ (List.mem_of_getElem? (i := 53) rfl))) (mvT hZ (hw _ (List.mem_of_getElem? (i := 52) rfl))) (by decide) (backOf (W := 10) (rm5 l Z a0 hw [] B n hg aa bb ha hb0 LD hL h0 n0 Z0 HC) hZ (hw _ (List.mem_of_getElem? (i := 54) rfl)) (hw _ (List.mem_of_getElem? (i := 3) rfl)) (by decide) (by decide)) qa qc (g := (mkF m pc Ls (.double (LD bb) :: .double (LD aa) :: .ref (B n) :: rest))) rfl (by rw [hml]; exact hLs) (Steps.refl _) (argsL := [.double (LD aa), .double (LD bb)]) (rest := rest) (lenOf pd_5 rfl) rfl (by show 2 * 0 + (rest.map fun v => v.category).sum ≤ 10; rw [Nat.mul_zero, Nat.zero_add]; exact hW) hd (fun _ _ => ⟨rfl, eT, (by decide : 1 + 0 ≤ _), (by decide : 16 + 0 ≤ _)⟩)
  dsimp only [Pt.U, Pt.locs, Pt.cells, Pt.slots] at X1 l1 y1 z1 st hQ
  subst l1 y1 z1
  obtain ⟨rfl, N1, e1⟩ := hQ
  exact ⟨T1, _, X1, e1, Fr.app N N1, st⟩
theorem pn_0 : plainName "com/example/strategos/strategos/dd/OperationCanAbstractPinLaw" = true := by first | (simp [plainName, overriddenIn]; done) | decide +kernel
theorem ef_0 (m : MethodId) (x0 : Int32) (x1 : Int32) (x2 : Int32) (x3 : Int32) : entryFrame m #[(.int x0), (.int x1), (.int x2), (.int x3)] maxLocals = mkF m 0 #[.val (.int x0), .val (.int x1), .val (.int x2), .val (.int x3), .unset, .unset, .unset, .unset, .unset, .unset, .unset, .unset, .unset, .unset, .unset, .unset] [] := by first | (simp [entryFrame, mkF, argsToLocals, Value.category, maxLocals]; done) | rfl
def Q0 (n0 : Nat) (v : Option Value) (h : Heap) (L : List Loc) : Prop := v = some (.int 1) ∧ Fr n0 L
set_option maxRecDepth 65536 in
set_option maxHeartbeats 40000000 in
theorem rm0 (l : Launch) (Z : State) (a0 : Array Value) (hw : ∀ d ∈ tables_1, d.before a0 Z = true) (ws : List Jvm.Cond) (p1 p2 p3 p4 : Int32) (B : Nat → Addr) (h0 : Heap) (n0 : Nat) (Z0 : n0 ≤ h0.size) (HC : own_C Z h0 B) :
    MetFree l x (head1 (Jvm.Cond.code x code maxLocals ret :: ws) room_1) (fun a9 U9 => a9 = #[(.int p1), (.int p2), (.int p3), (.int p4)] ∧ Z.Warmed39 U9.vm ∧ U9.heap = h0) (fun _ _ _ _ _ => True) (fun _ U9 o9 V9 => ∃ v9 L9, o9 = .returned v9 ∧ Q0 n0 v9 V9.heap L9 ∧ FrameEnd U9 o9 V9 L9 16 128) := by
  refine MetFree.of_bodySF (plainFor_of_name pn_0) hisR ?_
  intro p e s m args below meth c s₁ Bd hml0 hP hK
  obtain ⟨rfl, hZ, hh⟩ := hP
  have hx := Bd.exec
  have hby := Bd.bytes
  have hlk := Bd.notSynchronized
  have hml : c.maxLocals = 16 := hml0
  have hown : s.vm.findClass "com/example/strategos/strategos/dd/OperationCanAbstractPinLaw" = some m.cls := findClass_of_methodNamed Bd.named
  have hnm := (name_of_methodNamed Bd.named Bd.method).1
  have X0 : Stand p l e room_1 s m #[(.int p1), (.int p2), (.int p3), (.int p4)] below meth c s₁ [] 0 0 := Stand.of_body Bd
  have e0 : s₁.heap = h0 := by rw [← hh, Bd.state]; rfl
  have N0 := Fr.nil n0
  show own_E p e below s (Q0 n0) _ _ s₁ (entryFrame m #[(.int p1), (.int p2), (.int p3), (.int p4)] maxLocals)
  rw [ef_0]
  show own_E _ _ _ _ _ _ _ s₁ (mkF m 0 #[.val (.int p1), .val (.int p2), .val (.int p3), .val (.int p4), .unset, .unset, .unset, .unset, .unset, .unset, .unset, .unset, .unset, .unset, .unset, .unset] [])
  refine own_via (fun t => XS.bipush X0.here hx rfl (hb hby at_0)) ?_
  show own_E _ _ _ _ _ _ _ s₁ (mkF m 2 #[.val (.int p1), .val (.int p2), .val (.int p3), .val (.int p4), .unset, .unset, .unset, .unset, .unset, .unset, .unset, .unset, .unset, .unset, .unset, .unset] [(.int (16 : Int32))])
  obtain ⟨T24, h24, k24, X24, e24, E24, A24, O24, st24⟩ := newR X0 hx hZ hown (hw _ (List.mem_of_getElem? (i := 0) rfl)) (hw _ (List.mem_of_getElem? (i := 1) rfl)) e0 (g := (mkF m 2 #[.val (.int p1), .val (.int p2), .val (.int p3), .val (.int p4), .unset, .unset, .unset, .unset, .unset, .unset, .unset, .unset, .unset, .unset, .unset, .unset] [(.int (16 : Int32))])) rfl (hb hby at_2) rfl (by decide) (cap := 16) (by decide) (by decide) (by decide) (by decide)
  obtain ⟨ba, g24⟩ : ∃ z, z = h0.size := ⟨_, rfl⟩
  rw [← g24] at A24 st24
  have F24 : own_RA Z h24 ba "com/example/strategos/strategos/dd/Operation" 16 (fun _ => .null) := own_RA.new A24 O24 (by decide)
  have gz_ba : n0 ≤ ba := Nat.le_trans Z0 (Nat.le_of_eq g24.symm)
  have Z24 : n0 ≤ h24.size := Nat.le_trans Z0 E24.1
  have hne : ∀ i, i < 16 → B i ≠ ba := fun i hi q => Nat.lt_irrefl _ (show h0.size < h0.size from (by have := (HC.2 i hi).1.lt; rw [q, g24] at this; exact this))
  have HC24 := HC.ext E24
  have P24 : ∀ j, j < 0 → (fun _ => Value.null : Nat → Value) j = .ref (B j) := fun j hj => absurd hj (Nat.not_lt_zero _)
  refine own_via st24 ?_
  show own_E _ _ _ _ _ _ _ T24 (mkF m 5 #[.val (.int p1), .val (.int p2), .val (.int p3), .val (.int p4), .unset, .unset, .unset, .unset, .unset, .unset, .unset, .unset, .unset, .unset, .unset, .unset] [(.ref ba)])
  refine own_via (fun t => XS.dup X24.here hx rfl (hb hby at_5) rfl rfl) ?_
  show own_E _ _ _ _ _ _ _ T24 (mkF m 6 #[.val (.int p1), .val (.int p2), .val (.int p3), .val (.int p4), .unset, .unset, .unset, .unset, .unset, .unset, .unset, .unset, .unset, .unset, .unset, .unset] [(.ref ba), (.ref ba)])
  refine own_via (fun t => XS.iconst X24.here hx rfl (hb hby at_6)) ?_
  show own_E _ _ _ _ _ _ _ T24 (mkF m 7 #[.val (.int p1), .val (.int p2), .val (.int p3), .val (.int p4), .unset, .unset, .unset, .unset, .unset, .unset, .unset, .unset, .unset, .unset, .unset, .unset] [(.int (0 : Int32)), (.ref ba), (.ref ba)])
  obtain ⟨T25, X25, e25, st25⟩ := getS (host := "") X24 hx hZ hown (hw _ (List.mem_of_getElem? (i := 2) rfl)) Via.refl e24 (HC24.1 ("PLUS", 0) (List.mem_of_getElem? (i := 0) rfl)) (g := (mkF m 7 #[.val (.int p1), .val (.int p2), .val (.int p3), .val (.int p4), .unset, .unset, .unset, .unset, .unset, .unset, .unset, .unset, .unset, .unset, .unset, .unset] [(.int (0 : Int32)), (.ref ba), (.ref ba)])) rfl (hb hby at_7)
  refine own_via st25 ?_
  show own_E _ _ _ _ _ _ _ T25 (mkF m 10 #[.val (.int p1), .val (.int p2), .val (.int p3), .val (.int p4), .unset, .unset, .unset, .unset, .unset, .unset, .unset, .unset, .unset, .unset, .unset, .unset] [(.ref (B 0)), (.int (0 : Int32)), (.ref ba), (.ref ba)])
  obtain ⟨T26, h26, X26, e26, F26, W26, N26, st26⟩ := own_aastore (jn := 0) X25 hx hZ e25 F24 (by decide) (by decide) rfl (Ins.self (HC24.2 0 (by decide)).1) (g := (mkF m 10 #[.val (.int p1), .val (.int p2), .val (.int p3), .val (.int p4), .unset, .unset, .unset, .unset, .unset, .unset, .unset, .unset, .unset, .unset, .unset, .unset] [(.ref (B 0)), (.int (0 : Int32)), (.ref ba), (.ref ba)])) rfl rfl (hb hby at_10) N0 gz_ba
  refine own_via st26 ?_
  have Z26 : n0 ≤ h26.size := by rw [W26.size]; exact Z24
  have HC26 := HC24.wr W26 hne
  obtain ⟨f26, P26, F26⟩ : ∃ f : Nat → Value, (∀ j, j < 1 → f j = .ref (B j)) ∧ own_RA Z h26 ba "com/example/strategos/strategos/dd/Operation" 16 f := ⟨_, fun j hj => by unfold own_updV; split; (rename_i u; rw [u]); (exact P24 j (by omega)), F26⟩
  show own_E _ _ _ _ _ _ _ T26 (mkF m 11 #[.val (.int p1), .val (.int p2), .val (.int p3), .val (.int p4), .unset, .unset, .unset, .unset, .unset, .unset, .unset, .unset, .unset, .unset, .unset, .unset] [(.ref ba)])
  refine own_via (fun t => XS.dup X26.here hx rfl (hb hby at_11) rfl rfl) ?_
  show own_E _ _ _ _ _ _ _ T26 (mkF m 12 #[.val (.int p1), .val (.int p2), .val (.int p3), .val (.int p4), .unset, .unset, .unset, .unset, .unset, .unset, .unset, .unset, .unset, .unset, .unset, .unset] [(.ref ba), (.ref ba)])
  refine own_via (fun t => XS.iconst X26.here hx rfl (hb hby at_12)) ?_
  show own_E _ _ _ _ _ _ _ T26 (mkF m 13 #[.val (.int p1), .val (.int p2), .val (.int p3), .val (.int p4), .unset, .unset, .unset, .unset, .unset, .unset, .unset, .unset, .unset, .unset, .unset, .unset] [(.int (1 : Int32)), (.ref ba), (.ref ba)])
  obtain ⟨T27, X27, e27, st27⟩ := getS (host := "") X26 hx hZ hown (hw _ (List.mem_of_getElem? (i := 6) rfl)) Via.refl e26 (HC26.1 ("MINUS", 1) (List.mem_of_getElem? (i := 1) rfl)) (g := (mkF m 13 #[.val (.int p1), .val (.int p2), .val (.int p3), .val (.int p4), .unset, .unset, .unset, .unset, .unset, .unset, .unset, .unset, .unset, .unset, .unset, .unset] [(.int (1 : Int32)), (.ref ba), (.ref ba)])) rfl (hb hby at_13)
  refine own_via st27 ?_
  show own_E _ _ _ _ _ _ _ T27 (mkF m 16 #[.val (.int p1), .val (.int p2), .val (.int p3), .val (.int p4), .unset, .unset, .unset, .unset, .unset, .unset, .unset, .unset, .unset, .unset, .unset, .unset] [(.ref (B 1)), (.int (1 : Int32)), (.ref ba), (.ref ba)])
  obtain ⟨T28, h28, X28, e28, F28, W28, N28, st28⟩ := own_aastore (jn := 1) X27 hx hZ e27 F26 (by decide) (by decide) rfl (Ins.self (HC26.2 1 (by decide)).1) (g := (mkF m 16 #[.val (.int p1), .val (.int p2), .val (.int p3), .val (.int p4), .unset, .unset, .unset, .unset, .unset, .unset, .unset, .unset, .unset, .unset, .unset, .unset] [(.ref (B 1)), (.int (1 : Int32)), (.ref ba), (.ref ba)])) rfl rfl (hb hby at_16) N26 gz_ba
  refine own_via st28 ?_
  have Z28 : n0 ≤ h28.size := by rw [W28.size]; exact Z26
  have HC28 := HC26.wr W28 hne
  obtain ⟨f28, P28, F28⟩ : ∃ f : Nat → Value, (∀ j, j < 2 → f j = .ref (B j)) ∧ own_RA Z h28 ba "com/example/strategos/strategos/dd/Operation" 16 f := ⟨_, fun j hj => by unfold own_updV; split; (rename_i u; rw [u]); (exact P26 j (by omega)), F28⟩
  show own_E _ _ _ _ _ _ _ T28 (mkF m 17 #[.val (.int p1), .val (.int p2), .val (.int p3), .val (.int p4), .unset, .unset, .unset, .unset, .unset, .unset, .unset, .unset, .unset, .unset, .unset, .unset] [(.ref ba)])
  refine own_via (fun t => XS.dup X28.here hx rfl (hb hby at_17) rfl rfl) ?_
  show own_E _ _ _ _ _ _ _ T28 (mkF m 18 #[.val (.int p1), .val (.int p2), .val (.int p3), .val (.int p4), .unset, .unset, .unset, .unset, .unset, .unset, .unset, .unset, .unset, .unset, .unset, .unset] [(.ref ba), (.ref ba)])
  refine own_via (fun t => XS.iconst X28.here hx rfl (hb hby at_18)) ?_
  show own_E _ _ _ _ _ _ _ T28 (mkF m 19 #[.val (.int p1), .val (.int p2), .val (.int p3), .val (.int p4), .unset, .unset, .unset, .unset, .unset, .unset, .unset, .unset, .unset, .unset, .unset, .unset] [(.int (2 : Int32)), (.ref ba), (.ref ba)])
  obtain ⟨T29, X29, e29, st29⟩ := getS (host := "") X28 hx hZ hown (hw _ (List.mem_of_getElem? (i := 8) rfl)) Via.refl e28 (HC28.1 ("TIMES", 2) (List.mem_of_getElem? (i := 2) rfl)) (g := (mkF m 19 #[.val (.int p1), .val (.int p2), .val (.int p3), .val (.int p4), .unset, .unset, .unset, .unset, .unset, .unset, .unset, .unset, .unset, .unset, .unset, .unset] [(.int (2 : Int32)), (.ref ba), (.ref ba)])) rfl (hb hby at_19)
  refine own_via st29 ?_
  show own_E _ _ _ _ _ _ _ T29 (mkF m 22 #[.val (.int p1), .val (.int p2), .val (.int p3), .val (.int p4), .unset, .unset, .unset, .unset, .unset, .unset, .unset, .unset, .unset, .unset, .unset, .unset] [(.ref (B 2)), (.int (2 : Int32)), (.ref ba), (.ref ba)])
  obtain ⟨T30, h30, X30, e30, F30, W30, N30, st30⟩ := own_aastore (jn := 2) X29 hx hZ e29 F28 (by decide) (by decide) rfl (Ins.self (HC28.2 2 (by decide)).1) (g := (mkF m 22 #[.val (.int p1), .val (.int p2), .val (.int p3), .val (.int p4), .unset, .unset, .unset, .unset, .unset, .unset, .unset, .unset, .unset, .unset, .unset, .unset] [(.ref (B 2)), (.int (2 : Int32)), (.ref ba), (.ref ba)])) rfl rfl (hb hby at_22) N28 gz_ba
  refine own_via st30 ?_
  have Z30 : n0 ≤ h30.size := by rw [W30.size]; exact Z28
  have HC30 := HC28.wr W30 hne
  obtain ⟨f30, P30, F30⟩ : ∃ f : Nat → Value, (∀ j, j < 3 → f j = .ref (B j)) ∧ own_RA Z h30 ba "com/example/strategos/strategos/dd/Operation" 16 f := ⟨_, fun j hj => by unfold own_updV; split; (rename_i u; rw [u]); (exact P28 j (by omega)), F30⟩
  show own_E _ _ _ _ _ _ _ T30 (mkF m 23 #[.val (.int p1), .val (.int p2), .val (.int p3), .val (.int p4), .unset, .unset, .unset, .unset, .unset, .unset, .unset, .unset, .unset, .unset, .unset, .unset] [(.ref ba)])
  refine own_via (fun t => XS.dup X30.here hx rfl (hb hby at_23) rfl rfl) ?_
  show own_E _ _ _ _ _ _ _ T30 (mkF m 24 #[.val (.int p1), .val (.int p2), .val (.int p3), .val (.int p4), .unset, .unset, .unset, .unset, .unset, .unset, .unset, .unset, .unset, .unset, .unset, .unset] [(.ref ba), (.ref ba)])
  refine own_via (fun t => XS.iconst X30.here hx rfl (hb hby at_24)) ?_
  show own_E _ _ _ _ _ _ _ T30 (mkF m 25 #[.val (.int p1), .val (.int p2), .val (.int p3), .val (.int p4), .unset, .unset, .unset, .unset, .unset, .unset, .unset, .unset, .unset, .unset, .unset, .unset] [(.int (3 : Int32)), (.ref ba), (.ref ba)])
  obtain ⟨T31, X31, e31, st31⟩ := getS (host := "") X30 hx hZ hown (hw _ (List.mem_of_getElem? (i := 10) rfl)) Via.refl e30 (HC30.1 ("DIVIDE", 3) (List.mem_of_getElem? (i := 3) rfl)) (g := (mkF m 25 #[.val (.int p1), .val (.int p2), .val (.int p3), .val (.int p4), .unset, .unset, .unset, .unset, .unset, .unset, .unset, .unset, .unset, .unset, .unset, .unset] [(.int (3 : Int32)), (.ref ba), (.ref ba)])) rfl (hb hby at_25)
  refine own_via st31 ?_
  show own_E _ _ _ _ _ _ _ T31 (mkF m 28 #[.val (.int p1), .val (.int p2), .val (.int p3), .val (.int p4), .unset, .unset, .unset, .unset, .unset, .unset, .unset, .unset, .unset, .unset, .unset, .unset] [(.ref (B 3)), (.int (3 : Int32)), (.ref ba), (.ref ba)])
  obtain ⟨T32, h32, X32, e32, F32, W32, N32, st32⟩ := own_aastore (jn := 3) X31 hx hZ e31 F30 (by decide) (by decide) rfl (Ins.self (HC30.2 3 (by decide)).1) (g := (mkF m 28 #[.val (.int p1), .val (.int p2), .val (.int p3), .val (.int p4), .unset, .unset, .unset, .unset, .unset, .unset, .unset, .unset, .unset, .unset, .unset, .unset] [(.ref (B 3)), (.int (3 : Int32)), (.ref ba), (.ref ba)])) rfl rfl (hb hby at_28) N30 gz_ba
  refine own_via st32 ?_
  have Z32 : n0 ≤ h32.size := by rw [W32.size]; exact Z30
  have HC32 := HC30.wr W32 hne
  obtain ⟨f32, P32, F32⟩ : ∃ f : Nat → Value, (∀ j, j < 4 → f j = .ref (B j)) ∧ own_RA Z h32 ba "com/example/strategos/strategos/dd/Operation" 16 f := ⟨_, fun j hj => by unfold own_updV; split; (rename_i u; rw [u]); (exact P30 j (by omega)), F32⟩
  show own_E _ _ _ _ _ _ _ T32 (mkF m 29 #[.val (.int p1), .val (.int p2), .val (.int p3), .val (.int p4), .unset, .unset, .unset, .unset, .unset, .unset, .unset, .unset, .unset, .unset, .unset, .unset] [(.ref ba)])
  refine own_via (fun t => XS.dup X32.here hx rfl (hb hby at_29) rfl rfl) ?_
  show own_E _ _ _ _ _ _ _ T32 (mkF m 30 #[.val (.int p1), .val (.int p2), .val (.int p3), .val (.int p4), .unset, .unset, .unset, .unset, .unset, .unset, .unset, .unset, .unset, .unset, .unset, .unset] [(.ref ba), (.ref ba)])
  refine own_via (fun t => XS.iconst X32.here hx rfl (hb hby at_30)) ?_
  show own_E _ _ _ _ _ _ _ T32 (mkF m 31 #[.val (.int p1), .val (.int p2), .val (.int p3), .val (.int p4), .unset, .unset, .unset, .unset, .unset, .unset, .unset, .unset, .unset, .unset, .unset, .unset] [(.int (4 : Int32)), (.ref ba), (.ref ba)])
  obtain ⟨T33, X33, e33, st33⟩ := getS (host := "") X32 hx hZ hown (hw _ (List.mem_of_getElem? (i := 12) rfl)) Via.refl e32 (HC32.1 ("MIN", 4) (List.mem_of_getElem? (i := 4) rfl)) (g := (mkF m 31 #[.val (.int p1), .val (.int p2), .val (.int p3), .val (.int p4), .unset, .unset, .unset, .unset, .unset, .unset, .unset, .unset, .unset, .unset, .unset, .unset] [(.int (4 : Int32)), (.ref ba), (.ref ba)])) rfl (hb hby at_31)
  refine own_via st33 ?_
  show own_E _ _ _ _ _ _ _ T33 (mkF m 34 #[.val (.int p1), .val (.int p2), .val (.int p3), .val (.int p4), .unset, .unset, .unset, .unset, .unset, .unset, .unset, .unset, .unset, .unset, .unset, .unset] [(.ref (B 4)), (.int (4 : Int32)), (.ref ba), (.ref ba)])
  obtain ⟨T34, h34, X34, e34, F34, W34, N34, st34⟩ := own_aastore (jn := 4) X33 hx hZ e33 F32 (by decide) (by decide) rfl (Ins.self (HC32.2 4 (by decide)).1) (g := (mkF m 34 #[.val (.int p1), .val (.int p2), .val (.int p3), .val (.int p4), .unset, .unset, .unset, .unset, .unset, .unset, .unset, .unset, .unset, .unset, .unset, .unset] [(.ref (B 4)), (.int (4 : Int32)), (.ref ba), (.ref ba)])) rfl rfl (hb hby at_34) N32 gz_ba
  refine own_via st34 ?_
  have Z34 : n0 ≤ h34.size := by rw [W34.size]; exact Z32
  have HC34 := HC32.wr W34 hne
  obtain ⟨f34, P34, F34⟩ : ∃ f : Nat → Value, (∀ j, j < 5 → f j = .ref (B j)) ∧ own_RA Z h34 ba "com/example/strategos/strategos/dd/Operation" 16 f := ⟨_, fun j hj => by unfold own_updV; split; (rename_i u; rw [u]); (exact P32 j (by omega)), F34⟩
  show own_E _ _ _ _ _ _ _ T34 (mkF m 35 #[.val (.int p1), .val (.int p2), .val (.int p3), .val (.int p4), .unset, .unset, .unset, .unset, .unset, .unset, .unset, .unset, .unset, .unset, .unset, .unset] [(.ref ba)])
  refine own_via (fun t => XS.dup X34.here hx rfl (hb hby at_35) rfl rfl) ?_
  show own_E _ _ _ _ _ _ _ T34 (mkF m 36 #[.val (.int p1), .val (.int p2), .val (.int p3), .val (.int p4), .unset, .unset, .unset, .unset, .unset, .unset, .unset, .unset, .unset, .unset, .unset, .unset] [(.ref ba), (.ref ba)])
  refine own_via (fun t => XS.iconst X34.here hx rfl (hb hby at_36)) ?_
  show own_E _ _ _ _ _ _ _ T34 (mkF m 37 #[.val (.int p1), .val (.int p2), .val (.int p3), .val (.int p4), .unset, .unset, .unset, .unset, .unset, .unset, .unset, .unset, .unset, .unset, .unset, .unset] [(.int (5 : Int32)), (.ref ba), (.ref ba)])
  obtain ⟨T35, X35, e35, st35⟩ := getS (host := "") X34 hx hZ hown (hw _ (List.mem_of_getElem? (i := 14) rfl)) Via.refl e34 (HC34.1 ("MAX", 5) (List.mem_of_getElem? (i := 5) rfl)) (g := (mkF m 37 #[.val (.int p1), .val (.int p2), .val (.int p3), .val (.int p4), .unset, .unset, .unset, .unset, .unset, .unset, .unset, .unset, .unset, .unset, .unset, .unset] [(.int (5 : Int32)), (.ref ba), (.ref ba)])) rfl (hb hby at_37)
  refine own_via st35 ?_
  show own_E _ _ _ _ _ _ _ T35 (mkF m 40 #[.val (.int p1), .val (.int p2), .val (.int p3), .val (.int p4), .unset, .unset, .unset, .unset, .unset, .unset, .unset, .unset, .unset, .unset, .unset, .unset] [(.ref (B 5)), (.int (5 : Int32)), (.ref ba), (.ref ba)])
  obtain ⟨T36, h36, X36, e36, F36, W36, N36, st36⟩ := own_aastore (jn := 5) X35 hx hZ e35 F34 (by decide) (by decide) rfl (Ins.self (HC34.2 5 (by decide)).1) (g := (mkF m 40 #[.val (.int p1), .val (.int p2), .val (.int p3), .val (.int p4), .unset, .unset, .unset, .unset, .unset, .unset, .unset, .unset, .unset, .unset, .unset, .unset] [(.ref (B 5)), (.int (5 : Int32)), (.ref ba), (.ref ba)])) rfl rfl (hb hby at_40) N34 gz_ba
  refine own_via st36 ?_
  have Z36 : n0 ≤ h36.size := by rw [W36.size]; exact Z34
  have HC36 := HC34.wr W36 hne
  obtain ⟨f36, P36, F36⟩ : ∃ f : Nat → Value, (∀ j, j < 6 → f j = .ref (B j)) ∧ own_RA Z h36 ba "com/example/strategos/strategos/dd/Operation" 16 f := ⟨_, fun j hj => by unfold own_updV; split; (rename_i u; rw [u]); (exact P34 j (by omega)), F36⟩
  show own_E _ _ _ _ _ _ _ T36 (mkF m 41 #[.val (.int p1), .val (.int p2), .val (.int p3), .val (.int p4), .unset, .unset, .unset, .unset, .unset, .unset, .unset, .unset, .unset, .unset, .unset, .unset] [(.ref ba)])
  refine own_via (fun t => XS.dup X36.here hx rfl (hb hby at_41) rfl rfl) ?_
  show own_E _ _ _ _ _ _ _ T36 (mkF m 42 #[.val (.int p1), .val (.int p2), .val (.int p3), .val (.int p4), .unset, .unset, .unset, .unset, .unset, .unset, .unset, .unset, .unset, .unset, .unset, .unset] [(.ref ba), (.ref ba)])
  refine own_via (fun t => XS.bipush X36.here hx rfl (hb hby at_42)) ?_
  show own_E _ _ _ _ _ _ _ T36 (mkF m 44 #[.val (.int p1), .val (.int p2), .val (.int p3), .val (.int p4), .unset, .unset, .unset, .unset, .unset, .unset, .unset, .unset, .unset, .unset, .unset, .unset] [(.int (6 : Int32)), (.ref ba), (.ref ba)])
  obtain ⟨T37, X37, e37, st37⟩ := getS (host := "") X36 hx hZ hown (hw _ (List.mem_of_getElem? (i := 16) rfl)) Via.refl e36 (HC36.1 ("POW", 6) (List.mem_of_getElem? (i := 6) rfl)) (g := (mkF m 44 #[.val (.int p1), .val (.int p2), .val (.int p3), .val (.int p4), .unset, .unset, .unset, .unset, .unset, .unset, .unset, .unset, .unset, .unset, .unset, .unset] [(.int (6 : Int32)), (.ref ba), (.ref ba)])) rfl (hb hby at_44)
  refine own_via st37 ?_
  show own_E _ _ _ _ _ _ _ T37 (mkF m 47 #[.val (.int p1), .val (.int p2), .val (.int p3), .val (.int p4), .unset, .unset, .unset, .unset, .unset, .unset, .unset, .unset, .unset, .unset, .unset, .unset] [(.ref (B 6)), (.int (6 : Int32)), (.ref ba), (.ref ba)])
  obtain ⟨T38, h38, X38, e38, F38, W38, N38, st38⟩ := own_aastore (jn := 6) X37 hx hZ e37 F36 (by decide) (by decide) rfl (Ins.self (HC36.2 6 (by decide)).1) (g := (mkF m 47 #[.val (.int p1), .val (.int p2), .val (.int p3), .val (.int p4), .unset, .unset, .unset, .unset, .unset, .unset, .unset, .unset, .unset, .unset, .unset, .unset] [(.ref (B 6)), (.int (6 : Int32)), (.ref ba), (.ref ba)])) rfl rfl (hb hby at_47) N36 gz_ba
  refine own_via st38 ?_
  have Z38 : n0 ≤ h38.size := by rw [W38.size]; exact Z36
  have HC38 := HC36.wr W38 hne
  obtain ⟨f38, P38, F38⟩ : ∃ f : Nat → Value, (∀ j, j < 7 → f j = .ref (B j)) ∧ own_RA Z h38 ba "com/example/strategos/strategos/dd/Operation" 16 f := ⟨_, fun j hj => by unfold own_updV; split; (rename_i u; rw [u]); (exact P36 j (by omega)), F38⟩
  show own_E _ _ _ _ _ _ _ T38 (mkF m 48 #[.val (.int p1), .val (.int p2), .val (.int p3), .val (.int p4), .unset, .unset, .unset, .unset, .unset, .unset, .unset, .unset, .unset, .unset, .unset, .unset] [(.ref ba)])
  refine own_via (fun t => XS.dup X38.here hx rfl (hb hby at_48) rfl rfl) ?_
  show own_E _ _ _ _ _ _ _ T38 (mkF m 49 #[.val (.int p1), .val (.int p2), .val (.int p3), .val (.int p4), .unset, .unset, .unset, .unset, .unset, .unset, .unset, .unset, .unset, .unset, .unset, .unset] [(.ref ba), (.ref ba)])
  refine own_via (fun t => XS.bipush X38.here hx rfl (hb hby at_49)) ?_
  show own_E _ _ _ _ _ _ _ T38 (mkF m 51 #[.val (.int p1), .val (.int p2), .val (.int p3), .val (.int p4), .unset, .unset, .unset, .unset, .unset, .unset, .unset, .unset, .unset, .unset, .unset, .unset] [(.int (7 : Int32)), (.ref ba), (.ref ba)])
  obtain ⟨T39, X39, e39, st39⟩ := getS (host := "") X38 hx hZ hown (hw _ (List.mem_of_getElem? (i := 18) rfl)) Via.refl e38 (HC38.1 ("AND", 7) (List.mem_of_getElem? (i := 7) rfl)) (g := (mkF m 51 #[.val (.int p1), .val (.int p2), .val (.int p3), .val (.int p4), .unset, .unset, .unset, .unset, .unset, .unset, .unset, .unset, .unset, .unset, .unset, .unset] [(.int (7 : Int32)), (.ref ba), (.ref ba)])) rfl (hb hby at_51)
  refine own_via st39 ?_
  show own_E _ _ _ _ _ _ _ T39 (mkF m 54 #[.val (.int p1), .val (.int p2), .val (.int p3), .val (.int p4), .unset, .unset, .unset, .unset, .unset, .unset, .unset, .unset, .unset, .unset, .unset, .unset] [(.ref (B 7)), (.int (7 : Int32)), (.ref ba), (.ref ba)])
  obtain ⟨T40, h40, X40, e40, F40, W40, N40, st40⟩ := own_aastore (jn := 7) X39 hx hZ e39 F38 (by decide) (by decide) rfl (Ins.self (HC38.2 7 (by decide)).1) (g := (mkF m 54 #[.val (.int p1), .val (.int p2), .val (.int p3), .val (.int p4), .unset, .unset, .unset, .unset, .unset, .unset, .unset, .unset, .unset, .unset, .unset, .unset] [(.ref (B 7)), (.int (7 : Int32)), (.ref ba), (.ref ba)])) rfl rfl (hb hby at_54) N38 gz_ba
  refine own_via st40 ?_
  have Z40 : n0 ≤ h40.size := by rw [W40.size]; exact Z38
  have HC40 := HC38.wr W40 hne
  obtain ⟨f40, P40, F40⟩ : ∃ f : Nat → Value, (∀ j, j < 8 → f j = .ref (B j)) ∧ own_RA Z h40 ba "com/example/strategos/strategos/dd/Operation" 16 f := ⟨_, fun j hj => by unfold own_updV; split; (rename_i u; rw [u]); (exact P38 j (by omega)), F40⟩
  show own_E _ _ _ _ _ _ _ T40 (mkF m 55 #[.val (.int p1), .val (.int p2), .val (.int p3), .val (.int p4), .unset, .unset, .unset, .unset, .unset, .unset, .unset, .unset, .unset, .unset, .unset, .unset] [(.ref ba)])
  refine own_via (fun t => XS.dup X40.here hx rfl (hb hby at_55) rfl rfl) ?_
  show own_E _ _ _ _ _ _ _ T40 (mkF m 56 #[.val (.int p1), .val (.int p2), .val (.int p3), .val (.int p4), .unset, .unset, .unset, .unset, .unset, .unset, .unset, .unset, .unset, .unset, .unset, .unset] [(.ref ba), (.ref ba)])
  refine own_via (fun t => XS.bipush X40.here hx rfl (hb hby at_56)) ?_
  show own_E _ _ _ _ _ _ _ T40 (mkF m 58 #[.val (.int p1), .val (.int p2), .val (.int p3), .val (.int p4), .unset, .unset, .unset, .unset, .unset, .unset, .unset, .unset, .unset, .unset, .unset, .unset] [(.int (8 : Int32)), (.ref ba), (.ref ba)])
  obtain ⟨T41, X41, e41, st41⟩ := getS (host := "") X40 hx hZ hown (hw _ (List.mem_of_getElem? (i := 20) rfl)) Via.refl e40 (HC40.1 ("OR", 8) (List.mem_of_getElem? (i := 8) rfl)) (g := (mkF m 58 #[.val (.int p1), .val (.int p2), .val (.int p3), .val (.int p4), .unset, .unset, .unset, .unset, .unset, .unset, .unset, .unset, .unset, .unset, .unset, .unset] [(.int (8 : Int32)), (.ref ba), (.ref ba)])) rfl (hb hby at_58)
  refine own_via st41 ?_
  show own_E _ _ _ _ _ _ _ T41 (mkF m 61 #[.val (.int p1), .val (.int p2), .val (.int p3), .val (.int p4), .unset, .unset, .unset, .unset, .unset, .unset, .unset, .unset, .unset, .unset, .unset, .unset] [(.ref (B 8)), (.int (8 : Int32)), (.ref ba), (.ref ba)])
  obtain ⟨T42, h42, X42, e42, F42, W42, N42, st42⟩ := own_aastore (jn := 8) X41 hx hZ e41 F40 (by decide) (by decide) rfl (Ins.self (HC40.2 8 (by decide)).1) (g := (mkF m 61 #[.val (.int p1), .val (.int p2), .val (.int p3), .val (.int p4), .unset, .unset, .unset, .unset, .unset, .unset, .unset, .unset, .unset, .unset, .unset, .unset] [(.ref (B 8)), (.int (8 : Int32)), (.ref ba), (.ref ba)])) rfl rfl (hb hby at_61) N40 gz_ba
  refine own_via st42 ?_
  have Z42 : n0 ≤ h42.size := by rw [W42.size]; exact Z40
  have HC42 := HC40.wr W42 hne
  obtain ⟨f42, P42, F42⟩ : ∃ f : Nat → Value, (∀ j, j < 9 → f j = .ref (B j)) ∧ own_RA Z h42 ba "com/example/strategos/strategos/dd/Operation" 16 f := ⟨_, fun j hj => by unfold own_updV; split; (rename_i u; rw [u]); (exact P40 j (by omega)), F42⟩
  show own_E _ _ _ _ _ _ _ T42 (mkF m 62 #[.val (.int p1), .val (.int p2), .val (.int p3), .val (.int p4), .unset, .unset, .unset, .unset, .unset, .unset, .unset, .unset, .unset, .unset, .unset, .unset] [(.ref ba)])
  refine own_via (fun t => XS.dup X42.here hx rfl (hb hby at_62) rfl rfl) ?_
  show own_E _ _ _ _ _ _ _ T42 (mkF m 63 #[.val (.int p1), .val (.int p2), .val (.int p3), .val (.int p4), .unset, .unset, .unset, .unset, .unset, .unset, .unset, .unset, .unset, .unset, .unset, .unset] [(.ref ba), (.ref ba)])
  refine own_via (fun t => XS.bipush X42.here hx rfl (hb hby at_63)) ?_
  show own_E _ _ _ _ _ _ _ T42 (mkF m 65 #[.val (.int p1), .val (.int p2), .val (.int p3), .val (.int p4), .unset, .unset, .unset, .unset, .unset, .unset, .unset, .unset, .unset, .unset, .unset, .unset] [(.int (9 : Int32)), (.ref ba), (.ref ba)])
  obtain ⟨T43, X43, e43, st43⟩ := getS (host := "") X42 hx hZ hown (hw _ (List.mem_of_getElem? (i := 22) rfl)) Via.refl e42 (HC42.1 ("IMPLIES", 9) (List.mem_of_getElem? (i := 9) rfl)) (g := (mkF m 65 #[.val (.int p1), .val (.int p2), .val (.int p3), .val (.int p4), .unset, .unset, .unset, .unset, .unset, .unset, .unset, .unset, .unset, .unset, .unset, .unset] [(.int (9 : Int32)), (.ref ba), (.ref ba)])) rfl (hb hby at_65)
  refine own_via st43 ?_
  show own_E _ _ _ _ _ _ _ T43 (mkF m 68 #[.val (.int p1), .val (.int p2), .val (.int p3), .val (.int p4), .unset, .unset, .unset, .unset, .unset, .unset, .unset, .unset, .unset, .unset, .unset, .unset] [(.ref (B 9)), (.int (9 : Int32)), (.ref ba), (.ref ba)])
  obtain ⟨T44, h44, X44, e44, F44, W44, N44, st44⟩ := own_aastore (jn := 9) X43 hx hZ e43 F42 (by decide) (by decide) rfl (Ins.self (HC42.2 9 (by decide)).1) (g := (mkF m 68 #[.val (.int p1), .val (.int p2), .val (.int p3), .val (.int p4), .unset, .unset, .unset, .unset, .unset, .unset, .unset, .unset, .unset, .unset, .unset, .unset] [(.ref (B 9)), (.int (9 : Int32)), (.ref ba), (.ref ba)])) rfl rfl (hb hby at_68) N42 gz_ba
  refine own_via st44 ?_
  have Z44 : n0 ≤ h44.size := by rw [W44.size]; exact Z42
  have HC44 := HC42.wr W44 hne
  obtain ⟨f44, P44, F44⟩ : ∃ f : Nat → Value, (∀ j, j < 10 → f j = .ref (B j)) ∧ own_RA Z h44 ba "com/example/strategos/strategos/dd/Operation" 16 f := ⟨_, fun j hj => by unfold own_updV; split; (rename_i u; rw [u]); (exact P42 j (by omega)), F44⟩
  show own_E _ _ _ _ _ _ _ T44 (mkF m 69 #[.val (.int p1), .val (.int p2), .val (.int p3), .val (.int p4), .unset, .unset, .unset, .unset, .unset, .unset, .unset, .unset, .unset, .unset, .unset, .unset] [(.ref ba)])
  refine own_via (fun t => XS.dup X44.here hx rfl (hb hby at_69) rfl rfl) ?_
  show own_E _ _ _ _ _ _ _ T44 (mkF m 70 #[.val (.int p1), .val (.int p2), .val (.int p3), .val (.int p4), .unset, .unset, .unset, .unset, .unset, .unset, .unset, .unset, .unset, .unset, .unset, .unset] [(.ref ba), (.ref ba)])
  refine own_via (fun t => XS.bipush X44.here hx rfl (hb hby at_70)) ?_
  show own_E _ _ _ _ _ _ _ T44 (mkF m 72 #[.val (.int p1), .val (.int p2), .val (.int p3), .val (.int p4), .unset, .unset, .unset, .unset, .unset, .unset, .unset, .unset, .unset, .unset, .unset, .unset] [(.int (10 : Int32)), (.ref ba), (.ref ba)])
  obtain ⟨T45, X45, e45, st45⟩ := getS (host := "") X44 hx hZ hown (hw _ (List.mem_of_getElem? (i := 24) rfl)) Via.refl e44 (HC44.1 ("EQUALS", 10) (List.mem_of_getElem? (i := 10) rfl)) (g := (mkF m 72 #[.val (.int p1), .val (.int p2), .val (.int p3), .val (.int p4), .unset, .unset, .unset, .unset, .unset, .unset, .unset, .unset, .unset, .unset, .unset, .unset] [(.int (10 : Int32)), (.ref ba), (.ref ba)])) rfl (hb hby at_72)
  refine own_via st45 ?_
  show own_E _ _ _ _ _ _ _ T45 (mkF m 75 #[.val (.int p1), .val (.int p2), .val (.int p3), .val (.int p4), .unset, .unset, .unset, .unset, .unset, .unset, .unset, .unset, .unset, .unset, .unset, .unset] [(.ref (B 10)), (.int (10 : Int32)), (.ref ba), (.ref ba)])
  obtain ⟨T46, h46, X46, e46, F46, W46, N46, st46⟩ := own_aastore (jn := 10) X45 hx hZ e45 F44 (by decide) (by decide) rfl (Ins.self (HC44.2 10 (by decide)).1) (g := (mkF m 75 #[.val (.int p1), .val (.int p2), .val (.int p3), .val (.int p4), .unset, .unset, .unset, .unset, .unset, .unset, .unset, .unset, .unset, .unset, .unset, .unset] [(.ref (B 10)), (.int (10 : Int32)), (.ref ba), (.ref ba)])) rfl rfl (hb hby at_75) N44 gz_ba
  refine own_via st46 ?_
  have Z46 : n0 ≤ h46.size := by rw [W46.size]; exact Z44
  have HC46 := HC44.wr W46 hne
  obtain ⟨f46, P46, F46⟩ : ∃ f : Nat → Value, (∀ j, j < 11 → f j = .ref (B j)) ∧ own_RA Z h46 ba "com/example/strategos/strategos/dd/Operation" 16 f := ⟨_, fun j hj => by unfold own_updV; split; (rename_i u; rw [u]); (exact P44 j (by omega)), F46⟩
  show own_E _ _ _ _ _ _ _ T46 (mkF m 76 #[.val (.int p1), .val (.int p2), .val (.int p3), .val (.int p4), .unset, .unset, .unset, .unset, .unset, .unset, .unset, .unset, .unset, .unset, .unset, .unset] [(.ref ba)])
  refine own_via (fun t => XS.dup X46.here hx rfl (hb hby at_76) rfl rfl) ?_
  show own_E _ _ _ _ _ _ _ T46 (mkF m 77 #[.val (.int p1), .val (.int p2), .val (.int p3), .val (.int p4), .unset, .unset, .unset, .unset, .unset, .unset, .unset, .unset, .unset, .unset, .unset, .unset] [(.ref ba), (.ref ba)])
  refine own_via (fun t => XS.bipush X46.here hx rfl (hb hby at_77)) ?_
  show own_E _ _ _ _ _ _ _ T46 (mkF m 79 #[.val (.int p1), .val (.int p2), .val (.int p3), .val (.int p4), .unset, .unset, .unset, .unset, .unset, .unset, .unset, .unset, .unset, .unset, .unset, .unset] [(.int (11 : Int32)), (.ref ba), (.ref ba)])
  obtain ⟨T47, X47, e47, st47⟩ := getS (host := "") X46 hx hZ hown (hw _ (List.mem_of_getElem? (i := 26) rfl)) Via.refl e46 (HC46.1 ("NOT_EQUALS", 11) (List.mem_of_getElem? (i := 11) rfl)) (g := (mkF m 79 #[.val (.int p1), .val (.int p2), .val (.int p3), .val (.int p4), .unset, .unset, .unset, .unset, .unset, .unset, .unset, .unset, .unset, .unset, .unset, .unset] [(.int (11 : Int32)), (.ref ba), (.ref ba)])) rfl (hb hby at_79)
  refine own_via st47 ?_
  show own_E _ _ _ _ _ _ _ T47 (mkF m 82 #[.val (.int p1), .val (.int p2), .val (.int p3), .val (.int p4), .unset, .unset, .unset, .unset, .unset, .unset, .unset, .unset, .unset, .unset, .unset, .unset] [(.ref (B 11)), (.int (11 : Int32)), (.ref ba), (.ref ba)])
  obtain ⟨T48, h48, X48, e48, F48, W48, N48, st48⟩ := own_aastore (jn := 11) X47 hx hZ e47 F46 (by decide) (by decide) rfl (Ins.self (HC46.2 11 (by decide)).1) (g := (mkF m 82 #[.val (.int p1), .val (.int p2), .val (.int p3), .val (.int p4), .unset, .unset, .unset, .unset, .unset, .unset, .unset, .unset, .unset, .unset, .unset, .unset] [(.ref (B 11)), (.int (11 : Int32)), (.ref ba), (.ref ba)])) rfl rfl (hb hby at_82) N46 gz_ba
  refine own_via st48 ?_
  have Z48 : n0 ≤ h48.size := by rw [W48.size]; exact Z46
  have HC48 := HC46.wr W48 hne
  obtain ⟨f48, P48, F48⟩ : ∃ f : Nat → Value, (∀ j, j < 12 → f j = .ref (B j)) ∧ own_RA Z h48 ba "com/example/strategos/strategos/dd/Operation" 16 f := ⟨_, fun j hj => by unfold own_updV; split; (rename_i u; rw [u]); (exact P46 j (by omega)), F48⟩
  show own_E _ _ _ _ _ _ _ T48 (mkF m 83 #[.val (.int p1), .val (.int p2), .val (.int p3), .val (.int p4), .unset, .unset, .unset, .unset, .unset, .unset, .unset, .unset, .unset, .unset, .unset, .unset] [(.ref ba)])
  refine own_via (fun t => XS.dup X48.here hx rfl (hb hby at_83) rfl rfl) ?_
  show own_E _ _ _ _ _ _ _ T48 (mkF m 84 #[.val (.int p1), .val (.int p2), .val (.int p3), .val (.int p4), .unset, .unset, .unset, .unset, .unset, .unset, .unset, .unset, .unset, .unset, .unset, .unset] [(.ref ba), (.ref ba)])
  refine own_via (fun t => XS.bipush X48.here hx rfl (hb hby at_84)) ?_
  show own_E _ _ _ _ _ _ _ T48 (mkF m 86 #[.val (.int p1), .val (.int p2), .val (.int p3), .val (.int p4), .unset, .unset, .unset, .unset, .unset, .unset, .unset, .unset, .unset, .unset, .unset, .unset] [(.int (12 : Int32)), (.ref ba), (.ref ba)])
  obtain ⟨T49, X49, e49, st49⟩ := getS (host := "") X48 hx hZ hown (hw _ (List.mem_of_getElem? (i := 28) rfl)) Via.refl e48 (HC48.1 ("LESS", 12) (List.mem_of_getElem? (i := 12) rfl)) (g := (mkF m 86 #[.val (.int p1), .val (.int p2), .val (.int p3), .val (.int p4), .unset, .unset, .unset, .unset, .unset, .unset, .unset, .unset, .unset, .unset, .unset, .unset] [(.int (12 : Int32)), (.ref ba), (.ref ba)])) rfl (hb hby at_86)
  refine own_via st49 ?_
  show own_E _ _ _ _ _ _ _ T49 (mkF m 89 #[.val (.int p1), .val (.int p2), .val (.int p3), .val (.int p4), .unset, .unset, .unset, .unset, .unset, .unset, .unset, .unset, .unset, .unset, .unset, .unset] [(.ref (B 12)), (.int (12 : Int32)), (.ref ba), (.ref ba)])
  obtain ⟨T50, h50, X50, e50, F50, W50, N50, st50⟩ := own_aastore (jn := 12) X49 hx hZ e49 F48 (by decide) (by decide) rfl (Ins.self (HC48.2 12 (by decide)).1) (g := (mkF m 89 #[.val (.int p1), .val (.int p2), .val (.int p3), .val (.int p4), .unset, .unset, .unset, .unset, .unset, .unset, .unset, .unset, .unset, .unset, .unset, .unset] [(.ref (B 12)), (.int (12 : Int32)), (.ref ba), (.ref ba)])) rfl rfl (hb hby at_89) N48 gz_ba
  refine own_via st50 ?_
  have Z50 : n0 ≤ h50.size := by rw [W50.size]; exact Z48
  have HC50 := HC48.wr W50 hne
  obtain ⟨f50, P50, F50⟩ : ∃ f : Nat → Value, (∀ j, j < 13 → f j = .ref (B j)) ∧ own_RA Z h50 ba "com/example/strategos/strategos/dd/Operation" 16 f := ⟨_, fun j hj => by unfold own_updV; split; (rename_i u; rw [u]); (exact P48 j (by omega)), F50⟩
  show own_E _ _ _ _ _ _ _ T50 (mkF m 90 #[.val (.int p1), .val (.int p2), .val (.int p3), .val (.int p4), .unset, .unset, .unset, .unset, .unset, .unset, .unset, .unset, .unset, .unset, .unset, .unset] [(.ref ba)])
  refine own_via (fun t => XS.dup X50.here hx rfl (hb hby at_90) rfl rfl) ?_
  show own_E _ _ _ _ _ _ _ T50 (mkF m 91 #[.val (.int p1), .val (.int p2), .val (.int p3), .val (.int p4), .unset, .unset, .unset, .unset, .unset, .unset, .unset, .unset, .unset, .unset, .unset, .unset] [(.ref ba), (.ref ba)])
  refine own_via (fun t => XS.bipush X50.here hx rfl (hb hby at_91)) ?_
  show own_E _ _ _ _ _ _ _ T50 (mkF m 93 #[.val (.int p1), .val (.int p2), .val (.int p3), .val (.int p4), .unset, .unset, .unset, .unset, .unset, .unset, .unset, .unset, .unset, .unset, .unset, .unset] [(.int (13 : Int32)), (.ref ba), (.ref ba)])
  obtain ⟨T51, X51, e51, st51⟩ := getS (host := "") X50 hx hZ hown (hw _ (List.mem_of_getElem? (i := 30) rfl)) Via.refl e50 (HC50.1 ("LESS_OR_EQUAL", 13) (List.mem_of_getElem? (i := 13) rfl)) (g := (mkF m 93 #[.val (.int p1), .val (.int p2), .val (.int p3), .val (.int p4), .unset, .unset, .unset, .unset, .unset, .unset, .unset, .unset, .unset, .unset, .unset, .unset] [(.int (13 : Int32)), (.ref ba), (.ref ba)])) rfl (hb hby at_93)
  refine own_via st51 ?_
  show own_E _ _ _ _ _ _ _ T51 (mkF m 96 #[.val (.int p1), .val (.int p2), .val (.int p3), .val (.int p4), .unset, .unset, .unset, .unset, .unset, .unset, .unset, .unset, .unset, .unset, .unset, .unset] [(.ref (B 13)), (.int (13 : Int32)), (.ref ba), (.ref ba)])
  obtain ⟨T52, h52, X52, e52, F52, W52, N52, st52⟩ := own_aastore (jn := 13) X51 hx hZ e51 F50 (by decide) (by decide) rfl (Ins.self (HC50.2 13 (by decide)).1) (g := (mkF m 96 #[.val (.int p1), .val (.int p2), .val (.int p3), .val (.int p4), .unset, .unset, .unset, .unset, .unset, .unset, .unset, .unset, .unset, .unset, .unset, .unset] [(.ref (B 13)), (.int (13 : Int32)), (.ref ba), (.ref ba)])) rfl rfl (hb hby at_96) N50 gz_ba
  refine own_via st52 ?_
  have Z52 : n0 ≤ h52.size := by rw [W52.size]; exact Z50
  have HC52 := HC50.wr W52 hne
  obtain ⟨f52, P52, F52⟩ : ∃ f : Nat → Value, (∀ j, j < 14 → f j = .ref (B j)) ∧ own_RA Z h52 ba "com/example/strategos/strategos/dd/Operation" 16 f := ⟨_, fun j hj => by unfold own_updV; split; (rename_i u; rw [u]); (exact P50 j (by omega)), F52⟩
  show own_E _ _ _ _ _ _ _ T52 (mkF m 97 #[.val (.int p1), .val (.int p2), .val (.int p3), .val (.int p4), .unset, .unset, .unset, .unset, .unset, .unset, .unset, .unset, .unset, .unset, .unset, .unset] [(.ref ba)])
  refine own_via (fun t => XS.dup X52.here hx rfl (hb hby at_97) rfl rfl) ?_
  show own_E _ _ _ _ _ _ _ T52 (mkF m 98 #[.val (.int p1), .val (.int p2), .val (.int p3), .val (.int p4), .unset, .unset, .unset, .unset, .unset, .unset, .unset, .unset, .unset, .unset, .unset, .unset] [(.ref ba), (.ref ba)])
  refine own_via (fun t => XS.bipush X52.here hx rfl (hb hby at_98)) ?_
  show own_E _ _ _ _ _ _ _ T52 (mkF m 100 #[.val (.int p1), .val (.int p2), .val (.int p3), .val (.int p4), .unset, .unset, .unset, .unset, .unset, .unset, .unset, .unset, .unset, .unset, .unset, .unset] [(.int (14 : Int32)), (.ref ba), (.ref ba)])
  obtain ⟨T53, X53, e53, st53⟩ := getS (host := "") X52 hx hZ hown (hw _ (List.mem_of_getElem? (i := 32) rfl)) Via.refl e52 (HC52.1 ("GREATER", 14) (List.mem_of_getElem? (i := 14) rfl)) (g := (mkF m 100 #[.val (.int p1), .val (.int p2), .val (.int p3), .val (.int p4), .unset, .unset, .unset, .unset, .unset, .unset, .unset, .unset, .unset, .unset, .unset, .unset] [(.int (14 : Int32)), (.ref ba), (.ref ba)])) rfl (hb hby at_100)
  refine own_via st53 ?_
  show own_E _ _ _ _ _ _ _ T53 (mkF m 103 #[.val (.int p1), .val (.int p2), .val (.int p3), .val (.int p4), .unset, .unset, .unset, .unset, .unset, .unset, .unset, .unset, .unset, .unset, .unset, .unset] [(.ref (B 14)), (.int (14 : Int32)), (.ref ba), (.ref ba)])
  obtain ⟨T54, h54, X54, e54, F54, W54, N54, st54⟩ := own_aastore (jn := 14) X53 hx hZ e53 F52 (by decide) (by decide) rfl (Ins.self (HC52.2 14 (by decide)).1) (g := (mkF m 103 #[.val (.int p1), .val (.int p2), .val (.int p3), .val (.int p4), .unset, .unset, .unset, .unset, .unset, .unset, .unset, .unset, .unset, .unset, .unset, .unset] [(.ref (B 14)), (.int (14 : Int32)), (.ref ba), (.ref ba)])) rfl rfl (hb hby at_103) N52 gz_ba
  refine own_via st54 ?_
  have Z54 : n0 ≤ h54.size := by rw [W54.size]; exact Z52
  have HC54 := HC52.wr W54 hne
  obtain ⟨f54, P54, F54⟩ : ∃ f : Nat → Value, (∀ j, j < 15 → f j = .ref (B j)) ∧ own_RA Z h54 ba "com/example/strategos/strategos/dd/Operation" 16 f := ⟨_, fun j hj => by unfold own_updV; split; (rename_i u; rw [u]); (exact P52 j (by omega)), F54⟩
  show own_E _ _ _ _ _ _ _ T54 (mkF m 104 #[.val (.int p1), .val (.int p2), .val (.int p3), .val (.int p4), .unset, .unset, .unset, .unset, .unset, .unset, .unset, .unset, .unset, .unset, .unset, .unset] [(.ref ba)])
  refine own_via (fun t => XS.dup X54.here hx rfl (hb hby at_104) rfl rfl) ?_
  show own_E _ _ _ _ _ _ _ T54 (mkF m 105 #[.val (.int p1), .val (.int p2), .val (.int p3), .val (.int p4), .unset, .unset, .unset, .unset, .unset, .unset, .unset, .unset, .unset, .unset, .unset, .unset] [(.ref ba), (.ref ba)])
  refine own_via (fun t => XS.bipush X54.here hx rfl (hb hby at_105)) ?_
  show own_E _ _ _ _ _ _ _ T54 (mkF m 107 #[.val (.int p1), .val (.int p2), .val (.int p3), .val (.int p4), .unset, .unset, .unset, .unset, .unset, .unset, .unset, .unset, .unset, .unset, .unset, .unset] [(.int (15 : Int32)), (.ref ba), (.ref ba)])
  obtain ⟨T55, X55, e55, st55⟩ := getS (host := "") X54 hx hZ hown (hw _ (List.mem_of_getElem? (i := 34) rfl)) Via.refl e54 (HC54.1 ("GREATER_OR_EQUAL", 15) (List.mem_of_getElem? (i := 15) rfl)) (g := (mkF m 107 #[.val (.int p1), .val (.int p2), .val (.int p3), .val (.int p4), .unset, .unset, .unset, .unset, .unset, .unset, .unset, .unset, .unset, .unset, .unset, .unset] [(.int (15 : Int32)), (.ref ba), (.ref ba)])) rfl (hb hby at_107)
  refine own_via st55 ?_
  show own_E _ _ _ _ _ _ _ T55 (mkF m 110 #[.val (.int p1), .val (.int p2), .val (.int p3), .val (.int p4), .unset, .unset, .unset, .unset, .unset, .unset, .unset, .unset, .unset, .unset, .unset, .unset] [(.ref (B 15)), (.int (15 : Int32)), (.ref ba), (.ref ba)])
  obtain ⟨T56, h56, X56, e56, F56, W56, N56, st56⟩ := own_aastore (jn := 15) X55 hx hZ e55 F54 (by decide) (by decide) rfl (Ins.self (HC54.2 15 (by decide)).1) (g := (mkF m 110 #[.val (.int p1), .val (.int p2), .val (.int p3), .val (.int p4), .unset, .unset, .unset, .unset, .unset, .unset, .unset, .unset, .unset, .unset, .unset, .unset] [(.ref (B 15)), (.int (15 : Int32)), (.ref ba), (.ref ba)])) rfl rfl (hb hby at_110) N54 gz_ba
  refine own_via st56 ?_
  have Z56 : n0 ≤ h56.size := by rw [W56.size]; exact Z54
  have HC56 := HC54.wr W56 hne
  obtain ⟨f56, P56, F56⟩ : ∃ f : Nat → Value, (∀ j, j < 16 → f j = .ref (B j)) ∧ own_RA Z h56 ba "com/example/strategos/strategos/dd/Operation" 16 f := ⟨_, fun j hj => by unfold own_updV; split; (rename_i u; rw [u]); (exact P54 j (by omega)), F56⟩
  show own_E _ _ _ _ _ _ _ T56 (mkF m 111 #[.val (.int p1), .val (.int p2), .val (.int p3), .val (.int p4), .unset, .unset, .unset, .unset, .unset, .unset, .unset, .unset, .unset, .unset, .unset, .unset] [(.ref ba)])
  refine own_via (fun t => XS.astore X56.here hx rfl (hb hby at_111) rfl rfl (l' := #[.val (.int p1), .val (.int p2), .val (.int p3), .val (.int p4), .val (.ref ba), .unset, .unset, .unset, .unset, .unset, .unset, .unset, .unset, .unset, .unset, .unset]) rfl) ?_
  show own_E _ _ _ _ _ _ _ T56 (mkF m 113 #[.val (.int p1), .val (.int p2), .val (.int p3), .val (.int p4), .val (.ref ba), .unset, .unset, .unset, .unset, .unset, .unset, .unset, .unset, .unset, .unset, .unset] [])
  refine own_via (fun t => XS.aload X56.here hx rfl (hb hby at_113) rfl rfl) ?_
  show own_E _ _ _ _ _ _ _ T56 (mkF m 115 #[.val (.int p1), .val (.int p2), .val (.int p3), .val (.int p4), .val (.ref ba), .unset, .unset, .unset, .unset, .unset, .unset, .unset, .unset, .unset, .unset, .unset] [(.ref ba)])
  refine own_via (fun t => XS.iloadN X56.here hx rfl (hb hby at_115) rfl) ?_
  show own_E _ _ _ _ _ _ _ T56 (mkF m 116 #[.val (.int p1), .val (.int p2), .val (.int p3), .val (.int p4), .val (.ref ba), .unset, .unset, .unset, .unset, .unset, .unset, .unset, .unset, .unset, .unset, .unset] [(.int p1), (.ref ba)])
  refine own_via (X56.ldcInt hx hown (mvT hZ (hw _ (List.mem_of_getElem? (i := 36) rfl))) (g := (mkF m 116 #[.val (.int p1), .val (.int p2), .val (.int p3), .val (.int p4), .val (.ref ba), .unset, .unset, .unset, .unset, .unset, .unset, .unset, .unset, .unset, .unset, .unset] [(.int p1), (.ref ba)])) rfl (hb hby at_116)) ?_
  show own_E _ _ _ _ _ _ _ T56 (mkF m 118 #[.val (.int p1), .val (.int p2), .val (.int p3), .val (.int p4), .val (.ref ba), .unset, .unset, .unset, .unset, .unset, .unset, .unset, .unset, .unset, .unset, .unset] [(.int (2147483647 : Int32)), (.int p1), (.ref ba)])
  refine own_via (fun t => XS.iand X56.here hx rfl (hb hby at_118) rfl) ?_
  show own_E _ _ _ _ _ _ _ T56 (mkF m 119 #[.val (.int p1), .val (.int p2), .val (.int p3), .val (.int p4), .val (.ref ba), .unset, .unset, .unset, .unset, .unset, .unset, .unset, .unset, .unset, .unset, .unset] [(.int (p1 &&& (2147483647 : Int32))), (.ref ba)])
  refine own_via (fun t => XS.bipush X56.here hx rfl (hb hby at_119)) ?_
  show own_E _ _ _ _ _ _ _ T56 (mkF m 121 #[.val (.int p1), .val (.int p2), .val (.int p3), .val (.int p4), .val (.ref ba), .unset, .unset, .unset, .unset, .unset, .unset, .unset, .unset, .unset, .unset, .unset] [(.int (16 : Int32)), (.int (p1 &&& (2147483647 : Int32))), (.ref ba)])
  refine own_via (fun t => iremM X56 hx rfl (hb hby at_121) rfl (by decide)) ?_
  show own_E _ _ _ _ _ _ _ T56 (mkF m 122 #[.val (.int p1), .val (.int p2), .val (.int p3), .val (.int p4), .val (.ref ba), .unset, .unset, .unset, .unset, .unset, .unset, .unset, .unset, .unset, .unset, .unset] [(.int ((p1 &&& (2147483647 : Int32)) % (16 : Int32))), (.ref ba)])
  obtain ⟨n, hn, en⟩ := own_ix16 p1
  refine own_via (own_aaload (jn := n) X56 hx hZ e56 F56 (by decide) hn en (P56 n hn) (g := (mkF m 122 #[.val (.int p1), .val (.int p2), .val (.int p3), .val (.int p4), .val (.ref ba), .unset, .unset, .unset, .unset, .unset, .unset, .unset, .unset, .unset, .unset, .unset] [(.int ((p1 &&& (2147483647 : Int32)) % (16 : Int32))), (.ref ba)])) rfl rfl (hb hby at_122)) ?_
  show own_E _ _ _ _ _ _ _ T56 (mkF m 123 #[.val (.int p1), .val (.int p2), .val (.int p3), .val (.int p4), .val (.ref ba), .unset, .unset, .unset, .unset, .unset, .unset, .unset, .unset, .unset, .unset, .unset] [(.ref (B n))])
  refine own_via (fun t => XS.astore X56.here hx rfl (hb hby at_123) rfl rfl (l' := #[.val (.int p1), .val (.int p2), .val (.int p3), .val (.int p4), .val (.ref ba), .val (.ref (B n)), .unset, .unset, .unset, .unset, .unset, .unset, .unset, .unset, .unset, .unset]) rfl) ?_
  show own_E _ _ _ _ _ _ _ T56 (mkF m 125 #[.val (.int p1), .val (.int p2), .val (.int p3), .val (.int p4), .val (.ref ba), .val (.ref (B n)), .unset, .unset, .unset, .unset, .unset, .unset, .unset, .unset, .unset, .unset] [])
  refine own_via (fun t => XS.aload X56.here hx rfl (hb hby at_125) rfl rfl) ?_
  show own_E _ _ _ _ _ _ _ T56 (mkF m 127 #[.val (.int p1), .val (.int p2), .val (.int p3), .val (.int p4), .val (.ref ba), .val (.ref (B n)), .unset, .unset, .unset, .unset, .unset, .unset, .unset, .unset, .unset, .unset] [(.ref (B n))])
  obtain ⟨cq57, kq57, q57a, q57b, q57c⟩ := isOf hZ e56 (HC56.2 n hn).1
  obtain ⟨_, _, ⟨T57, L57, k57, n57⟩, -, X57, ⟨Lc57, hQ57, l57, y57, z57⟩, st57⟩ := X56.virtualBack hx (y := (⟨"com/example/strategos/strategos/dd/Operation", "canAbstract", "()Z"⟩ : MethodName)) (z := (⟨"com/example/strategos/strategos/dd/Operation", "canAbstract", "()Z"⟩ : MethodName)) hown (mvT hZ (hw _ (List.mem_of_getElem? (i := 37) rfl))) (mvT hZ (hw _ (List.mem_of_getElem? (i := 38) rfl))) (notFace_of_selects (args := #[]) (mvT hZ (hw _ (List.mem_of_getElem? (i := 40) rfl)))) (mvT hZ (hw _ (List.mem_of_getElem? (i := 40) rfl))) (mvT hZ (hw _ (List.mem_of_getElem? (i := 39) rfl))) (by decide) (backOf (W := 0) (rm1 l Z a0 hw [] B n hn h56 n0 Z56 HC56) hZ (hw _ (List.mem_of_getElem? (i := 41) rfl)) (hw _ (List.mem_of_getElem? (i := 3) rfl)) (by decide) (by decide)) q57a q57c (g := (mkF m 127 #[.val (.int p1), .val (.int p2), .val (.int p3), .val (.int p4), .val (.ref ba), .val (.ref (B n)), .unset, .unset, .unset, .unset, .unset, .unset, .unset, .unset, .unset, .unset] [(.ref (B n))])) rfl (by rw [hml]; rfl) (Steps.refl _) (argsL := []) (rest := []) (lenOf pd_1 rfl) rfl (by show 2 * 0 + _ ≤ _; exact Nat.le_of_eq rfl) (hb hby at_127) (fun _ _ => ⟨rfl, e56, (by decide : 1 + 0 ≤ _), (by decide : 16 + 0 ≤ _)⟩)
  dsimp only [Pt.U, Pt.locs, Pt.cells, Pt.slots] at X57 l57 y57 z57 st57 hQ57
  subst l57 y57 z57
  obtain ⟨rfl, N57, e57⟩ := hQ57
  refine own_thru st57 ?_
  show own_E _ _ _ _ _ _ _ T57 (mkF m 130 #[.val (.int p1), .val (.int p2), .val (.int p3), .val (.int p4), .val (.ref ba), .val (.ref (B n)), .unset, .unset, .unset, .unset, .unset, .unset, .unset, .unset, .unset, .unset] [(.int (own_ca n))])
  have NA57 := Fr.app N56 N57
  refine own_via (fun t => XS.istore X57.here hx rfl (hb hby at_130) rfl (l' := #[.val (.int p1), .val (.int p2), .val (.int p3), .val (.int p4), .val (.ref ba), .val (.ref (B n)), .val (.int (own_ca n)), .unset, .unset, .unset, .unset, .unset, .unset, .unset, .unset, .unset]) rfl) ?_
  show own_E _ _ _ _ _ _ _ T57 (mkF m 132 #[.val (.int p1), .val (.int p2), .val (.int p3), .val (.int p4), .val (.ref ba), .val (.ref (B n)), .val (.int (own_ca n)), .unset, .unset, .unset, .unset, .unset, .unset, .unset, .unset, .unset] [])
  refine own_via (fun t => XS.aload X57.here hx rfl (hb hby at_132) rfl rfl) ?_
  show own_E _ _ _ _ _ _ _ T57 (mkF m 134 #[.val (.int p1), .val (.int p2), .val (.int p3), .val (.int p4), .val (.ref ba), .val (.ref (B n)), .val (.int (own_ca n)), .unset, .unset, .unset, .unset, .unset, .unset, .unset, .unset, .unset] [(.ref (B n))])
  obtain ⟨cq58, kq58, q58a, q58b, q58c⟩ := isOf hZ e57 (HC56.2 n hn).1
  obtain ⟨_, _, ⟨T58, L58, k58, n58⟩, -, X58, ⟨Lc58, hQ58, l58, y58, z58⟩, st58⟩ := X57.virtualBack hx (y := (⟨"com/example/strategos/strategos/dd/Operation", "isCommutative", "()Z"⟩ : MethodName)) (z := (⟨"com/example/strategos/strategos/dd/Operation", "isCommutative", "()Z"⟩ : MethodName)) hown (mvT hZ (hw _ (List.mem_of_getElem? (i := 43) rfl))) (mvT hZ (hw _ (List.mem_of_getElem? (i := 44) rfl))) (notFace_of_selects (args := #[]) (mvT hZ (hw _ (List.mem_of_getElem? (i := 46) rfl)))) (mvT hZ (hw _ (List.mem_of_getElem? (i := 46) rfl))) (mvT hZ (hw _ (List.mem_of_getElem? (i := 45) rfl))) (by decide) (backOf (W := 0) (rm2 l Z a0 hw [] B n hn h56 n0 Z56 HC56) hZ (hw _ (List.mem_of_getElem? (i := 47) rfl)) (hw _ (List.mem_of_getElem? (i := 3) rfl)) (by decide) (by decide)) q58a q58c (g := (mkF m 134 #[.val (.int p1), .val (.int p2), .val (.int p3), .val (.int p4), .val (.ref ba), .val (.ref (B n)), .val (.int (own_ca n)), .unset, .unset, .unset, .unset, .unset, .unset, .unset, .unset, .unset] [(.ref (B n))])) rfl (by rw [hml]; rfl) (Steps.refl _) (argsL := []) (rest := []) (lenOf pd_1 rfl) rfl (by show 2 * 0 + _ ≤ _; exact Nat.le_of_eq rfl) (hb hby at_134) (fun _ _ => ⟨rfl, e57, (by decide : 1 + 0 ≤ _), (by decide : 16 + 0 ≤ _)⟩)
  dsimp only [Pt.U, Pt.locs, Pt.cells, Pt.slots] at X58 l58 y58 z58 st58 hQ58
  subst l58 y58 z58
  obtain ⟨rfl, N58, e58⟩ := hQ58
  refine own_thru st58 ?_
  show own_E _ _ _ _ _ _ _ T58 (mkF m 137 #[.val (.int p1), .val (.int p2), .val (.int p3), .val (.int p4), .val (.ref ba), .val (.ref (B n)), .val (.int (own_ca n)), .unset, .unset, .unset, .unset, .unset, .unset, .unset, .unset, .unset] [(.int (own_comm n))])
  have NA58 := Fr.app NA57 N58
  by_cases c137_59 : (own_comm n) = (0 : Int32)
  · refine own_via (fun t => XS.ifYes X58.here hx rfl (pc0 := 137) (pc' := 176) rfl (hb hby at_137) rfl ((if0 _ _).trans (teq c137_59).1) (by decide) (by decide)) ?_
    show own_E _ _ _ _ _ _ _ T58 (mkF m 176 #[.val (.int p1), .val (.int p2), .val (.int p3), .val (.int p4), .val (.ref ba), .val (.ref (B n)), .val (.int (own_ca n)), .unset, .unset, .unset, .unset, .unset, .unset, .unset, .unset, .unset] [])
    have ca0 : own_ca n = 0 := own_road0 hn c137_59
    rw [ca0]
    show own_E _ _ _ _ _ _ _ T58 (mkF m 176 #[.val (.int p1), .val (.int p2), .val (.int p3), .val (.int p4), .val (.ref ba), .val (.ref (B n)), .val (.int (0 : Int32)), .unset, .unset, .unset, .unset, .unset, .unset, .unset, .unset, .unset] [])
    refine own_via (fun t => XS.iconst X58.here hx rfl (hb hby at_176)) ?_
    show own_E _ _ _ _ _ _ _ T58 (mkF m 177 #[.val (.int p1), .val (.int p2), .val (.int p3), .val (.int p4), .val (.ref ba), .val (.ref (B n)), .val (.int (0 : Int32)), .unset, .unset, .unset, .unset, .unset, .unset, .unset, .unset, .unset] [(.int (0 : Int32))])
    refine own_via (fun t => XS.istore X58.here hx rfl (hb hby at_177) rfl (l' := #[.val (.int p1), .val (.int p2), .val (.int p3), .val (.int p4), .val (.ref ba), .val (.ref (B n)), .val (.int (0 : Int32)), .val (.int (0 : Int32)), .unset, .unset, .unset, .unset, .unset, .unset, .unset, .unset]) rfl) ?_
    show own_E _ _ _ _ _ _ _ T58 (mkF m 179 #[.val (.int p1), .val (.int p2), .val (.int p3), .val (.int p4), .val (.ref ba), .val (.ref (B n)), .val (.int (0 : Int32)), .val (.int (0 : Int32)), .unset, .unset, .unset, .unset, .unset, .unset, .unset, .unset] [])
    refine own_via (fun t => XS.iload X58.here hx rfl (hb hby at_179) rfl) ?_
    show own_E _ _ _ _ _ _ _ T58 (mkF m 181 #[.val (.int p1), .val (.int p2), .val (.int p3), .val (.int p4), .val (.ref ba), .val (.ref (B n)), .val (.int (0 : Int32)), .val (.int (0 : Int32)), .unset, .unset, .unset, .unset, .unset, .unset, .unset, .unset] [(.int (0 : Int32))])
    refine own_via (fun t => XS.iload X58.here hx rfl (hb hby at_181) rfl) ?_
    show own_E _ _ _ _ _ _ _ T58 (mkF m 183 #[.val (.int p1), .val (.int p2), .val (.int p3), .val (.int p4), .val (.ref ba), .val (.ref (B n)), .val (.int (0 : Int32)), .val (.int (0 : Int32)), .unset, .unset, .unset, .unset, .unset, .unset, .unset, .unset] [(.int (0 : Int32)), (.int (0 : Int32))])
    refine own_via (fun t => XS.icmpYes X58.here hx rfl (pc0 := 183) (pc' := 188) rfl (hb hby at_183) rfl (teq (by decide : (0 : Int32) = (0 : Int32))).1 (by decide) (by decide)) ?_
    show own_E _ _ _ _ _ _ _ T58 (mkF m 188 #[.val (.int p1), .val (.int p2), .val (.int p3), .val (.int p4), .val (.ref ba), .val (.ref (B n)), .val (.int (0 : Int32)), .val (.int (0 : Int32)), .unset, .unset, .unset, .unset, .unset, .unset, .unset, .unset] [])
    refine own_via (fun t => XS.iload X58.here hx rfl (hb hby at_188) rfl) ?_
    show own_E _ _ _ _ _ _ _ T58 (mkF m 190 #[.val (.int p1), .val (.int p2), .val (.int p3), .val (.int p4), .val (.ref ba), .val (.ref (B n)), .val (.int (0 : Int32)), .val (.int (0 : Int32)), .unset, .unset, .unset, .unset, .unset, .unset, .unset, .unset] [(.int (0 : Int32))])
    refine own_via (fun t => XS.ifNo X58.here hx rfl (hb hby at_190) rfl ((if0 _ _).trans (teq (by decide : (0 : Int32) = (0 : Int32))).2)) ?_
    show own_E _ _ _ _ _ _ _ T58 (mkF m 193 #[.val (.int p1), .val (.int p2), .val (.int p3), .val (.int p4), .val (.ref ba), .val (.ref (B n)), .val (.int (0 : Int32)), .val (.int (0 : Int32)), .unset, .unset, .unset, .unset, .unset, .unset, .unset, .unset] [])
    refine own_via (fun t => XS.iconst X58.here hx rfl (hb hby at_193)) ?_
    show own_E _ _ _ _ _ _ _ T58 (mkF m 194 #[.val (.int p1), .val (.int p2), .val (.int p3), .val (.int p4), .val (.ref ba), .val (.ref (B n)), .val (.int (0 : Int32)), .val (.int (0 : Int32)), .unset, .unset, .unset, .unset, .unset, .unset, .unset, .unset] [(.int (1 : Int32))])
    exact own_retN X58 hx hlk Bd.returns (Or.inl rfl) (hb hby at_194) (by decide) (by decide) ⟨rfl, NA58⟩
  · refine own_via (fun t => XS.ifNo X58.here hx rfl (hb hby at_137) rfl ((if0 _ _).trans (feq c137_59).1)) ?_
    show own_E _ _ _ _ _ _ _ T58 (mkF m 140 #[.val (.int p1), .val (.int p2), .val (.int p3), .val (.int p4), .val (.ref ba), .val (.ref (B n)), .val (.int (own_ca n)), .unset, .unset, .unset, .unset, .unset, .unset, .unset, .unset, .unset] [])
    refine own_via (fun t => XS.aload X58.here hx rfl (hb hby at_140) rfl rfl) ?_
    show own_E _ _ _ _ _ _ _ T58 (mkF m 142 #[.val (.int p1), .val (.int p2), .val (.int p3), .val (.int p4), .val (.ref ba), .val (.ref (B n)), .val (.int (own_ca n)), .unset, .unset, .unset, .unset, .unset, .unset, .unset, .unset, .unset] [(.ref (B n))])
    obtain ⟨T60, X60, e60, st60⟩ := getS (host := "") X58 hx hZ hown (hw _ (List.mem_of_getElem? (i := 8) rfl)) Via.refl e58 (HC56.1 ("TIMES", 2) (List.mem_of_getElem? (i := 2) rfl)) (g := (mkF m 142 #[.val (.int p1), .val (.int p2), .val (.int p3), .val (.int p4), .val (.ref ba), .val (.ref (B n)), .val (.int (own_ca n)), .unset, .unset, .unset, .unset, .unset, .unset, .unset, .unset, .unset] [(.ref (B n))])) rfl (hb hby at_142)
    refine own_via st60 ?_
    show own_E _ _ _ _ _ _ _ T60 (mkF m 145 #[.val (.int p1), .val (.int p2), .val (.int p3), .val (.int p4), .val (.ref ba), .val (.ref (B n)), .val (.int (own_ca n)), .unset, .unset, .unset, .unset, .unset, .unset, .unset, .unset, .unset] [(.ref (B 2)), (.ref (B n))])
    by_cases c145_61 : n = 2
    · refine own_via (fun t => Jvm.RoadKit.acmp (g := (mkF m 145 #[.val (.int p1), .val (.int p2), .val (.int p3), .val (.int p4), .val (.ref ba), .val (.ref (B n)), .val (.int (own_ca n)), .unset, .unset, .unset, .unset, .unset, .unset, .unset, .unset, .unset] [(.ref (B 2)), (.ref (B n))])) X60 hx rfl rfl rfl (pc0 := 145) (pc' := 176) (same := true) rfl (hb hby at_145) rfl (decide_eq_true (by rw [c145_61])) (by decide) (by decide)) ?_
      show own_E _ _ _ _ _ _ _ T60 (mkF m 176 #[.val (.int p1), .val (.int p2), .val (.int p3), .val (.int p4), .val (.ref ba), .val (.ref (B n)), .val (.int (own_ca n)), .unset, .unset, .unset, .unset, .unset, .unset, .unset, .unset, .unset] [])
      have ca0 : own_ca n = 0 := by rw [c145_61]; rfl
      rw [ca0]
      show own_E _ _ _ _ _ _ _ T60 (mkF m 176 #[.val (.int p1), .val (.int p2), .val (.int p3), .val (.int p4), .val (.ref ba), .val (.ref (B n)), .val (.int (0 : Int32)), .unset, .unset, .unset, .unset, .unset, .unset, .unset, .unset, .unset] [])
      refine own_via (fun t => XS.iconst X60.here hx rfl (hb hby at_176)) ?_
      show own_E _ _ _ _ _ _ _ T60 (mkF m 177 #[.val (.int p1), .val (.int p2), .val (.int p3), .val (.int p4), .val (.ref ba), .val (.ref (B n)), .val (.int (0 : Int32)), .unset, .unset, .unset, .unset, .unset, .unset, .unset, .unset, .unset] [(.int (0 : Int32))])
      refine own_via (fun t => XS.istore X60.here hx rfl (hb hby at_177) rfl (l' := #[.val (.int p1), .val (.int p2), .val (.int p3), .val (.int p4), .val (.ref ba), .val (.ref (B n)), .val (.int (0 : Int32)), .val (.int (0 : Int32)), .unset, .unset, .unset, .unset, .unset, .unset, .unset, .unset]) rfl) ?_
      show own_E _ _ _ _ _ _ _ T60 (mkF m 179 #[.val (.int p1), .val (.int p2), .val (.int p3), .val (.int p4), .val (.ref ba), .val (.ref (B n)), .val (.int (0 : Int32)), .val (.int (0 : Int32)), .unset, .unset, .unset, .unset, .unset, .unset, .unset, .unset] [])
      refine own_via (fun t => XS.iload X60.here hx rfl (hb hby at_179) rfl) ?_
      show own_E _ _ _ _ _ _ _ T60 (mkF m 181 #[.val (.int p1), .val (.int p2), .val (.int p3), .val (.int p4), .val (.ref ba), .val (.ref (B n)), .val (.int (0 : Int32)), .val (.int (0 : Int32)), .unset, .unset, .unset, .unset, .unset, .unset, .unset, .unset] [(.int (0 : Int32))])
      refine own_via (fun t => XS.iload X60.here hx rfl (hb hby at_181) rfl) ?_
      show own_E _ _ _ _ _ _ _ T60 (mkF m 183 #[.val (.int p1), .val (.int p2), .val (.int p3), .val (.int p4), .val (.ref ba), .val (.ref (B n)), .val (.int (0 : Int32)), .val (.int (0 : Int32)), .unset, .unset, .unset, .unset, .unset, .unset, .unset, .unset] [(.int (0 : Int32)), (.int (0 : Int32))])
      refine own_via (fun t => XS.icmpYes X60.here hx rfl (pc0 := 183) (pc' := 188) rfl (hb hby at_183) rfl (teq (by decide : (0 : Int32) = (0 : Int32))).1 (by decide) (by decide)) ?_
      show own_E _ _ _ _ _ _ _ T60 (mkF m 188 #[.val (.int p1), .val (.int p2), .val (.int p3), .val (.int p4), .val (.ref ba), .val (.ref (B n)), .val (.int (0 : Int32)), .val (.int (0 : Int32)), .unset, .unset, .unset, .unset, .unset, .unset, .unset, .unset] [])
      refine own_via (fun t => XS.iload X60.here hx rfl (hb hby at_188) rfl) ?_
      show own_E _ _ _ _ _ _ _ T60 (mkF m 190 #[.val (.int p1), .val (.int p2), .val (.int p3), .val (.int p4), .val (.ref ba), .val (.ref (B n)), .val (.int (0 : Int32)), .val (.int (0 : Int32)), .unset, .unset, .unset, .unset, .unset, .unset, .unset, .unset] [(.int (0 : Int32))])
      refine own_via (fun t => XS.ifNo X60.here hx rfl (hb hby at_190) rfl ((if0 _ _).trans (teq (by decide : (0 : Int32) = (0 : Int32))).2)) ?_
      show own_E _ _ _ _ _ _ _ T60 (mkF m 193 #[.val (.int p1), .val (.int p2), .val (.int p3), .val (.int p4), .val (.ref ba), .val (.ref (B n)), .val (.int (0 : Int32)), .val (.int (0 : Int32)), .unset, .unset, .unset, .unset, .unset, .unset, .unset, .unset] [])
      refine own_via (fun t => XS.iconst X60.here hx rfl (hb hby at_193)) ?_
      show own_E _ _ _ _ _ _ _ T60 (mkF m 194 #[.val (.int p1), .val (.int p2), .val (.int p3), .val (.int p4), .val (.ref ba), .val (.ref (B n)), .val (.int (0 : Int32)), .val (.int (0 : Int32)), .unset, .unset, .unset, .unset, .unset, .unset, .unset, .unset] [(.int (1 : Int32))])
      exact own_retN X60 hx hlk Bd.returns (Or.inl rfl) (hb hby at_194) (by decide) (by decide) ⟨rfl, NA58⟩
    · refine own_via (fun t => Jvm.RoadKit.acmp (g := (mkF m 145 #[.val (.int p1), .val (.int p2), .val (.int p3), .val (.int p4), .val (.ref ba), .val (.ref (B n)), .val (.int (own_ca n)), .unset, .unset, .unset, .unset, .unset, .unset, .unset, .unset, .unset] [(.ref (B 2)), (.ref (B n))])) X60 hx rfl rfl rfl (pc0 := 145) (pc' := 148) (same := false) rfl (hb hby at_145) rfl (decide_eq_false (fun q => c145_61 (HC56.inj hn (by decide) (Value.ref.inj q)))) (by decide) (by decide)) ?_
      show own_E _ _ _ _ _ _ _ T60 (mkF m 148 #[.val (.int p1), .val (.int p2), .val (.int p3), .val (.int p4), .val (.ref ba), .val (.ref (B n)), .val (.int (own_ca n)), .unset, .unset, .unset, .unset, .unset, .unset, .unset, .unset, .unset] [])
      refine own_via (fun t => XS.aload X60.here hx rfl (hb hby at_148) rfl rfl) ?_
      show own_E _ _ _ _ _ _ _ T60 (mkF m 150 #[.val (.int p1), .val (.int p2), .val (.int p3), .val (.int p4), .val (.ref ba), .val (.ref (B n)), .val (.int (own_ca n)), .unset, .unset, .unset, .unset, .unset, .unset, .unset, .unset, .unset] [(.ref (B n))])
      obtain ⟨T62, X62, e62, st62⟩ := getS (host := "") X60 hx hZ hown (hw _ (List.mem_of_getElem? (i := 18) rfl)) Via.refl e60 (HC56.1 ("AND", 7) (List.mem_of_getElem? (i := 7) rfl)) (g := (mkF m 150 #[.val (.int p1), .val (.int p2), .val (.int p3), .val (.int p4), .val (.ref ba), .val (.ref (B n)), .val (.int (own_ca n)), .unset, .unset, .unset, .unset, .unset, .unset, .unset, .unset, .unset] [(.ref (B n))])) rfl (hb hby at_150)
      refine own_via st62 ?_
      show own_E _ _ _ _ _ _ _ T62 (mkF m 153 #[.val (.int p1), .val (.int p2), .val (.int p3), .val (.int p4), .val (.ref ba), .val (.ref (B n)), .val (.int (own_ca n)), .unset, .unset, .unset, .unset, .unset, .unset, .unset, .unset, .unset] [(.ref (B 7)), (.ref (B n))])
      by_cases c153_63 : n = 7
      · refine own_via (fun t => Jvm.RoadKit.acmp (g := (mkF m 153 #[.val (.int p1), .val (.int p2), .val (.int p3), .val (.int p4), .val (.ref ba), .val (.ref (B n)), .val (.int (own_ca n)), .unset, .unset, .unset, .unset, .unset, .unset, .unset, .unset, .unset] [(.ref (B 7)), (.ref (B n))])) X62 hx rfl rfl rfl (pc0 := 153) (pc' := 176) (same := true) rfl (hb hby at_153) rfl (decide_eq_true (by rw [c153_63])) (by decide) (by decide)) ?_
        show own_E _ _ _ _ _ _ _ T62 (mkF m 176 #[.val (.int p1), .val (.int p2), .val (.int p3), .val (.int p4), .val (.ref ba), .val (.ref (B n)), .val (.int (own_ca n)), .unset, .unset, .unset, .unset, .unset, .unset, .unset, .unset, .unset] [])
        have ca0 : own_ca n = 0 := by rw [c153_63]; rfl
        rw [ca0]
        show own_E _ _ _ _ _ _ _ T62 (mkF m 176 #[.val (.int p1), .val (.int p2), .val (.int p3), .val (.int p4), .val (.ref ba), .val (.ref (B n)), .val (.int (0 : Int32)), .unset, .unset, .unset, .unset, .unset, .unset, .unset, .unset, .unset] [])
        refine own_via (fun t => XS.iconst X62.here hx rfl (hb hby at_176)) ?_
        show own_E _ _ _ _ _ _ _ T62 (mkF m 177 #[.val (.int p1), .val (.int p2), .val (.int p3), .val (.int p4), .val (.ref ba), .val (.ref (B n)), .val (.int (0 : Int32)), .unset, .unset, .unset, .unset, .unset, .unset, .unset, .unset, .unset] [(.int (0 : Int32))])
        refine own_via (fun t => XS.istore X62.here hx rfl (hb hby at_177) rfl (l' := #[.val (.int p1), .val (.int p2), .val (.int p3), .val (.int p4), .val (.ref ba), .val (.ref (B n)), .val (.int (0 : Int32)), .val (.int (0 : Int32)), .unset, .unset, .unset, .unset, .unset, .unset, .unset, .unset]) rfl) ?_
        show own_E _ _ _ _ _ _ _ T62 (mkF m 179 #[.val (.int p1), .val (.int p2), .val (.int p3), .val (.int p4), .val (.ref ba), .val (.ref (B n)), .val (.int (0 : Int32)), .val (.int (0 : Int32)), .unset, .unset, .unset, .unset, .unset, .unset, .unset, .unset] [])
        refine own_via (fun t => XS.iload X62.here hx rfl (hb hby at_179) rfl) ?_
        show own_E _ _ _ _ _ _ _ T62 (mkF m 181 #[.val (.int p1), .val (.int p2), .val (.int p3), .val (.int p4), .val (.ref ba), .val (.ref (B n)), .val (.int (0 : Int32)), .val (.int (0 : Int32)), .unset, .unset, .unset, .unset, .unset, .unset, .unset, .unset] [(.int (0 : Int32))])
        refine own_via (fun t => XS.iload X62.here hx rfl (hb hby at_181) rfl) ?_
        show own_E _ _ _ _ _ _ _ T62 (mkF m 183 #[.val (.int p1), .val (.int p2), .val (.int p3), .val (.int p4), .val (.ref ba), .val (.ref (B n)), .val (.int (0 : Int32)), .val (.int (0 : Int32)), .unset, .unset, .unset, .unset, .unset, .unset, .unset, .unset] [(.int (0 : Int32)), (.int (0 : Int32))])
        refine own_via (fun t => XS.icmpYes X62.here hx rfl (pc0 := 183) (pc' := 188) rfl (hb hby at_183) rfl (teq (by decide : (0 : Int32) = (0 : Int32))).1 (by decide) (by decide)) ?_
        show own_E _ _ _ _ _ _ _ T62 (mkF m 188 #[.val (.int p1), .val (.int p2), .val (.int p3), .val (.int p4), .val (.ref ba), .val (.ref (B n)), .val (.int (0 : Int32)), .val (.int (0 : Int32)), .unset, .unset, .unset, .unset, .unset, .unset, .unset, .unset] [])
        refine own_via (fun t => XS.iload X62.here hx rfl (hb hby at_188) rfl) ?_
        show own_E _ _ _ _ _ _ _ T62 (mkF m 190 #[.val (.int p1), .val (.int p2), .val (.int p3), .val (.int p4), .val (.ref ba), .val (.ref (B n)), .val (.int (0 : Int32)), .val (.int (0 : Int32)), .unset, .unset, .unset, .unset, .unset, .unset, .unset, .unset] [(.int (0 : Int32))])
        refine own_via (fun t => XS.ifNo X62.here hx rfl (hb hby at_190) rfl ((if0 _ _).trans (teq (by decide : (0 : Int32) = (0 : Int32))).2)) ?_
        show own_E _ _ _ _ _ _ _ T62 (mkF m 193 #[.val (.int p1), .val (.int p2), .val (.int p3), .val (.int p4), .val (.ref ba), .val (.ref (B n)), .val (.int (0 : Int32)), .val (.int (0 : Int32)), .unset, .unset, .unset, .unset, .unset, .unset, .unset, .unset] [])
        refine own_via (fun t => XS.iconst X62.here hx rfl (hb hby at_193)) ?_
        show own_E _ _ _ _ _ _ _ T62 (mkF m 194 #[.val (.int p1), .val (.int p2), .val (.int p3), .val (.int p4), .val (.ref ba), .val (.ref (B n)), .val (.int (0 : Int32)), .val (.int (0 : Int32)), .unset, .unset, .unset, .unset, .unset, .unset, .unset, .unset] [(.int (1 : Int32))])
        exact own_retN X62 hx hlk Bd.returns (Or.inl rfl) (hb hby at_194) (by decide) (by decide) ⟨rfl, NA58⟩
      · refine own_via (fun t => Jvm.RoadKit.acmp (g := (mkF m 153 #[.val (.int p1), .val (.int p2), .val (.int p3), .val (.int p4), .val (.ref ba), .val (.ref (B n)), .val (.int (own_ca n)), .unset, .unset, .unset, .unset, .unset, .unset, .unset, .unset, .unset] [(.ref (B 7)), (.ref (B n))])) X62 hx rfl rfl rfl (pc0 := 153) (pc' := 156) (same := false) rfl (hb hby at_153) rfl (decide_eq_false (fun q => c153_63 (HC56.inj hn (by decide) (Value.ref.inj q)))) (by decide) (by decide)) ?_
        show own_E _ _ _ _ _ _ _ T62 (mkF m 156 #[.val (.int p1), .val (.int p2), .val (.int p3), .val (.int p4), .val (.ref ba), .val (.ref (B n)), .val (.int (own_ca n)), .unset, .unset, .unset, .unset, .unset, .unset, .unset, .unset, .unset] [])
        refine own_via (fun t => XS.aload X62.here hx rfl (hb hby at_156) rfl rfl) ?_
        show own_E _ _ _ _ _ _ _ T62 (mkF m 158 #[.val (.int p1), .val (.int p2), .val (.int p3), .val (.int p4), .val (.ref ba), .val (.ref (B n)), .val (.int (own_ca n)), .unset, .unset, .unset, .unset, .unset, .unset, .unset, .unset, .unset] [(.ref (B n))])
        obtain ⟨T64, X64, e64, st64⟩ := getS (host := "") X62 hx hZ hown (hw _ (List.mem_of_getElem? (i := 24) rfl)) Via.refl e62 (HC56.1 ("EQUALS", 10) (List.mem_of_getElem? (i := 10) rfl)) (g := (mkF m 158 #[.val (.int p1), .val (.int p2), .val (.int p3), .val (.int p4), .val (.ref ba), .val (.ref (B n)), .val (.int (own_ca n)), .unset, .unset, .unset, .unset, .unset, .unset, .unset, .unset, .unset] [(.ref (B n))])) rfl (hb hby at_158)
        refine own_via st64 ?_
        show own_E _ _ _ _ _ _ _ T64 (mkF m 161 #[.val (.int p1), .val (.int p2), .val (.int p3), .val (.int p4), .val (.ref ba), .val (.ref (B n)), .val (.int (own_ca n)), .unset, .unset, .unset, .unset, .unset, .unset, .unset, .unset, .unset] [(.ref (B 10)), (.ref (B n))])
        by_cases c161_65 : n = 10
        · refine own_via (fun t => Jvm.RoadKit.acmp (g := (mkF m 161 #[.val (.int p1), .val (.int p2), .val (.int p3), .val (.int p4), .val (.ref ba), .val (.ref (B n)), .val (.int (own_ca n)), .unset, .unset, .unset, .unset, .unset, .unset, .unset, .unset, .unset] [(.ref (B 10)), (.ref (B n))])) X64 hx rfl rfl rfl (pc0 := 161) (pc' := 176) (same := true) rfl (hb hby at_161) rfl (decide_eq_true (by rw [c161_65])) (by decide) (by decide)) ?_
          show own_E _ _ _ _ _ _ _ T64 (mkF m 176 #[.val (.int p1), .val (.int p2), .val (.int p3), .val (.int p4), .val (.ref ba), .val (.ref (B n)), .val (.int (own_ca n)), .unset, .unset, .unset, .unset, .unset, .unset, .unset, .unset, .unset] [])
          have ca0 : own_ca n = 0 := by rw [c161_65]; rfl
          rw [ca0]
          show own_E _ _ _ _ _ _ _ T64 (mkF m 176 #[.val (.int p1), .val (.int p2), .val (.int p3), .val (.int p4), .val (.ref ba), .val (.ref (B n)), .val (.int (0 : Int32)), .unset, .unset, .unset, .unset, .unset, .unset, .unset, .unset, .unset] [])
          refine own_via (fun t => XS.iconst X64.here hx rfl (hb hby at_176)) ?_
          show own_E _ _ _ _ _ _ _ T64 (mkF m 177 #[.val (.int p1), .val (.int p2), .val (.int p3), .val (.int p4), .val (.ref ba), .val (.ref (B n)), .val (.int (0 : Int32)), .unset, .unset, .unset, .unset, .unset, .unset, .unset, .unset, .unset] [(.int (0 : Int32))])
          refine own_via (fun t => XS.istore X64.here hx rfl (hb hby at_177) rfl (l' := #[.val (.int p1), .val (.int p2), .val (.int p3), .val (.int p4), .val (.ref ba), .val (.ref (B n)), .val (.int (0 : Int32)), .val (.int (0 : Int32)), .unset, .unset, .unset, .unset, .unset, .unset, .unset, .unset]) rfl) ?_
          show own_E _ _ _ _ _ _ _ T64 (mkF m 179 #[.val (.int p1), .val (.int p2), .val (.int p3), .val (.int p4), .val (.ref ba), .val (.ref (B n)), .val (.int (0 : Int32)), .val (.int (0 : Int32)), .unset, .unset, .unset, .unset, .unset, .unset, .unset, .unset] [])
          refine own_via (fun t => XS.iload X64.here hx rfl (hb hby at_179) rfl) ?_
          show own_E _ _ _ _ _ _ _ T64 (mkF m 181 #[.val (.int p1), .val (.int p2), .val (.int p3), .val (.int p4), .val (.ref ba), .val (.ref (B n)), .val (.int (0 : Int32)), .val (.int (0 : Int32)), .unset, .unset, .unset, .unset, .unset, .unset, .unset, .unset] [(.int (0 : Int32))])
          refine own_via (fun t => XS.iload X64.here hx rfl (hb hby at_181) rfl) ?_
          show own_E _ _ _ _ _ _ _ T64 (mkF m 183 #[.val (.int p1), .val (.int p2), .val (.int p3), .val (.int p4), .val (.ref ba), .val (.ref (B n)), .val (.int (0 : Int32)), .val (.int (0 : Int32)), .unset, .unset, .unset, .unset, .unset, .unset, .unset, .unset] [(.int (0 : Int32)), (.int (0 : Int32))])
          refine own_via (fun t => XS.icmpYes X64.here hx rfl (pc0 := 183) (pc' := 188) rfl (hb hby at_183) rfl (teq (by decide : (0 : Int32) = (0 : Int32))).1 (by decide) (by decide)) ?_
          show own_E _ _ _ _ _ _ _ T64 (mkF m 188 #[.val (.int p1), .val (.int p2), .val (.int p3), .val (.int p4), .val (.ref ba), .val (.ref (B n)), .val (.int (0 : Int32)), .val (.int (0 : Int32)), .unset, .unset, .unset, .unset, .unset, .unset, .unset, .unset] [])
          refine own_via (fun t => XS.iload X64.here hx rfl (hb hby at_188) rfl) ?_
          show own_E _ _ _ _ _ _ _ T64 (mkF m 190 #[.val (.int p1), .val (.int p2), .val (.int p3), .val (.int p4), .val (.ref ba), .val (.ref (B n)), .val (.int (0 : Int32)), .val (.int (0 : Int32)), .unset, .unset, .unset, .unset, .unset, .unset, .unset, .unset] [(.int (0 : Int32))])
          refine own_via (fun t => XS.ifNo X64.here hx rfl (hb hby at_190) rfl ((if0 _ _).trans (teq (by decide : (0 : Int32) = (0 : Int32))).2)) ?_
          show own_E _ _ _ _ _ _ _ T64 (mkF m 193 #[.val (.int p1), .val (.int p2), .val (.int p3), .val (.int p4), .val (.ref ba), .val (.ref (B n)), .val (.int (0 : Int32)), .val (.int (0 : Int32)), .unset, .unset, .unset, .unset, .unset, .unset, .unset, .unset] [])
          refine own_via (fun t => XS.iconst X64.here hx rfl (hb hby at_193)) ?_
          show own_E _ _ _ _ _ _ _ T64 (mkF m 194 #[.val (.int p1), .val (.int p2), .val (.int p3), .val (.int p4), .val (.ref ba), .val (.ref (B n)), .val (.int (0 : Int32)), .val (.int (0 : Int32)), .unset, .unset, .unset, .unset, .unset, .unset, .unset, .unset] [(.int (1 : Int32))])
          exact own_retN X64 hx hlk Bd.returns (Or.inl rfl) (hb hby at_194) (by decide) (by decide) ⟨rfl, NA58⟩
        · refine own_via (fun t => Jvm.RoadKit.acmp (g := (mkF m 161 #[.val (.int p1), .val (.int p2), .val (.int p3), .val (.int p4), .val (.ref ba), .val (.ref (B n)), .val (.int (own_ca n)), .unset, .unset, .unset, .unset, .unset, .unset, .unset, .unset, .unset] [(.ref (B 10)), (.ref (B n))])) X64 hx rfl rfl rfl (pc0 := 161) (pc' := 164) (same := false) rfl (hb hby at_161) rfl (decide_eq_false (fun q => c161_65 (HC56.inj hn (by decide) (Value.ref.inj q)))) (by decide) (by decide)) ?_
          show own_E _ _ _ _ _ _ _ T64 (mkF m 164 #[.val (.int p1), .val (.int p2), .val (.int p3), .val (.int p4), .val (.ref ba), .val (.ref (B n)), .val (.int (own_ca n)), .unset, .unset, .unset, .unset, .unset, .unset, .unset, .unset, .unset] [])
          refine own_via (fun t => XS.aload X64.here hx rfl (hb hby at_164) rfl rfl) ?_
          show own_E _ _ _ _ _ _ _ T64 (mkF m 166 #[.val (.int p1), .val (.int p2), .val (.int p3), .val (.int p4), .val (.ref ba), .val (.ref (B n)), .val (.int (own_ca n)), .unset, .unset, .unset, .unset, .unset, .unset, .unset, .unset, .unset] [(.ref (B n))])
          obtain ⟨T66, X66, e66, st66⟩ := getS (host := "") X64 hx hZ hown (hw _ (List.mem_of_getElem? (i := 26) rfl)) Via.refl e64 (HC56.1 ("NOT_EQUALS", 11) (List.mem_of_getElem? (i := 11) rfl)) (g := (mkF m 166 #[.val (.int p1), .val (.int p2), .val (.int p3), .val (.int p4), .val (.ref ba), .val (.ref (B n)), .val (.int (own_ca n)), .unset, .unset, .unset, .unset, .unset, .unset, .unset, .unset, .unset] [(.ref (B n))])) rfl (hb hby at_166)
          refine own_via st66 ?_
          show own_E _ _ _ _ _ _ _ T66 (mkF m 169 #[.val (.int p1), .val (.int p2), .val (.int p3), .val (.int p4), .val (.ref ba), .val (.ref (B n)), .val (.int (own_ca n)), .unset, .unset, .unset, .unset, .unset, .unset, .unset, .unset, .unset] [(.ref (B 11)), (.ref (B n))])
          by_cases c169_67 : n = 11
          · refine own_via (fun t => Jvm.RoadKit.acmp (g := (mkF m 169 #[.val (.int p1), .val (.int p2), .val (.int p3), .val (.int p4), .val (.ref ba), .val (.ref (B n)), .val (.int (own_ca n)), .unset, .unset, .unset, .unset, .unset, .unset, .unset, .unset, .unset] [(.ref (B 11)), (.ref (B n))])) X66 hx rfl rfl rfl (pc0 := 169) (pc' := 176) (same := true) rfl (hb hby at_169) rfl (decide_eq_true (by rw [c169_67])) (by decide) (by decide)) ?_
            show own_E _ _ _ _ _ _ _ T66 (mkF m 176 #[.val (.int p1), .val (.int p2), .val (.int p3), .val (.int p4), .val (.ref ba), .val (.ref (B n)), .val (.int (own_ca n)), .unset, .unset, .unset, .unset, .unset, .unset, .unset, .unset, .unset] [])
            have ca0 : own_ca n = 0 := by rw [c169_67]; rfl
            rw [ca0]
            show own_E _ _ _ _ _ _ _ T66 (mkF m 176 #[.val (.int p1), .val (.int p2), .val (.int p3), .val (.int p4), .val (.ref ba), .val (.ref (B n)), .val (.int (0 : Int32)), .unset, .unset, .unset, .unset, .unset, .unset, .unset, .unset, .unset] [])
            refine own_via (fun t => XS.iconst X66.here hx rfl (hb hby at_176)) ?_
            show own_E _ _ _ _ _ _ _ T66 (mkF m 177 #[.val (.int p1), .val (.int p2), .val (.int p3), .val (.int p4), .val (.ref ba), .val (.ref (B n)), .val (.int (0 : Int32)), .unset, .unset, .unset, .unset, .unset, .unset, .unset, .unset, .unset] [(.int (0 : Int32))])
            refine own_via (fun t => XS.istore X66.here hx rfl (hb hby at_177) rfl (l' := #[.val (.int p1), .val (.int p2), .val (.int p3), .val (.int p4), .val (.ref ba), .val (.ref (B n)), .val (.int (0 : Int32)), .val (.int (0 : Int32)), .unset, .unset, .unset, .unset, .unset, .unset, .unset, .unset]) rfl) ?_
            show own_E _ _ _ _ _ _ _ T66 (mkF m 179 #[.val (.int p1), .val (.int p2), .val (.int p3), .val (.int p4), .val (.ref ba), .val (.ref (B n)), .val (.int (0 : Int32)), .val (.int (0 : Int32)), .unset, .unset, .unset, .unset, .unset, .unset, .unset, .unset] [])
            refine own_via (fun t => XS.iload X66.here hx rfl (hb hby at_179) rfl) ?_
            show own_E _ _ _ _ _ _ _ T66 (mkF m 181 #[.val (.int p1), .val (.int p2), .val (.int p3), .val (.int p4), .val (.ref ba), .val (.ref (B n)), .val (.int (0 : Int32)), .val (.int (0 : Int32)), .unset, .unset, .unset, .unset, .unset, .unset, .unset, .unset] [(.int (0 : Int32))])
            refine own_via (fun t => XS.iload X66.here hx rfl (hb hby at_181) rfl) ?_
            show own_E _ _ _ _ _ _ _ T66 (mkF m 183 #[.val (.int p1), .val (.int p2), .val (.int p3), .val (.int p4), .val (.ref ba), .val (.ref (B n)), .val (.int (0 : Int32)), .val (.int (0 : Int32)), .unset, .unset, .unset, .unset, .unset, .unset, .unset, .unset] [(.int (0 : Int32)), (.int (0 : Int32))])
            refine own_via (fun t => XS.icmpYes X66.here hx rfl (pc0 := 183) (pc' := 188) rfl (hb hby at_183) rfl (teq (by decide : (0 : Int32) = (0 : Int32))).1 (by decide) (by decide)) ?_
            show own_E _ _ _ _ _ _ _ T66 (mkF m 188 #[.val (.int p1), .val (.int p2), .val (.int p3), .val (.int p4), .val (.ref ba), .val (.ref (B n)), .val (.int (0 : Int32)), .val (.int (0 : Int32)), .unset, .unset, .unset, .unset, .unset, .unset, .unset, .unset] [])
            refine own_via (fun t => XS.iload X66.here hx rfl (hb hby at_188) rfl) ?_
            show own_E _ _ _ _ _ _ _ T66 (mkF m 190 #[.val (.int p1), .val (.int p2), .val (.int p3), .val (.int p4), .val (.ref ba), .val (.ref (B n)), .val (.int (0 : Int32)), .val (.int (0 : Int32)), .unset, .unset, .unset, .unset, .unset, .unset, .unset, .unset] [(.int (0 : Int32))])
            refine own_via (fun t => XS.ifNo X66.here hx rfl (hb hby at_190) rfl ((if0 _ _).trans (teq (by decide : (0 : Int32) = (0 : Int32))).2)) ?_
            show own_E _ _ _ _ _ _ _ T66 (mkF m 193 #[.val (.int p1), .val (.int p2), .val (.int p3), .val (.int p4), .val (.ref ba), .val (.ref (B n)), .val (.int (0 : Int32)), .val (.int (0 : Int32)), .unset, .unset, .unset, .unset, .unset, .unset, .unset, .unset] [])
            refine own_via (fun t => XS.iconst X66.here hx rfl (hb hby at_193)) ?_
            show own_E _ _ _ _ _ _ _ T66 (mkF m 194 #[.val (.int p1), .val (.int p2), .val (.int p3), .val (.int p4), .val (.ref ba), .val (.ref (B n)), .val (.int (0 : Int32)), .val (.int (0 : Int32)), .unset, .unset, .unset, .unset, .unset, .unset, .unset, .unset] [(.int (1 : Int32))])
            exact own_retN X66 hx hlk Bd.returns (Or.inl rfl) (hb hby at_194) (by decide) (by decide) ⟨rfl, NA58⟩
          · refine own_via (fun t => Jvm.RoadKit.acmp (g := (mkF m 169 #[.val (.int p1), .val (.int p2), .val (.int p3), .val (.int p4), .val (.ref ba), .val (.ref (B n)), .val (.int (own_ca n)), .unset, .unset, .unset, .unset, .unset, .unset, .unset, .unset, .unset] [(.ref (B 11)), (.ref (B n))])) X66 hx rfl rfl rfl (pc0 := 169) (pc' := 172) (same := false) rfl (hb hby at_169) rfl (decide_eq_false (fun q => c169_67 (HC56.inj hn (by decide) (Value.ref.inj q)))) (by decide) (by decide)) ?_
            show own_E _ _ _ _ _ _ _ T66 (mkF m 172 #[.val (.int p1), .val (.int p2), .val (.int p3), .val (.int p4), .val (.ref ba), .val (.ref (B n)), .val (.int (own_ca n)), .unset, .unset, .unset, .unset, .unset, .unset, .unset, .unset, .unset] [])
            have hg := own_road1 hn c137_59 c145_61 c153_63 c161_65 c169_67
            have ca1 : own_ca n = 1 := if_pos hg
            rw [ca1]
            show own_E _ _ _ _ _ _ _ T66 (mkF m 172 #[.val (.int p1), .val (.int p2), .val (.int p3), .val (.int p4), .val (.ref ba), .val (.ref (B n)), .val (.int (1 : Int32)), .unset, .unset, .unset, .unset, .unset, .unset, .unset, .unset, .unset] [])
            refine own_via (fun t => XS.iconst X66.here hx rfl (hb hby at_172)) ?_
            show own_E _ _ _ _ _ _ _ T66 (mkF m 173 #[.val (.int p1), .val (.int p2), .val (.int p3), .val (.int p4), .val (.ref ba), .val (.ref (B n)), .val (.int (1 : Int32)), .unset, .unset, .unset, .unset, .unset, .unset, .unset, .unset, .unset] [(.int (1 : Int32))])
            refine own_via (fun t => XS.goto X66.here hx rfl (pc0 := 173) (pc' := 177) rfl (hb hby at_173) (by decide) (by decide)) ?_
            show own_E _ _ _ _ _ _ _ T66 (mkF m 177 #[.val (.int p1), .val (.int p2), .val (.int p3), .val (.int p4), .val (.ref ba), .val (.ref (B n)), .val (.int (1 : Int32)), .unset, .unset, .unset, .unset, .unset, .unset, .unset, .unset, .unset] [(.int (1 : Int32))])
            refine own_via (fun t => XS.istore X66.here hx rfl (hb hby at_177) rfl (l' := #[.val (.int p1), .val (.int p2), .val (.int p3), .val (.int p4), .val (.ref ba), .val (.ref (B n)), .val (.int (1 : Int32)), .val (.int (1 : Int32)), .unset, .unset, .unset, .unset, .unset, .unset, .unset, .unset]) rfl) ?_
            show own_E _ _ _ _ _ _ _ T66 (mkF m 179 #[.val (.int p1), .val (.int p2), .val (.int p3), .val (.int p4), .val (.ref ba), .val (.ref (B n)), .val (.int (1 : Int32)), .val (.int (1 : Int32)), .unset, .unset, .unset, .unset, .unset, .unset, .unset, .unset] [])
            refine own_via (fun t => XS.iload X66.here hx rfl (hb hby at_179) rfl) ?_
            show own_E _ _ _ _ _ _ _ T66 (mkF m 181 #[.val (.int p1), .val (.int p2), .val (.int p3), .val (.int p4), .val (.ref ba), .val (.ref (B n)), .val (.int (1 : Int32)), .val (.int (1 : Int32)), .unset, .unset, .unset, .unset, .unset, .unset, .unset, .unset] [(.int (1 : Int32))])
            refine own_via (fun t => XS.iload X66.here hx rfl (hb hby at_181) rfl) ?_
            show own_E _ _ _ _ _ _ _ T66 (mkF m 183 #[.val (.int p1), .val (.int p2), .val (.int p3), .val (.int p4), .val (.ref ba), .val (.ref (B n)), .val (.int (1 : Int32)), .val (.int (1 : Int32)), .unset, .unset, .unset, .unset, .unset, .unset, .unset, .unset] [(.int (1 : Int32)), (.int (1 : Int32))])
            refine own_via (fun t => XS.icmpYes X66.here hx rfl (pc0 := 183) (pc' := 188) rfl (hb hby at_183) rfl (teq (by decide : (1 : Int32) = (1 : Int32))).1 (by decide) (by decide)) ?_
            show own_E _ _ _ _ _ _ _ T66 (mkF m 188 #[.val (.int p1), .val (.int p2), .val (.int p3), .val (.int p4), .val (.ref ba), .val (.ref (B n)), .val (.int (1 : Int32)), .val (.int (1 : Int32)), .unset, .unset, .unset, .unset, .unset, .unset, .unset, .unset] [])
            refine own_via (fun t => XS.iload X66.here hx rfl (hb hby at_188) rfl) ?_
            show own_E _ _ _ _ _ _ _ T66 (mkF m 190 #[.val (.int p1), .val (.int p2), .val (.int p3), .val (.int p4), .val (.ref ba), .val (.ref (B n)), .val (.int (1 : Int32)), .val (.int (1 : Int32)), .unset, .unset, .unset, .unset, .unset, .unset, .unset, .unset] [(.int (1 : Int32))])
            refine own_via (fun t => XS.ifYes X66.here hx rfl (pc0 := 190) (pc' := 195) rfl (hb hby at_190) rfl ((if0 _ _).trans (feq (by decide : ¬ ((1 : Int32) = (0 : Int32)))).2) (by decide) (by decide)) ?_
            show own_E _ _ _ _ _ _ _ T66 (mkF m 195 #[.val (.int p1), .val (.int p2), .val (.int p3), .val (.int p4), .val (.ref ba), .val (.ref (B n)), .val (.int (1 : Int32)), .val (.int (1 : Int32)), .unset, .unset, .unset, .unset, .unset, .unset, .unset, .unset] [])
            refine own_via (fun t => XS.iloadN X66.here hx rfl (hb hby at_195) rfl) ?_
            show own_E _ _ _ _ _ _ _ T66 (mkF m 196 #[.val (.int p1), .val (.int p2), .val (.int p3), .val (.int p4), .val (.ref ba), .val (.ref (B n)), .val (.int (1 : Int32)), .val (.int (1 : Int32)), .unset, .unset, .unset, .unset, .unset, .unset, .unset, .unset] [(.int p2)])
            refine own_via (fun t => XS.sipush X66.here hx rfl (hb hby at_196)) ?_
            show own_E _ _ _ _ _ _ _ T66 (mkF m 199 #[.val (.int p1), .val (.int p2), .val (.int p3), .val (.int p4), .val (.ref ba), .val (.ref (B n)), .val (.int (1 : Int32)), .val (.int (1 : Int32)), .unset, .unset, .unset, .unset, .unset, .unset, .unset, .unset] [(.int (1000 : Int32)), (.int p2)])
            refine own_via (fun t => iremM X66 hx rfl (hb hby at_199) rfl (by decide)) ?_
            show own_E _ _ _ _ _ _ _ T66 (mkF m 200 #[.val (.int p1), .val (.int p2), .val (.int p3), .val (.int p4), .val (.ref ba), .val (.ref (B n)), .val (.int (1 : Int32)), .val (.int (1 : Int32)), .unset, .unset, .unset, .unset, .unset, .unset, .unset, .unset] [(.int (p2 % (1000 : Int32)))])
            refine own_via (fun t => XS.i2dS X66.here hx rfl (hb hby at_200) rfl (i2d_w _)) ?_
            show own_E _ _ _ _ _ _ _ T66 (mkF m 201 #[.val (.int p1), .val (.int p2), .val (.int p3), .val (.int p4), .val (.ref ba), .val (.ref (B n)), .val (.int (1 : Int32)), .val (.int (1 : Int32)), .unset, .unset, .unset, .unset, .unset, .unset, .unset, .unset] [(.double (FP.l2d (p2 % (1000 : Int32)).toInt64))])
            refine own_via (fun t => XS.dstore X66.here hx rfl (hb hby at_201) rfl (l' := #[.val (.int p1), .val (.int p2), .val (.int p3), .val (.int p4), .val (.ref ba), .val (.ref (B n)), .val (.int (1 : Int32)), .val (.int (1 : Int32)), .val (.double (FP.l2d (p2 % (1000 : Int32)).toInt64)), .second, .unset, .unset, .unset, .unset, .unset, .unset]) rfl) ?_
            show own_E _ _ _ _ _ _ _ T66 (mkF m 203 #[.val (.int p1), .val (.int p2), .val (.int p3), .val (.int p4), .val (.ref ba), .val (.ref (B n)), .val (.int (1 : Int32)), .val (.int (1 : Int32)), .val (.double (FP.l2d (p2 % (1000 : Int32)).toInt64)), .second, .unset, .unset, .unset, .unset, .unset, .unset] [])
            refine own_via (fun t => XS.iloadN X66.here hx rfl (hb hby at_203) rfl) ?_
            show own_E _ _ _ _ _ _ _ T66 (mkF m 204 #[.val (.int p1), .val (.int p2), .val (.int p3), .val (.int p4), .val (.ref ba), .val (.ref (B n)), .val (.int (1 : Int32)), .val (.int (1 : Int32)), .val (.double (FP.l2d (p2 % (1000 : Int32)).toInt64)), .second, .unset, .unset, .unset, .unset, .unset, .unset] [(.int p3)])
            refine own_via (fun t => XS.sipush X66.here hx rfl (hb hby at_204)) ?_
            show own_E _ _ _ _ _ _ _ T66 (mkF m 207 #[.val (.int p1), .val (.int p2), .val (.int p3), .val (.int p4), .val (.ref ba), .val (.ref (B n)), .val (.int (1 : Int32)), .val (.int (1 : Int32)), .val (.double (FP.l2d (p2 % (1000 : Int32)).toInt64)), .second, .unset, .unset, .unset, .unset, .unset, .unset] [(.int (1000 : Int32)), (.int p3)])
            refine own_via (fun t => iremM X66 hx rfl (hb hby at_207) rfl (by decide)) ?_
            show own_E _ _ _ _ _ _ _ T66 (mkF m 208 #[.val (.int p1), .val (.int p2), .val (.int p3), .val (.int p4), .val (.ref ba), .val (.ref (B n)), .val (.int (1 : Int32)), .val (.int (1 : Int32)), .val (.double (FP.l2d (p2 % (1000 : Int32)).toInt64)), .second, .unset, .unset, .unset, .unset, .unset, .unset] [(.int (p3 % (1000 : Int32)))])
            refine own_via (fun t => XS.i2dS X66.here hx rfl (hb hby at_208) rfl (i2d_w _)) ?_
            show own_E _ _ _ _ _ _ _ T66 (mkF m 209 #[.val (.int p1), .val (.int p2), .val (.int p3), .val (.int p4), .val (.ref ba), .val (.ref (B n)), .val (.int (1 : Int32)), .val (.int (1 : Int32)), .val (.double (FP.l2d (p2 % (1000 : Int32)).toInt64)), .second, .unset, .unset, .unset, .unset, .unset, .unset] [(.double (FP.l2d (p3 % (1000 : Int32)).toInt64))])
            refine own_via (fun t => XS.dstore X66.here hx rfl (hb hby at_209) rfl (l' := #[.val (.int p1), .val (.int p2), .val (.int p3), .val (.int p4), .val (.ref ba), .val (.ref (B n)), .val (.int (1 : Int32)), .val (.int (1 : Int32)), .val (.double (FP.l2d (p2 % (1000 : Int32)).toInt64)), .second, .val (.double (FP.l2d (p3 % (1000 : Int32)).toInt64)), .second, .unset, .unset, .unset, .unset]) rfl) ?_
            show own_E _ _ _ _ _ _ _ T66 (mkF m 211 #[.val (.int p1), .val (.int p2), .val (.int p3), .val (.int p4), .val (.ref ba), .val (.ref (B n)), .val (.int (1 : Int32)), .val (.int (1 : Int32)), .val (.double (FP.l2d (p2 % (1000 : Int32)).toInt64)), .second, .val (.double (FP.l2d (p3 % (1000 : Int32)).toInt64)), .second, .unset, .unset, .unset, .unset] [])
            refine own_via (fun t => XS.iloadN X66.here hx rfl (hb hby at_211) rfl) ?_
            show own_E _ _ _ _ _ _ _ T66 (mkF m 212 #[.val (.int p1), .val (.int p2), .val (.int p3), .val (.int p4), .val (.ref ba), .val (.ref (B n)), .val (.int (1 : Int32)), .val (.int (1 : Int32)), .val (.double (FP.l2d (p2 % (1000 : Int32)).toInt64)), .second, .val (.double (FP.l2d (p3 % (1000 : Int32)).toInt64)), .second, .unset, .unset, .unset, .unset] [(.int p4)])
            refine own_via (fun t => XS.sipush X66.here hx rfl (hb hby at_212)) ?_
            show own_E _ _ _ _ _ _ _ T66 (mkF m 215 #[.val (.int p1), .val (.int p2), .val (.int p3), .val (.int p4), .val (.ref ba), .val (.ref (B n)), .val (.int (1 : Int32)), .val (.int (1 : Int32)), .val (.double (FP.l2d (p2 % (1000 : Int32)).toInt64)), .second, .val (.double (FP.l2d (p3 % (1000 : Int32)).toInt64)), .second, .unset, .unset, .unset, .unset] [(.int (1000 : Int32)), (.int p4)])
            refine own_via (fun t => iremM X66 hx rfl (hb hby at_215) rfl (by decide)) ?_
            show own_E _ _ _ _ _ _ _ T66 (mkF m 216 #[.val (.int p1), .val (.int p2), .val (.int p3), .val (.int p4), .val (.ref ba), .val (.ref (B n)), .val (.int (1 : Int32)), .val (.int (1 : Int32)), .val (.double (FP.l2d (p2 % (1000 : Int32)).toInt64)), .second, .val (.double (FP.l2d (p3 % (1000 : Int32)).toInt64)), .second, .unset, .unset, .unset, .unset] [(.int (p4 % (1000 : Int32)))])
            refine own_via (fun t => XS.i2dS X66.here hx rfl (hb hby at_216) rfl (i2d_w _)) ?_
            show own_E _ _ _ _ _ _ _ T66 (mkF m 217 #[.val (.int p1), .val (.int p2), .val (.int p3), .val (.int p4), .val (.ref ba), .val (.ref (B n)), .val (.int (1 : Int32)), .val (.int (1 : Int32)), .val (.double (FP.l2d (p2 % (1000 : Int32)).toInt64)), .second, .val (.double (FP.l2d (p3 % (1000 : Int32)).toInt64)), .second, .unset, .unset, .unset, .unset] [(.double (FP.l2d (p4 % (1000 : Int32)).toInt64))])
            refine own_via (fun t => XS.dstore X66.here hx rfl (hb hby at_217) rfl (l' := #[.val (.int p1), .val (.int p2), .val (.int p3), .val (.int p4), .val (.ref ba), .val (.ref (B n)), .val (.int (1 : Int32)), .val (.int (1 : Int32)), .val (.double (FP.l2d (p2 % (1000 : Int32)).toInt64)), .second, .val (.double (FP.l2d (p3 % (1000 : Int32)).toInt64)), .second, .val (.double (FP.l2d (p4 % (1000 : Int32)).toInt64)), .second, .unset, .unset]) rfl) ?_
            show own_E _ _ _ _ _ _ _ T66 (mkF m 219 #[.val (.int p1), .val (.int p2), .val (.int p3), .val (.int p4), .val (.ref ba), .val (.ref (B n)), .val (.int (1 : Int32)), .val (.int (1 : Int32)), .val (.double (FP.l2d (p2 % (1000 : Int32)).toInt64)), .second, .val (.double (FP.l2d (p3 % (1000 : Int32)).toInt64)), .second, .val (.double (FP.l2d (p4 % (1000 : Int32)).toInt64)), .second, .unset, .unset] [])
            refine own_via (fun t => XS.aload X66.here hx rfl (hb hby at_219) rfl rfl) ?_
            show own_E _ _ _ _ _ _ _ T66 (mkF m 221 #[.val (.int p1), .val (.int p2), .val (.int p3), .val (.int p4), .val (.ref ba), .val (.ref (B n)), .val (.int (1 : Int32)), .val (.int (1 : Int32)), .val (.double (FP.l2d (p2 % (1000 : Int32)).toInt64)), .second, .val (.double (FP.l2d (p3 % (1000 : Int32)).toInt64)), .second, .val (.double (FP.l2d (p4 % (1000 : Int32)).toInt64)), .second, .unset, .unset] [(.ref (B n))])
            refine own_via (fun t => XS.dload X66.here hx rfl (hb hby at_221) rfl) ?_
            show own_E _ _ _ _ _ _ _ T66 (mkF m 223 #[.val (.int p1), .val (.int p2), .val (.int p3), .val (.int p4), .val (.ref ba), .val (.ref (B n)), .val (.int (1 : Int32)), .val (.int (1 : Int32)), .val (.double (FP.l2d (p2 % (1000 : Int32)).toInt64)), .second, .val (.double (FP.l2d (p3 % (1000 : Int32)).toInt64)), .second, .val (.double (FP.l2d (p4 % (1000 : Int32)).toInt64)), .second, .unset, .unset] [(.double (FP.l2d (p2 % (1000 : Int32)).toInt64)), (.ref (B n))])
            refine own_via (fun t => XS.dload X66.here hx rfl (hb hby at_223) rfl) ?_
            show own_E _ _ _ _ _ _ _ T66 (mkF m 225 #[.val (.int p1), .val (.int p2), .val (.int p3), .val (.int p4), .val (.ref ba), .val (.ref (B n)), .val (.int (1 : Int32)), .val (.int (1 : Int32)), .val (.double (FP.l2d (p2 % (1000 : Int32)).toInt64)), .second, .val (.double (FP.l2d (p3 % (1000 : Int32)).toInt64)), .second, .val (.double (FP.l2d (p4 % (1000 : Int32)).toInt64)), .second, .unset, .unset] [(.double (FP.l2d (p3 % (1000 : Int32)).toInt64)), (.double (FP.l2d (p2 % (1000 : Int32)).toInt64)), (.ref (B n))])
            obtain ⟨u, k_u, e_u⟩ : ∃ z : Int64, own_K 1000 z ∧ (p2 % (1000 : Int32)).toInt64 = z := ⟨_, own_rem p2, rfl⟩
            rw [e_u]
            obtain ⟨v, k_v, e_v⟩ : ∃ z : Int64, own_K 1000 z ∧ (p3 % (1000 : Int32)).toInt64 = z := ⟨_, own_rem p3, rfl⟩
            rw [e_v]
            obtain ⟨tq, k_tq, e_tq⟩ : ∃ z : Int64, own_K 1000 z ∧ (p4 % (1000 : Int32)).toInt64 = z := ⟨_, own_rem p4, rfl⟩
            rw [e_tq]
            generalize hL : FP.l2d = L
            show own_E _ _ _ _ _ _ _ T66 (mkF m 225 #[.val (.int p1), .val (.int p2), .val (.int p3), .val (.int p4), .val (.ref ba), .val (.ref (B n)), .val (.int (1 : Int32)), .val (.int (1 : Int32)), .val (.double (L u)), .second, .val (.double (L v)), .second, .val (.double (L tq)), .second, .unset, .unset] [(.double (L v)), (.double (L u)), (.ref (B n))])
            have k_uv : own_K 2000 (own_op n u v) := own_op_K k_u k_v (by decide) (by decide)
            have k_vu : own_K 2000 (own_op n v u) := own_op_K k_v k_u (by decide) (by decide)
            have k_vt : own_K 2000 (own_op n v tq) := own_op_K k_v k_tq (by decide) (by decide)
            have k_l : own_K 4000 (own_op n (own_op n u v) tq) := own_op_K (K := 2000) k_uv (k_tq.mono (by decide)) (by decide) (by decide)
            have k_r : own_K 4000 (own_op n u (own_op n v tq)) := own_op_K (K := 2000) (k_u.mono (by decide)) k_vt (by decide) (by decide)
            obtain ⟨T68, Lc68, X68, e68, N68, st68⟩ := own_ap l Z a0 hw B n hn hg u v (k_u.mono (by decide)) (k_v.mono (by decide)) L hL h56 n0 Z56 HC56 X66 hx hZ hown hml e66 NA58 (pc := 225) (Ls := #[.val (.int p1), .val (.int p2), .val (.int p3), .val (.int p4), .val (.ref ba), .val (.ref (B n)), .val (.int (1 : Int32)), .val (.int (1 : Int32)), .val (.double (L u)), .second, .val (.double (L v)), .second, .val (.double (L tq)), .second, .unset, .unset]) rfl (rest := []) (Nat.le_of_ble_eq_true rfl) (hb hby at_225)
            refine own_thru st68 ?_
            show own_E _ _ _ _ _ _ _ T68 (mkF m 228 #[.val (.int p1), .val (.int p2), .val (.int p3), .val (.int p4), .val (.ref ba), .val (.ref (B n)), .val (.int (1 : Int32)), .val (.int (1 : Int32)), .val (.double (L u)), .second, .val (.double (L v)), .second, .val (.double (L tq)), .second, .unset, .unset] [(.double (L (own_op n u v)))])
            refine own_via (fun t => XS.aload X68.here hx rfl (hb hby at_228) rfl rfl) ?_
            show own_E _ _ _ _ _ _ _ T68 (mkF m 230 #[.val (.int p1), .val (.int p2), .val (.int p3), .val (.int p4), .val (.ref ba), .val (.ref (B n)), .val (.int (1 : Int32)), .val (.int (1 : Int32)), .val (.double (L u)), .second, .val (.double (L v)), .second, .val (.double (L tq)), .second, .unset, .unset] [(.ref (B n)), (.double (L (own_op n u v)))])
            refine own_via (fun t => XS.dload X68.here hx rfl (hb hby at_230) rfl) ?_
            show own_E _ _ _ _ _ _ _ T68 (mkF m 232 #[.val (.int p1), .val (.int p2), .val (.int p3), .val (.int p4), .val (.ref ba), .val (.ref (B n)), .val (.int (1 : Int32)), .val (.int (1 : Int32)), .val (.double (L u)), .second, .val (.double (L v)), .second, .val (.double (L tq)), .second, .unset, .unset] [(.double (L v)), (.ref (B n)), (.double (L (own_op n u v)))])
            refine own_via (fun t => XS.dload X68.here hx rfl (hb hby at_232) rfl) ?_
            show own_E _ _ _ _ _ _ _ T68 (mkF m 234 #[.val (.int p1), .val (.int p2), .val (.int p3), .val (.int p4), .val (.ref ba), .val (.ref (B n)), .val (.int (1 : Int32)), .val (.int (1 : Int32)), .val (.double (L u)), .second, .val (.double (L v)), .second, .val (.double (L tq)), .second, .unset, .unset] [(.double (L u)), (.double (L v)), (.ref (B n)), (.double (L (own_op n u v)))])
            obtain ⟨T69, Lc69, X69, e69, N69, st69⟩ := own_ap l Z a0 hw B n hn hg v u (k_v.mono (by decide)) (k_u.mono (by decide)) L hL h56 n0 Z56 HC56 X68 hx hZ hown hml e68 N68 (pc := 234) (Ls := #[.val (.int p1), .val (.int p2), .val (.int p3), .val (.int p4), .val (.ref ba), .val (.ref (B n)), .val (.int (1 : Int32)), .val (.int (1 : Int32)), .val (.double (L u)), .second, .val (.double (L v)), .second, .val (.double (L tq)), .second, .unset, .unset]) rfl (rest := [(.double (L (own_op n u v)))]) (Nat.le_of_ble_eq_true rfl) (hb hby at_234)
            refine own_thru st69 ?_
            show own_E _ _ _ _ _ _ _ T69 (mkF m 237 #[.val (.int p1), .val (.int p2), .val (.int p3), .val (.int p4), .val (.ref ba), .val (.ref (B n)), .val (.int (1 : Int32)), .val (.int (1 : Int32)), .val (.double (L u)), .second, .val (.double (L v)), .second, .val (.double (L tq)), .second, .unset, .unset] [(.double (L (own_op n v u))), (.double (L (own_op n u v)))])
            refine own_via (fun t => XS.dcmpS X69.here hx rfl (hb hby at_237) rfl rfl) ?_
            show own_E _ _ _ _ _ _ _ T69 (mkF m 238 #[.val (.int p1), .val (.int p2), .val (.int p3), .val (.int p4), .val (.ref ba), .val (.ref (B n)), .val (.int (1 : Int32)), .val (.int (1 : Int32)), .val (.double (L u)), .second, .val (.double (L v)), .second, .val (.double (L tq)), .second, .unset, .unset] [(.int (cmpValue (FP.dcmp (L (own_op n u v)) (L (own_op n v u))) .l))])
            rw [own_cmpL hL (k_uv.b53 (by decide)) (k_vu.b53 (by decide)) (own_op_comm n u v)]
            show own_E _ _ _ _ _ _ _ T69 (mkF m 238 #[.val (.int p1), .val (.int p2), .val (.int p3), .val (.int p4), .val (.ref ba), .val (.ref (B n)), .val (.int (1 : Int32)), .val (.int (1 : Int32)), .val (.double (L u)), .second, .val (.double (L v)), .second, .val (.double (L tq)), .second, .unset, .unset] [(.int (0 : Int32))])
            refine own_via (fun t => XS.ifNo X69.here hx rfl (hb hby at_238) rfl ((if0 _ _).trans (teq (by decide : (0 : Int32) = (0 : Int32))).2)) ?_
            show own_E _ _ _ _ _ _ _ T69 (mkF m 241 #[.val (.int p1), .val (.int p2), .val (.int p3), .val (.int p4), .val (.ref ba), .val (.ref (B n)), .val (.int (1 : Int32)), .val (.int (1 : Int32)), .val (.double (L u)), .second, .val (.double (L v)), .second, .val (.double (L tq)), .second, .unset, .unset] [])
            refine own_via (fun t => XS.iconst X69.here hx rfl (hb hby at_241)) ?_
            show own_E _ _ _ _ _ _ _ T69 (mkF m 242 #[.val (.int p1), .val (.int p2), .val (.int p3), .val (.int p4), .val (.ref ba), .val (.ref (B n)), .val (.int (1 : Int32)), .val (.int (1 : Int32)), .val (.double (L u)), .second, .val (.double (L v)), .second, .val (.double (L tq)), .second, .unset, .unset] [(.int (1 : Int32))])
            refine own_via (fun t => XS.goto X69.here hx rfl (pc0 := 242) (pc' := 246) rfl (hb hby at_242) (by decide) (by decide)) ?_
            show own_E _ _ _ _ _ _ _ T69 (mkF m 246 #[.val (.int p1), .val (.int p2), .val (.int p3), .val (.int p4), .val (.ref ba), .val (.ref (B n)), .val (.int (1 : Int32)), .val (.int (1 : Int32)), .val (.double (L u)), .second, .val (.double (L v)), .second, .val (.double (L tq)), .second, .unset, .unset] [(.int (1 : Int32))])
            refine own_via (fun t => XS.istore X69.here hx rfl (hb hby at_246) rfl (l' := #[.val (.int p1), .val (.int p2), .val (.int p3), .val (.int p4), .val (.ref ba), .val (.ref (B n)), .val (.int (1 : Int32)), .val (.int (1 : Int32)), .val (.double (L u)), .second, .val (.double (L v)), .second, .val (.double (L tq)), .second, .val (.int (1 : Int32)), .unset]) rfl) ?_
            show own_E _ _ _ _ _ _ _ T69 (mkF m 248 #[.val (.int p1), .val (.int p2), .val (.int p3), .val (.int p4), .val (.ref ba), .val (.ref (B n)), .val (.int (1 : Int32)), .val (.int (1 : Int32)), .val (.double (L u)), .second, .val (.double (L v)), .second, .val (.double (L tq)), .second, .val (.int (1 : Int32)), .unset] [])
            refine own_via (fun t => XS.aload X69.here hx rfl (hb hby at_248) rfl rfl) ?_
            show own_E _ _ _ _ _ _ _ T69 (mkF m 250 #[.val (.int p1), .val (.int p2), .val (.int p3), .val (.int p4), .val (.ref ba), .val (.ref (B n)), .val (.int (1 : Int32)), .val (.int (1 : Int32)), .val (.double (L u)), .second, .val (.double (L v)), .second, .val (.double (L tq)), .second, .val (.int (1 : Int32)), .unset] [(.ref (B n))])
            refine own_via (fun t => XS.aload X69.here hx rfl (hb hby at_250) rfl rfl) ?_
            show own_E _ _ _ _ _ _ _ T69 (mkF m 252 #[.val (.int p1), .val (.int p2), .val (.int p3), .val (.int p4), .val (.ref ba), .val (.ref (B n)), .val (.int (1 : Int32)), .val (.int (1 : Int32)), .val (.double (L u)), .second, .val (.double (L v)), .second, .val (.double (L tq)), .second, .val (.int (1 : Int32)), .unset] [(.ref (B n)), (.ref (B n))])
            refine own_via (fun t => XS.dload X69.here hx rfl (hb hby at_252) rfl) ?_
            show own_E _ _ _ _ _ _ _ T69 (mkF m 254 #[.val (.int p1), .val (.int p2), .val (.int p3), .val (.int p4), .val (.ref ba), .val (.ref (B n)), .val (.int (1 : Int32)), .val (.int (1 : Int32)), .val (.double (L u)), .second, .val (.double (L v)), .second, .val (.double (L tq)), .second, .val (.int (1 : Int32)), .unset] [(.double (L u)), (.ref (B n)), (.ref (B n))])
            refine own_via (fun t => XS.dload X69.here hx rfl (hb hby at_254) rfl) ?_
            show own_E _ _ _ _ _ _ _ T69 (mkF m 256 #[.val (.int p1), .val (.int p2), .val (.int p3), .val (.int p4), .val (.ref ba), .val (.ref (B n)), .val (.int (1 : Int32)), .val (.int (1 : Int32)), .val (.double (L u)), .second, .val (.double (L v)), .second, .val (.double (L tq)), .second, .val (.int (1 : Int32)), .unset] [(.double (L v)), (.double (L u)), (.ref (B n)), (.ref (B n))])
            obtain ⟨T70, Lc70, X70, e70, N70, st70⟩ := own_ap l Z a0 hw B n hn hg u v (k_u.mono (by decide)) (k_v.mono (by decide)) L hL h56 n0 Z56 HC56 X69 hx hZ hown hml e69 N69 (pc := 256) (Ls := #[.val (.int p1), .val (.int p2), .val (.int p3), .val (.int p4), .val (.ref ba), .val (.ref (B n)), .val (.int (1 : Int32)), .val (.int (1 : Int32)), .val (.double (L u)), .second, .val (.double (L v)), .second, .val (.double (L tq)), .second, .val (.int (1 : Int32)), .unset]) rfl (rest := [(.ref (B n))]) (Nat.le_of_ble_eq_true rfl) (hb hby at_256)
            refine own_thru st70 ?_
            show own_E _ _ _ _ _ _ _ T70 (mkF m 259 #[.val (.int p1), .val (.int p2), .val (.int p3), .val (.int p4), .val (.ref ba), .val (.ref (B n)), .val (.int (1 : Int32)), .val (.int (1 : Int32)), .val (.double (L u)), .second, .val (.double (L v)), .second, .val (.double (L tq)), .second, .val (.int (1 : Int32)), .unset] [(.double (L (own_op n u v))), (.ref (B n))])
            refine own_via (fun t => XS.dload X70.here hx rfl (hb hby at_259) rfl) ?_
            show own_E _ _ _ _ _ _ _ T70 (mkF m 261 #[.val (.int p1), .val (.int p2), .val (.int p3), .val (.int p4), .val (.ref ba), .val (.ref (B n)), .val (.int (1 : Int32)), .val (.int (1 : Int32)), .val (.double (L u)), .second, .val (.double (L v)), .second, .val (.double (L tq)), .second, .val (.int (1 : Int32)), .unset] [(.double (L tq)), (.double (L (own_op n u v))), (.ref (B n))])
            obtain ⟨T71, Lc71, X71, e71, N71, st71⟩ := own_ap l Z a0 hw B n hn hg (own_op n u v) tq (k_uv.mono (by decide)) (k_tq.mono (by decide)) L hL h56 n0 Z56 HC56 X70 hx hZ hown hml e70 N70 (pc := 261) (Ls := #[.val (.int p1), .val (.int p2), .val (.int p3), .val (.int p4), .val (.ref ba), .val (.ref (B n)), .val (.int (1 : Int32)), .val (.int (1 : Int32)), .val (.double (L u)), .second, .val (.double (L v)), .second, .val (.double (L tq)), .second, .val (.int (1 : Int32)), .unset]) rfl (rest := []) (Nat.le_of_ble_eq_true rfl) (hb hby at_261)
            refine own_thru st71 ?_
            show own_E _ _ _ _ _ _ _ T71 (mkF m 264 #[.val (.int p1), .val (.int p2), .val (.int p3), .val (.int p4), .val (.ref ba), .val (.ref (B n)), .val (.int (1 : Int32)), .val (.int (1 : Int32)), .val (.double (L u)), .second, .val (.double (L v)), .second, .val (.double (L tq)), .second, .val (.int (1 : Int32)), .unset] [(.double (L (own_op n (own_op n u v) tq)))])
            refine own_via (fun t => XS.aload X71.here hx rfl (hb hby at_264) rfl rfl) ?_
            show own_E _ _ _ _ _ _ _ T71 (mkF m 266 #[.val (.int p1), .val (.int p2), .val (.int p3), .val (.int p4), .val (.ref ba), .val (.ref (B n)), .val (.int (1 : Int32)), .val (.int (1 : Int32)), .val (.double (L u)), .second, .val (.double (L v)), .second, .val (.double (L tq)), .second, .val (.int (1 : Int32)), .unset] [(.ref (B n)), (.double (L (own_op n (own_op n u v) tq)))])
            refine own_via (fun t => XS.dload X71.here hx rfl (hb hby at_266) rfl) ?_
            show own_E _ _ _ _ _ _ _ T71 (mkF m 268 #[.val (.int p1), .val (.int p2), .val (.int p3), .val (.int p4), .val (.ref ba), .val (.ref (B n)), .val (.int (1 : Int32)), .val (.int (1 : Int32)), .val (.double (L u)), .second, .val (.double (L v)), .second, .val (.double (L tq)), .second, .val (.int (1 : Int32)), .unset] [(.double (L u)), (.ref (B n)), (.double (L (own_op n (own_op n u v) tq)))])
            refine own_via (fun t => XS.aload X71.here hx rfl (hb hby at_268) rfl rfl) ?_
            show own_E _ _ _ _ _ _ _ T71 (mkF m 270 #[.val (.int p1), .val (.int p2), .val (.int p3), .val (.int p4), .val (.ref ba), .val (.ref (B n)), .val (.int (1 : Int32)), .val (.int (1 : Int32)), .val (.double (L u)), .second, .val (.double (L v)), .second, .val (.double (L tq)), .second, .val (.int (1 : Int32)), .unset] [(.ref (B n)), (.double (L u)), (.ref (B n)), (.double (L (own_op n (own_op n u v) tq)))])
            refine own_via (fun t => XS.dload X71.here hx rfl (hb hby at_270) rfl) ?_
            show own_E _ _ _ _ _ _ _ T71 (mkF m 272 #[.val (.int p1), .val (.int p2), .val (.int p3), .val (.int p4), .val (.ref ba), .val (.ref (B n)), .val (.int (1 : Int32)), .val (.int (1 : Int32)), .val (.double (L u)), .second, .val (.double (L v)), .second, .val (.double (L tq)), .second, .val (.int (1 : Int32)), .unset] [(.double (L v)), (.ref (B n)), (.double (L u)), (.ref (B n)), (.double (L (own_op n (own_op n u v) tq)))])
            refine own_via (fun t => XS.dload X71.here hx rfl (hb hby at_272) rfl) ?_
            show own_E _ _ _ _ _ _ _ T71 (mkF m 274 #[.val (.int p1), .val (.int p2), .val (.int p3), .val (.int p4), .val (.ref ba), .val (.ref (B n)), .val (.int (1 : Int32)), .val (.int (1 : Int32)), .val (.double (L u)), .second, .val (.double (L v)), .second, .val (.double (L tq)), .second, .val (.int (1 : Int32)), .unset] [(.double (L tq)), (.double (L v)), (.ref (B n)), (.double (L u)), (.ref (B n)), (.double (L (own_op n (own_op n u v) tq)))])
            obtain ⟨T72, Lc72, X72, e72, N72, st72⟩ := own_ap l Z a0 hw B n hn hg v tq (k_v.mono (by decide)) (k_tq.mono (by decide)) L hL h56 n0 Z56 HC56 X71 hx hZ hown hml e71 N71 (pc := 274) (Ls := #[.val (.int p1), .val (.int p2), .val (.int p3), .val (.int p4), .val (.ref ba), .val (.ref (B n)), .val (.int (1 : Int32)), .val (.int (1 : Int32)), .val (.double (L u)), .second, .val (.double (L v)), .second, .val (.double (L tq)), .second, .val (.int (1 : Int32)), .unset]) rfl (rest := [(.double (L u)), (.ref (B n)), (.double (L (own_op n (own_op n u v) tq)))]) (Nat.le_of_ble_eq_true rfl) (hb hby at_274)
            refine own_thru st72 ?_
            show own_E _ _ _ _ _ _ _ T72 (mkF m 277 #[.val (.int p1), .val (.int p2), .val (.int p3), .val (.int p4), .val (.ref ba), .val (.ref (B n)), .val (.int (1 : Int32)), .val (.int (1 : Int32)), .val (.double (L u)), .second, .val (.double (L v)), .second, .val (.double (L tq)), .second, .val (.int (1 : Int32)), .unset] [(.double (L (own_op n v tq))), (.double (L u)), (.ref (B n)), (.double (L (own_op n (own_op n u v) tq)))])
            obtain ⟨T73, Lc73, X73, e73, N73, st73⟩ := own_ap l Z a0 hw B n hn hg u (own_op n v tq) (k_u.mono (by decide)) (k_vt.mono (by decide)) L hL h56 n0 Z56 HC56 X72 hx hZ hown hml e72 N72 (pc := 277) (Ls := #[.val (.int p1), .val (.int p2), .val (.int p3), .val (.int p4), .val (.ref ba), .val (.ref (B n)), .val (.int (1 : Int32)), .val (.int (1 : Int32)), .val (.double (L u)), .second, .val (.double (L v)), .second, .val (.double (L tq)), .second, .val (.int (1 : Int32)), .unset]) rfl (rest := [(.double (L (own_op n (own_op n u v) tq)))]) (Nat.le_of_ble_eq_true rfl) (hb hby at_277)
            refine own_thru st73 ?_
            show own_E _ _ _ _ _ _ _ T73 (mkF m 280 #[.val (.int p1), .val (.int p2), .val (.int p3), .val (.int p4), .val (.ref ba), .val (.ref (B n)), .val (.int (1 : Int32)), .val (.int (1 : Int32)), .val (.double (L u)), .second, .val (.double (L v)), .second, .val (.double (L tq)), .second, .val (.int (1 : Int32)), .unset] [(.double (L (own_op n u (own_op n v tq)))), (.double (L (own_op n (own_op n u v) tq)))])
            refine own_via (fun t => XS.dcmpS X73.here hx rfl (hb hby at_280) rfl rfl) ?_
            show own_E _ _ _ _ _ _ _ T73 (mkF m 281 #[.val (.int p1), .val (.int p2), .val (.int p3), .val (.int p4), .val (.ref ba), .val (.ref (B n)), .val (.int (1 : Int32)), .val (.int (1 : Int32)), .val (.double (L u)), .second, .val (.double (L v)), .second, .val (.double (L tq)), .second, .val (.int (1 : Int32)), .unset] [(.int (cmpValue (FP.dcmp (L (own_op n (own_op n u v) tq)) (L (own_op n u (own_op n v tq)))) .l))])
            rw [own_cmpL hL (k_l.b53 (by decide)) (k_r.b53 (by decide)) (own_op_assoc n u v tq)]
            show own_E _ _ _ _ _ _ _ T73 (mkF m 281 #[.val (.int p1), .val (.int p2), .val (.int p3), .val (.int p4), .val (.ref ba), .val (.ref (B n)), .val (.int (1 : Int32)), .val (.int (1 : Int32)), .val (.double (L u)), .second, .val (.double (L v)), .second, .val (.double (L tq)), .second, .val (.int (1 : Int32)), .unset] [(.int (0 : Int32))])
            refine own_via (fun t => XS.ifNo X73.here hx rfl (hb hby at_281) rfl ((if0 _ _).trans (teq (by decide : (0 : Int32) = (0 : Int32))).2)) ?_
            show own_E _ _ _ _ _ _ _ T73 (mkF m 284 #[.val (.int p1), .val (.int p2), .val (.int p3), .val (.int p4), .val (.ref ba), .val (.ref (B n)), .val (.int (1 : Int32)), .val (.int (1 : Int32)), .val (.double (L u)), .second, .val (.double (L v)), .second, .val (.double (L tq)), .second, .val (.int (1 : Int32)), .unset] [])
            refine own_via (fun t => XS.iconst X73.here hx rfl (hb hby at_284)) ?_
            show own_E _ _ _ _ _ _ _ T73 (mkF m 285 #[.val (.int p1), .val (.int p2), .val (.int p3), .val (.int p4), .val (.ref ba), .val (.ref (B n)), .val (.int (1 : Int32)), .val (.int (1 : Int32)), .val (.double (L u)), .second, .val (.double (L v)), .second, .val (.double (L tq)), .second, .val (.int (1 : Int32)), .unset] [(.int (1 : Int32))])
            refine own_via (fun t => XS.goto X73.here hx rfl (pc0 := 285) (pc' := 289) rfl (hb hby at_285) (by decide) (by decide)) ?_
            show own_E _ _ _ _ _ _ _ T73 (mkF m 289 #[.val (.int p1), .val (.int p2), .val (.int p3), .val (.int p4), .val (.ref ba), .val (.ref (B n)), .val (.int (1 : Int32)), .val (.int (1 : Int32)), .val (.double (L u)), .second, .val (.double (L v)), .second, .val (.double (L tq)), .second, .val (.int (1 : Int32)), .unset] [(.int (1 : Int32))])
            refine own_via (fun t => XS.istore X73.here hx rfl (hb hby at_289) rfl (l' := #[.val (.int p1), .val (.int p2), .val (.int p3), .val (.int p4), .val (.ref ba), .val (.ref (B n)), .val (.int (1 : Int32)), .val (.int (1 : Int32)), .val (.double (L u)), .second, .val (.double (L v)), .second, .val (.double (L tq)), .second, .val (.int (1 : Int32)), .val (.int (1 : Int32))]) rfl) ?_
            show own_E _ _ _ _ _ _ _ T73 (mkF m 291 #[.val (.int p1), .val (.int p2), .val (.int p3), .val (.int p4), .val (.ref ba), .val (.ref (B n)), .val (.int (1 : Int32)), .val (.int (1 : Int32)), .val (.double (L u)), .second, .val (.double (L v)), .second, .val (.double (L tq)), .second, .val (.int (1 : Int32)), .val (.int (1 : Int32))] [])
            refine own_via (fun t => XS.iload X73.here hx rfl (hb hby at_291) rfl) ?_
            show own_E _ _ _ _ _ _ _ T73 (mkF m 293 #[.val (.int p1), .val (.int p2), .val (.int p3), .val (.int p4), .val (.ref ba), .val (.ref (B n)), .val (.int (1 : Int32)), .val (.int (1 : Int32)), .val (.double (L u)), .second, .val (.double (L v)), .second, .val (.double (L tq)), .second, .val (.int (1 : Int32)), .val (.int (1 : Int32))] [(.int (1 : Int32))])
            refine own_via (fun t => XS.ifNo X73.here hx rfl (hb hby at_293) rfl ((if0 _ _).trans (feq (by decide : ¬ ((1 : Int32) = (0 : Int32)))).1)) ?_
            show own_E _ _ _ _ _ _ _ T73 (mkF m 296 #[.val (.int p1), .val (.int p2), .val (.int p3), .val (.int p4), .val (.ref ba), .val (.ref (B n)), .val (.int (1 : Int32)), .val (.int (1 : Int32)), .val (.double (L u)), .second, .val (.double (L v)), .second, .val (.double (L tq)), .second, .val (.int (1 : Int32)), .val (.int (1 : Int32))] [])
            refine own_via (fun t => XS.iload X73.here hx rfl (hb hby at_296) rfl) ?_
            show own_E _ _ _ _ _ _ _ T73 (mkF m 298 #[.val (.int p1), .val (.int p2), .val (.int p3), .val (.int p4), .val (.ref ba), .val (.ref (B n)), .val (.int (1 : Int32)), .val (.int (1 : Int32)), .val (.double (L u)), .second, .val (.double (L v)), .second, .val (.double (L tq)), .second, .val (.int (1 : Int32)), .val (.int (1 : Int32))] [(.int (1 : Int32))])
            refine own_via (fun t => XS.ifNo X73.here hx rfl (hb hby at_298) rfl ((if0 _ _).trans (feq (by decide : ¬ ((1 : Int32) = (0 : Int32)))).1)) ?_
            show own_E _ _ _ _ _ _ _ T73 (mkF m 301 #[.val (.int p1), .val (.int p2), .val (.int p3), .val (.int p4), .val (.ref ba), .val (.ref (B n)), .val (.int (1 : Int32)), .val (.int (1 : Int32)), .val (.double (L u)), .second, .val (.double (L v)), .second, .val (.double (L tq)), .second, .val (.int (1 : Int32)), .val (.int (1 : Int32))] [])
            refine own_via (fun t => XS.iconst X73.here hx rfl (hb hby at_301)) ?_
            show own_E _ _ _ _ _ _ _ T73 (mkF m 302 #[.val (.int p1), .val (.int p2), .val (.int p3), .val (.int p4), .val (.ref ba), .val (.ref (B n)), .val (.int (1 : Int32)), .val (.int (1 : Int32)), .val (.double (L u)), .second, .val (.double (L v)), .second, .val (.double (L tq)), .second, .val (.int (1 : Int32)), .val (.int (1 : Int32))] [(.int (1 : Int32))])
            refine own_via (fun t => XS.goto X73.here hx rfl (pc0 := 302) (pc' := 306) rfl (hb hby at_302) (by decide) (by decide)) ?_
            show own_E _ _ _ _ _ _ _ T73 (mkF m 306 #[.val (.int p1), .val (.int p2), .val (.int p3), .val (.int p4), .val (.ref ba), .val (.ref (B n)), .val (.int (1 : Int32)), .val (.int (1 : Int32)), .val (.double (L u)), .second, .val (.double (L v)), .second, .val (.double (L tq)), .second, .val (.int (1 : Int32)), .val (.int (1 : Int32))] [(.int (1 : Int32))])
            exact own_retN X73 hx hlk Bd.returns (Or.inl rfl) (hb hby at_306) (by decide) (by decide) ⟨rfl, N73⟩
set_option maxRecDepth 65536 in
set_option maxHeartbeats 40000000 in
theorem comes_1 {Post : Tables → Env → Array Value → State → Outcome → State → Prop} (hpost : ∀ tb e args s v u, (limb_1_1.after args s (.returned v) u = true ∧ limb_1_2.after args s (.returned v) u = true ∧ True) → FrameEnd s (.returned v) u (Jvm.fieldLocs frame_1_writes args s ++ Jvm.arrayLocs frame_1_arrays args s ++ Jvm.staticLocs frame_1_statics s) 16 128 → Post tb e args s (.returned v) u) :
    ArmFor flags0 classFile x code maxLocals ret World_1 tables_1 room_1 Calls_1 rest_1 Pre_1 Post := by
  intro l hfl _ _ p e ha hc hk s m args below hf hA hF happ hP
  obtain ⟨hcalls, hrest, hpre⟩ := hP
  obtain ⟨-, -, -, hnamed, -, -, -, hat⟩ := (Spec.applies_iff hf).mp happ
  obtain ⟨hg, hn⟩ := and_e (Cond.before_iff.mp (show (Jvm.Cond.and given_1 narrow_1).before args s = true from hpre))
  obtain ⟨hcount, hg0⟩ := and_e hg
  obtain ⟨hi0, hg1⟩ := and_e hg0
  obtain ⟨hi1, hg2⟩ := and_e hg1
  obtain ⟨hi2, hg3⟩ := and_e hg2
  have hi3 := hg3
  obtain ⟨w0, w1, w2, w3, rfl⟩ : ∃ w0 w1 w2 w3 : Value, args = #[w0, w1, w2, w3] := by
    have hs : args.size = 4 := by simpa [Cond.value, given_1] using hcount
    obtain ⟨L⟩ := args
    match L, hs with
    | [w0, w1, w2, w3], _ => exact ⟨w0, w1, w2, w3, rfl⟩
  have hw := fun d (hd : d ∈ tables_1) => atoms_spec (ws := Jvm.Cond.code x code maxLocals ret :: tables_1) hat d (List.mem_cons_of_mem _ hd)
  have hfit : Fit s := fun {y c} hc i hi => by
    obtain ⟨ha, rfl⟩ := Array.getElem?_eq_some_iff.mp hc
    have q := List.all_eq_true.mp ((Array.all_eq_true_iff_forall_mem.mp hF) _ (Array.getElem_mem ha)) i (List.mem_range.mpr hi)
    simpa [Array.getElem?_eq_getElem hi] using q
  obtain ⟨i0, ei0⟩ := is_v hi0
  obtain rfl : w0 = (.int i0) := Option.some.inj ei0
  obtain ⟨i1, ei1⟩ := is_v hi1
  obtain rfl : w1 = (.int i1) := Option.some.inj ei1
  obtain ⟨i2, ei2⟩ := is_v hi2
  obtain rfl : w2 = (.int i2) := Option.some.inj ei2
  obtain ⟨i3, ei3⟩ := is_v hi3
  obtain rfl : w3 = (.int i3) := Option.some.inj ei3
  obtain ⟨ux_PLUS, v0⟩ := and_e hn
  obtain ⟨ux_MINUS, v1⟩ := and_e v0
  obtain ⟨ux_TIMES, v2⟩ := and_e v1
  obtain ⟨ux_DIVIDE, v3⟩ := and_e v2
  obtain ⟨ux_MIN, v4⟩ := and_e v3
  obtain ⟨ux_MAX, v5⟩ := and_e v4
  obtain ⟨ux_POW, v6⟩ := and_e v5
  obtain ⟨ux_AND, v7⟩ := and_e v6
  obtain ⟨ux_OR, v8⟩ := and_e v7
  obtain ⟨ux_IMPLIES, v9⟩ := and_e v8
  obtain ⟨ux_EQUALS, v10⟩ := and_e v9
  obtain ⟨ux_NOT_EQUALS, v11⟩ := and_e v10
  obtain ⟨ux_LESS, v12⟩ := and_e v11
  obtain ⟨ux_LESS_OR_EQUAL, v13⟩ := and_e v12
  obtain ⟨ux_GREATER, v14⟩ := and_e v13
  obtain ⟨ux_GREATER_OR_EQUAL, v15⟩ := and_e v14
  obtain ⟨uc_PLUS, v16⟩ := and_e v15
  obtain ⟨uo_PLUS, v17⟩ := and_e v16
  obtain ⟨uo_TIMES, v18⟩ := and_e v17
  obtain ⟨uo_AND, v19⟩ := and_e v18
  obtain ⟨uo_EQUALS, v20⟩ := and_e v19
  obtain ⟨uo_NOT_EQUALS, v21⟩ := and_e v20
  obtain ⟨uo_LESS, v22⟩ := and_e v21
  obtain ⟨uo_MIN, v23⟩ := and_e v22
  obtain ⟨uo_MAX, v24⟩ := and_e v23
  obtain ⟨uo_OR, v25⟩ := and_e v24
  obtain ⟨uc_LESS, v26⟩ := and_e v25
  obtain ⟨uo_GREATER_OR_EQUAL, v27⟩ := and_e v26
  obtain ⟨uc_GREATER_OR_EQUAL, v28⟩ := and_e v27
  obtain ⟨uc_EQUALS, v29⟩ := and_e v28
  obtain ⟨uo_MINUS, v30⟩ := and_e v29
  obtain ⟨uc_MINUS, v31⟩ := and_e v30
  obtain ⟨uo_DIVIDE, v32⟩ := and_e v31
  obtain ⟨uc_DIVIDE, v33⟩ := and_e v32
  obtain ⟨uc_AND, v34⟩ := and_e v33
  obtain ⟨uc_OR, v35⟩ := and_e v34
  obtain ⟨uc_MIN, v36⟩ := and_e v35
  obtain ⟨uo_LESS_OR_EQUAL, v37⟩ := and_e v36
  obtain ⟨uc_LESS_OR_EQUAL, v38⟩ := and_e v37
  obtain ⟨uc_TIMES, v39⟩ := and_e v38
  obtain ⟨uc_MAX, v40⟩ := and_e v39
  obtain ⟨uo_GREATER, v41⟩ := and_e v40
  obtain ⟨uc_GREATER, v42⟩ := and_e v41
  obtain ⟨uo_IMPLIES, v43⟩ := and_e v42
  obtain ⟨uc_IMPLIES, v44⟩ := and_e v43
  obtain ⟨uo_POW, v45⟩ := and_e v44
  obtain ⟨uc_POW, v46⟩ := and_e v45
  have uc_NOT_EQUALS := v46
  obtain ⟨b0, ev0⟩ := exa_v ux_PLUS
  have S_0 := Sta.start ev0 (Or.inr ⟨hw _ (List.mem_of_getElem? (i := 3) rfl), hw _ (List.mem_of_getElem? (i := 4) rfl)⟩)
  have E_0 := Exa.start ev0 ux_PLUS
  have O_0 := own_fldI ev0 uo_PLUS
  have C_0 := own_fldI ev0 uc_PLUS
  obtain ⟨b1, ev1⟩ := exa_v ux_MINUS
  have S_1 := Sta.start ev1 (Or.inr ⟨hw _ (List.mem_of_getElem? (i := 3) rfl), hw _ (List.mem_of_getElem? (i := 7) rfl)⟩)
  have E_1 := Exa.start ev1 ux_MINUS
  have O_1 := own_fldI ev1 uo_MINUS
  have C_1 := own_fldI ev1 uc_MINUS
  obtain ⟨b2, ev2⟩ := exa_v ux_TIMES
  have S_2 := Sta.start ev2 (Or.inr ⟨hw _ (List.mem_of_getElem? (i := 3) rfl), hw _ (List.mem_of_getElem? (i := 9) rfl)⟩)
  have E_2 := Exa.start ev2 ux_TIMES
  have O_2 := own_fldI ev2 uo_TIMES
  have C_2 := own_fldI ev2 uc_TIMES
  obtain ⟨b3, ev3⟩ := exa_v ux_DIVIDE
  have S_3 := Sta.start ev3 (Or.inr ⟨hw _ (List.mem_of_getElem? (i := 3) rfl), hw _ (List.mem_of_getElem? (i := 11) rfl)⟩)
  have E_3 := Exa.start ev3 ux_DIVIDE
  have O_3 := own_fldI ev3 uo_DIVIDE
  have C_3 := own_fldI ev3 uc_DIVIDE
  obtain ⟨b4, ev4⟩ := exa_v ux_MIN
  have S_4 := Sta.start ev4 (Or.inr ⟨hw _ (List.mem_of_getElem? (i := 3) rfl), hw _ (List.mem_of_getElem? (i := 13) rfl)⟩)
  have E_4 := Exa.start ev4 ux_MIN
  have O_4 := own_fldI ev4 uo_MIN
  have C_4 := own_fldI ev4 uc_MIN
  obtain ⟨b5, ev5⟩ := exa_v ux_MAX
  have S_5 := Sta.start ev5 (Or.inr ⟨hw _ (List.mem_of_getElem? (i := 3) rfl), hw _ (List.mem_of_getElem? (i := 15) rfl)⟩)
  have E_5 := Exa.start ev5 ux_MAX
  have O_5 := own_fldI ev5 uo_MAX
  have C_5 := own_fldI ev5 uc_MAX
  obtain ⟨b6, ev6⟩ := exa_v ux_POW
  have S_6 := Sta.start ev6 (Or.inr ⟨hw _ (List.mem_of_getElem? (i := 3) rfl), hw _ (List.mem_of_getElem? (i := 17) rfl)⟩)
  have E_6 := Exa.start ev6 ux_POW
  have O_6 := own_fldI ev6 uo_POW
  have C_6 := own_fldI ev6 uc_POW
  obtain ⟨b7, ev7⟩ := exa_v ux_AND
  have S_7 := Sta.start ev7 (Or.inr ⟨hw _ (List.mem_of_getElem? (i := 3) rfl), hw _ (List.mem_of_getElem? (i := 19) rfl)⟩)
  have E_7 := Exa.start ev7 ux_AND
  have O_7 := own_fldI ev7 uo_AND
  have C_7 := own_fldI ev7 uc_AND
  obtain ⟨b8, ev8⟩ := exa_v ux_OR
  have S_8 := Sta.start ev8 (Or.inr ⟨hw _ (List.mem_of_getElem? (i := 3) rfl), hw _ (List.mem_of_getElem? (i := 21) rfl)⟩)
  have E_8 := Exa.start ev8 ux_OR
  have O_8 := own_fldI ev8 uo_OR
  have C_8 := own_fldI ev8 uc_OR
  obtain ⟨b9, ev9⟩ := exa_v ux_IMPLIES
  have S_9 := Sta.start ev9 (Or.inr ⟨hw _ (List.mem_of_getElem? (i := 3) rfl), hw _ (List.mem_of_getElem? (i := 23) rfl)⟩)
  have E_9 := Exa.start ev9 ux_IMPLIES
  have O_9 := own_fldI ev9 uo_IMPLIES
  have C_9 := own_fldI ev9 uc_IMPLIES
  obtain ⟨b10, ev10⟩ := exa_v ux_EQUALS
  have S_10 := Sta.start ev10 (Or.inr ⟨hw _ (List.mem_of_getElem? (i := 3) rfl), hw _ (List.mem_of_getElem? (i := 25) rfl)⟩)
  have E_10 := Exa.start ev10 ux_EQUALS
  have O_10 := own_fldI ev10 uo_EQUALS
  have C_10 := own_fldI ev10 uc_EQUALS
  obtain ⟨b11, ev11⟩ := exa_v ux_NOT_EQUALS
  have S_11 := Sta.start ev11 (Or.inr ⟨hw _ (List.mem_of_getElem? (i := 3) rfl), hw _ (List.mem_of_getElem? (i := 27) rfl)⟩)
  have E_11 := Exa.start ev11 ux_NOT_EQUALS
  have O_11 := own_fldI ev11 uo_NOT_EQUALS
  have C_11 := own_fldI ev11 uc_NOT_EQUALS
  obtain ⟨b12, ev12⟩ := exa_v ux_LESS
  have S_12 := Sta.start ev12 (Or.inr ⟨hw _ (List.mem_of_getElem? (i := 3) rfl), hw _ (List.mem_of_getElem? (i := 29) rfl)⟩)
  have E_12 := Exa.start ev12 ux_LESS
  have O_12 := own_fldI ev12 uo_LESS
  have C_12 := own_fldI ev12 uc_LESS
  obtain ⟨b13, ev13⟩ := exa_v ux_LESS_OR_EQUAL
  have S_13 := Sta.start ev13 (Or.inr ⟨hw _ (List.mem_of_getElem? (i := 3) rfl), hw _ (List.mem_of_getElem? (i := 31) rfl)⟩)
  have E_13 := Exa.start ev13 ux_LESS_OR_EQUAL
  have O_13 := own_fldI ev13 uo_LESS_OR_EQUAL
  have C_13 := own_fldI ev13 uc_LESS_OR_EQUAL
  obtain ⟨b14, ev14⟩ := exa_v ux_GREATER
  have S_14 := Sta.start ev14 (Or.inr ⟨hw _ (List.mem_of_getElem? (i := 3) rfl), hw _ (List.mem_of_getElem? (i := 33) rfl)⟩)
  have E_14 := Exa.start ev14 ux_GREATER
  have O_14 := own_fldI ev14 uo_GREATER
  have C_14 := own_fldI ev14 uc_GREATER
  obtain ⟨b15, ev15⟩ := exa_v ux_GREATER_OR_EQUAL
  have S_15 := Sta.start ev15 (Or.inr ⟨hw _ (List.mem_of_getElem? (i := 3) rfl), hw _ (List.mem_of_getElem? (i := 35) rfl)⟩)
  have E_15 := Exa.start ev15 ux_GREATER_OR_EQUAL
  have O_15 := own_fldI ev15 uo_GREATER_OR_EQUAL
  have C_15 := own_fldI ev15 uc_GREATER_OR_EQUAL
  have HC : own_C s s.heap (fun i => [b0, b1, b2, b3, b4, b5, b6, b7, b8, b9, b10, b11, b12, b13, b14, b15].getD i 0) := by
    refine ⟨fun q hq => ?_, fun i hi => ?_⟩
    · simp only [own_names, List.mem_cons, List.not_mem_nil, or_false] at hq
      rcases hq with rfl | rfl | rfl | rfl | rfl | rfl | rfl | rfl | rfl | rfl | rfl | rfl | rfl | rfl | rfl | rfl
      · exact S_0
      · exact S_1
      · exact S_2
      · exact S_3
      · exact S_4
      · exact S_5
      · exact S_6
      · exact S_7
      · exact S_8
      · exact S_9
      · exact S_10
      · exact S_11
      · exact S_12
      · exact S_13
      · exact S_14
      · exact S_15
    · match i, hi with
      | 0, _ => exact ⟨E_0, O_0, C_0⟩
      | 1, _ => exact ⟨E_1, O_1, C_1⟩
      | 2, _ => exact ⟨E_2, O_2, C_2⟩
      | 3, _ => exact ⟨E_3, O_3, C_3⟩
      | 4, _ => exact ⟨E_4, O_4, C_4⟩
      | 5, _ => exact ⟨E_5, O_5, C_5⟩
      | 6, _ => exact ⟨E_6, O_6, C_6⟩
      | 7, _ => exact ⟨E_7, O_7, C_7⟩
      | 8, _ => exact ⟨E_8, O_8, C_8⟩
      | 9, _ => exact ⟨E_9, O_9, C_9⟩
      | 10, _ => exact ⟨E_10, O_10, C_10⟩
      | 11, _ => exact ⟨E_11, O_11, C_11⟩
      | 12, _ => exact ⟨E_12, O_12, C_12⟩
      | 13, _ => exact ⟨E_13, O_13, C_13⟩
      | 14, _ => exact ⟨E_14, O_14, C_14⟩
      | 15, _ => exact ⟨E_15, O_15, C_15⟩
      | n + 16, hi => exact absurd hi (by omega)
  obtain ⟨n, o, h1, h2, h3, _, L, rfl, ⟨rfl, N⟩, hq⟩ := rm0 l s _ hw tables_1 i0 i1 i2 i3 _ s.heap s.heap.size (Nat.le_refl _) HC p e ha hc hk s m _ below hf ((Spec.applies_iff_loose hf).mp happ).1 ⟨rfl, State.Warmed39.refl s, rfl⟩ trivial
  refine ⟨n, _, h1, h2, h3, hpost _ _ _ _ _ _ ⟨Cond.after_iff.mpr rfl, Cond.after_iff.mpr (eq_i res_at (Term.int_eval (1)) rfl), trivial⟩ ⟨hq.1, hq.2.1, (hq.2.2.sift fun y hy => Or.inr (N y hy)).mono (by decide) (by decide)⟩⟩
theorem main_1_1 : Claimed_1_1 := comes_1 fun _ _ _ _ _ _ h hF => ⟨h.1, hF⟩
theorem main_1_2 : Claimed_1_2 := comes_1 fun _ _ _ _ _ _ h hF => ⟨h.2.1, hF⟩
end Jvm.Pilot.@@N@@
namespace Jvm.Pilot.@@N@@
open Jvm Jvm.ClassFile Sem Op Lib Jvm.Free Jvm.Stand Jvm.Pilot.@@N@@.Jvm.D
/-! MADE BY PROGRAM (witnessworld.py) out of the Statement's table words and the real class files: 12 classes; the members and pool entries that the words name. The judged class is class 1, her method 1. -/
namespace start1
open Jvm.ClassFile
def u (s : String) : CpInfo := .utf8 (stringToUtf16 s)
/-- a pool by its gaps: so many unusable entries, then the entry; so many at the end -/
def gap : Nat → List CpInfo → List CpInfo
  | 0, r => r
  | n + 1, r => .unusable :: gap n r
def poolList (es : List (Nat × CpInfo)) (last : Nat) : List CpInfo := es.foldr (fun e r => gap e.1 (e.2 :: r)) (gap last [])
def pool (es : List (Nat × CpInfo)) (last : Nat) : Array CpInfo := ⟨poolList es last⟩
def fileOf (pool : Array CpInfo) (this : Nat) (attrs : Array Attribute := #[]) (ms : Array MethodInfo := #[]) (fl : Nat := 33) (sup : Nat := 0) (ifs : Array Nat := #[]) (fds : Array FieldInfo := #[]) : ClassFile where
  minorVersion := 0
  majorVersion := 65
  constantPool := pool
  accessFlags := fl
  thisClass := this
  superClass := sup
  interfaces := ifs
  fields := fds
  methods := ms
  attributes := attrs
def plain (name : String) (sup : Option ClassId) : Class where
  name := name
  kind := .ordinary
  loader := none
  accessFlags := 33
  super := sup
  interfaces := #[]
  cf := none
  fields := #[]
  methods := #[]
  instanceTypes := #[]
  staticTypes := #[]
  resolved := #[]
  callSites := []
  init := .initialized
  statics := none
  mirror := none

def pool0 : Array CpInfo := pool [(5, u "<init>"), (0, u "()V"), (1, .class_ 10), (1, u "java/lang/Object")] 113

def k0m0 : Method := { name := "<init>", desc := "()V", sig := { parameters := [], returnType := none }, accessFlags := 1, code := none }
/-- java/lang/Object -/
def k0 : Class := { plain "java/lang/Object" none with
  accessFlags := 33
  interfaces := #[]
  cf := some (fileOf pool0 8 #[] #[{ accessFlags := 1, nameIndex := 5, descriptorIndex := 6, attributes := #[] }] 33 0 #[] #[])
  fields := #[]
  methods := #[k0m0]
  instanceTypes := #[]
  staticTypes := #[]
  resolved := Array.replicate 124 none
  statics := none }

def pool1 : Array CpInfo := pool [(2, .class_ 4), (1, u "java/lang/Object"), (0, u "<init>"), (0, u "()V"), (0, .class_ 8), (0, u "com/example/strategos/strategos/dd/Operation"), (0, .fieldref 7 10), (0, .nameAndType 11 12), (0, u "PLUS"), (0, u "Lcom/example/strategos/strategos/dd/Operation;"), (0, .fieldref 7 14), (0, .nameAndType 15 12), (0, u "MINUS"), (0, .fieldref 7 17), (0, .nameAndType 18 12), (0, u "TIMES"), (0, .fieldref 7 20), (0, .nameAndType 21 12), (0, u "DIVIDE"), (0, .fieldref 7 23), (0, .nameAndType 24 12), (0, u "MIN"), (0, .fieldref 7 26), (0, .nameAndType 27 12), (0, u "MAX"), (0, .fieldref 7 29), (0, .nameAndType 30 12), (0, u "POW"), (0, .fieldref 7 32), (0, .nameAndType 33 12), (0, u "AND"), (0, .fieldref 7 35), (0, .nameAndType 36 12), (0, u "OR"), (0, .fieldref 7 38), (0, .nameAndType 39 12), (0, u "IMPLIES"), (0, .fieldref 7 41), (0, .nameAndType 42 12), (0, u "EQUALS"), (0, .fieldref 7 44), (0, .nameAndType 45 12), (0, u "NOT_EQUALS"), (0, .fieldref 7 47), (0, .nameAndType 48 12), (0, u "LESS"), (0, .fieldref 7 50), (0, .nameAndType 51 12), (0, u "LESS_OR_EQUAL"), (0, .fieldref 7 53), (0, .nameAndType 54 12), (0, u "GREATER"), (0, .fieldref 7 56), (0, .nameAndType 57 12), (0, u "GREATER_OR_EQUAL"), (0, .integer 2147483647), (0, .methodref 7 60), (0, .nameAndType 61 62), (0, u "canAbstract"), (0, u "()Z"), (0, .methodref 7 64), (0, .nameAndType 65 62), (0, u "isCommutative"), (0, .methodref 7 67), (0, .nameAndType 68 69), (0, u "apply"), (0, u "(DD)D"), (0, .class_ 71), (0, u "com/example/strategos/strategos/dd/OperationCanAbstractPinLaw"), (2, u "law"), (0, u "(IIII)Z")] 5

def k1m0 : Method := { name := "<init>", desc := "()V", sig := { parameters := [], returnType := none }, accessFlags := 1, code := none }
def k1c1 : Code := { maxStack := 10, maxLocals := 16, code := code, exceptionTable := #[], attributes := #[] }
def k1m1 : Method := { name := "law", desc := "(IIII)Z", sig := { parameters := [.int, .int, .int, .int], returnType := some .boolean }, accessFlags := 9, code := some k1c1 }
/-- com/example/strategos/strategos/dd/OperationCanAbstractPinLaw -/
def k1 : Class := { plain "com/example/strategos/strategos/dd/OperationCanAbstractPinLaw" (some 0) with
  accessFlags := 49
  interfaces := #[]
  cf := some (fileOf pool1 70 #[] #[{ accessFlags := 1, nameIndex := 5, descriptorIndex := 6, attributes := #[] }, { accessFlags := 9, nameIndex := 74, descriptorIndex := 75, attributes := #[] }] 49 2 #[] #[])
  fields := #[]
  methods := #[k1m0, k1m1]
  instanceTypes := #[]
  staticTypes := #[]
  resolved := Array.replicate 81 none
  statics := none }

def pool2 : Array CpInfo := pool [(1, .class_ 2), (0, u "java/lang/constant/Constable"), (0, .class_ 4), (0, u "java/lang/Object")] 6

/-- java/lang/constant/Constable -/
def k2 : Class := { plain "java/lang/constant/Constable" (some 0) with
  accessFlags := 1537
  interfaces := #[]
  cf := some (fileOf pool2 1 #[] #[] 1537 3 #[] #[])
  fields := #[]
  methods := #[]
  instanceTypes := #[]
  staticTypes := #[]
  resolved := Array.replicate 11 none
  statics := none }

def pool3 : Array CpInfo := pool [(1, .class_ 2), (0, u "java/lang/Comparable"), (0, .class_ 4), (0, u "java/lang/Object")] 7

/-- java/lang/Comparable -/
def k3 : Class := { plain "java/lang/Comparable" (some 0) with
  accessFlags := 1537
  interfaces := #[]
  cf := some (fileOf pool3 1 #[] #[] 1537 3 #[] #[])
  fields := #[]
  methods := #[]
  instanceTypes := #[]
  staticTypes := #[]
  resolved := Array.replicate 12 none
  statics := none }

def pool4 : Array CpInfo := pool [(1, .class_ 2), (0, u "java/io/Serializable"), (0, .class_ 4), (0, u "java/lang/Object")] 2

/-- java/io/Serializable -/
def k4 : Class := { plain "java/io/Serializable" (some 0) with
  accessFlags := 1537
  interfaces := #[]
  cf := some (fileOf pool4 1 #[] #[] 1537 3 #[] #[])
  fields := #[]
  methods := #[]
  instanceTypes := #[]
  staticTypes := #[]
  resolved := Array.replicate 7 none
  statics := none }

def pool5 : Array CpInfo := pool [(2, .class_ 4), (1, u "java/lang/Enum"), (0, u "name"), (0, u "Ljava/lang/String;"), (0, .fieldref 2 8), (0, .nameAndType 9 10), (0, u "ordinal"), (0, u "I"), (1, .class_ 14), (1, u "java/lang/Object"), (4, u "hash"), (86, .class_ 108), (1, u "java/lang/Enum$EnumDesc"), (2, .class_ 112), (0, u "java/lang/constant/Constable"), (0, .class_ 114), (0, u "java/lang/Comparable"), (0, .class_ 116), (0, u "java/io/Serializable"), (9, u "()I")] 77

def k5c0 : Code := { maxStack := 1, maxLocals := 1, code := jdk_37_method_2_code, exceptionTable := #[], attributes := #[] }
def k5m0 : Method := { name := "ordinal", desc := "()I", sig := { parameters := [], returnType := some .int }, accessFlags := 17, code := some k5c0 }
/-- java/lang/Enum -/
def k5 : Class := { plain "java/lang/Enum" (some 0) with
  accessFlags := 1057
  interfaces := #[2, 3, 4]
  cf := some (fileOf pool5 2 #[.nestMembers #[106]] #[{ accessFlags := 17, nameIndex := 9, descriptorIndex := 126, attributes := #[] }] 1057 12 #[111, 113, 115] #[{ accessFlags := 18, nameIndex := 5, descriptorIndex := 6, attributes := #[] }, { accessFlags := 18, nameIndex := 9, descriptorIndex := 10, attributes := #[] }, { accessFlags := 2, nameIndex := 19, descriptorIndex := 10, attributes := #[] }])
  fields := #[{ name := "name", type := (.object "java/lang/String"), accessFlags := 18, slot := 0, constantValue := 0 }, { name := "ordinal", type := .int, accessFlags := 18, slot := 1, constantValue := 0 }, { name := "hash", type := .int, accessFlags := 2, slot := 2, constantValue := 0 }]
  methods := #[k5m0]
  instanceTypes := #[(.object "java/lang/String"), .int, .int]
  staticTypes := #[]
  resolved := Array.replicate 204 none
  statics := none }

def pool6 : Array CpInfo := pool [(1, .class_ 2), (0, u "com/example/strategos/strategos/dd/Operation"), (0, .fieldref 1 4), (0, .nameAndType 5 6), (0, u "PLUS"), (0, u "Lcom/example/strategos/strategos/dd/Operation;"), (2, u "MINUS"), (2, u "TIMES"), (2, u "DIVIDE"), (0, .fieldref 1 17), (0, .nameAndType 18 6), (0, u "MIN"), (0, .fieldref 1 20), (0, .nameAndType 21 6), (0, u "MAX"), (2, u "POW"), (2, u "AND"), (0, .fieldref 1 29), (0, .nameAndType 30 6), (0, u "OR"), (2, u "IMPLIES"), (2, u "EQUALS"), (2, u "NOT_EQUALS"), (2, u "LESS"), (2, u "LESS_OR_EQUAL"), (2, u "GREATER"), (2, u "GREATER_OR_EQUAL"), (2, u "$VALUES"), (0, u "[Lcom/example/strategos/strategos/dd/Operation;"), (6, .class_ 64), (1, u "java/lang/Enum"), (6, .fieldref 1 72), (0, .nameAndType 73 74), (0, u "commutative"), (0, u "Z"), (0, .methodref 1 76), (0, .nameAndType 77 78), (0, u "ordinal"), (0, u "()I"), (0, .methodref 80 81), (0, .class_ 82), (0, .nameAndType 83 84), (0, u "java/lang/Math"), (0, u "min"), (0, u "(DD)D"), (0, .methodref 80 86), (0, .nameAndType 87 84), (0, u "max"), (3, .methodref 1 92), (0, .nameAndType 93 94), (0, u "truth"), (0, u "(Z)D"), (35, u "isCommutative"), (0, u "()Z"), (0, u "canAbstract"), (1, u "apply")] 5

def k6c0 : Code := { maxStack := 1, maxLocals := 1, code := prog_27_method_4_code, exceptionTable := #[], attributes := #[] }
def k6m0 : Method := { name := "isCommutative", desc := "()Z", sig := { parameters := [], returnType := some .boolean }, accessFlags := 0, code := some k6c0 }
def k6c1 : Code := { maxStack := 2, maxLocals := 1, code := prog_27_method_5_code, exceptionTable := #[], attributes := #[] }
def k6m1 : Method := { name := "canAbstract", desc := "()Z", sig := { parameters := [], returnType := some .boolean }, accessFlags := 0, code := some k6c1 }
def k6c2 : Code := { maxStack := 4, maxLocals := 7, code := prog_27_method_6_code, exceptionTable := #[], attributes := #[] }
def k6m2 : Method := { name := "apply", desc := "(DD)D", sig := { parameters := [.double, .double], returnType := some .double }, accessFlags := 1, code := some k6c2 }
def k6c3 : Code := { maxStack := 2, maxLocals := 1, code := prog_27_method_7_code, exceptionTable := #[], attributes := #[] }
def k6m3 : Method := { name := "truth", desc := "(Z)D", sig := { parameters := [.boolean], returnType := some .double }, accessFlags := 10, code := some k6c3 }
/-- com/example/strategos/strategos/dd/Operation -/
def k6 : Class := { plain "com/example/strategos/strategos/dd/Operation" (some 5) with
  accessFlags := 16433
  interfaces := #[]
  cf := some (fileOf pool6 1 #[] #[{ accessFlags := 0, nameIndex := 130, descriptorIndex := 131, attributes := #[] }, { accessFlags := 0, nameIndex := 132, descriptorIndex := 131, attributes := #[] }, { accessFlags := 1, nameIndex := 134, descriptorIndex := 84, attributes := #[] }, { accessFlags := 10, nameIndex := 93, descriptorIndex := 94, attributes := #[] }] 16433 62 #[] #[{ accessFlags := 16409, nameIndex := 5, descriptorIndex := 6, attributes := #[] }, { accessFlags := 16409, nameIndex := 9, descriptorIndex := 6, attributes := #[] }, { accessFlags := 16409, nameIndex := 12, descriptorIndex := 6, attributes := #[] }, { accessFlags := 16409, nameIndex := 15, descriptorIndex := 6, attributes := #[] }, { accessFlags := 16409, nameIndex := 18, descriptorIndex := 6, attributes := #[] }, { accessFlags := 16409, nameIndex := 21, descriptorIndex := 6, attributes := #[] }, { accessFlags := 16409, nameIndex := 24, descriptorIndex := 6, attributes := #[] }, { accessFlags := 16409, nameIndex := 27, descriptorIndex := 6, attributes := #[] }, { accessFlags := 16409, nameIndex := 30, descriptorIndex := 6, attributes := #[] }, { accessFlags := 16409, nameIndex := 33, descriptorIndex := 6, attributes := #[] }, { accessFlags := 16409, nameIndex := 36, descriptorIndex := 6, attributes := #[] }, { accessFlags := 16409, nameIndex := 39, descriptorIndex := 6, attributes := #[] }, { accessFlags := 16409, nameIndex := 42, descriptorIndex := 6, attributes := #[] }, { accessFlags := 16409, nameIndex := 45, descriptorIndex := 6, attributes := #[] }, { accessFlags := 16409, nameIndex := 48, descriptorIndex := 6, attributes := #[] }, { accessFlags := 16409, nameIndex := 51, descriptorIndex := 6, attributes := #[] }, { accessFlags := 18, nameIndex := 73, descriptorIndex := 74, attributes := #[] }, { accessFlags := 4122, nameIndex := 54, descriptorIndex := 55, attributes := #[] }])
  fields := #[{ name := "PLUS", type := (.object "com/example/strategos/strategos/dd/Operation"), accessFlags := 16409, slot := 0, constantValue := 0 }, { name := "MINUS", type := (.object "com/example/strategos/strategos/dd/Operation"), accessFlags := 16409, slot := 1, constantValue := 0 }, { name := "TIMES", type := (.object "com/example/strategos/strategos/dd/Operation"), accessFlags := 16409, slot := 2, constantValue := 0 }, { name := "DIVIDE", type := (.object "com/example/strategos/strategos/dd/Operation"), accessFlags := 16409, slot := 3, constantValue := 0 }, { name := "MIN", type := (.object "com/example/strategos/strategos/dd/Operation"), accessFlags := 16409, slot := 4, constantValue := 0 }, { name := "MAX", type := (.object "com/example/strategos/strategos/dd/Operation"), accessFlags := 16409, slot := 5, constantValue := 0 }, { name := "POW", type := (.object "com/example/strategos/strategos/dd/Operation"), accessFlags := 16409, slot := 6, constantValue := 0 }, { name := "AND", type := (.object "com/example/strategos/strategos/dd/Operation"), accessFlags := 16409, slot := 7, constantValue := 0 }, { name := "OR", type := (.object "com/example/strategos/strategos/dd/Operation"), accessFlags := 16409, slot := 8, constantValue := 0 }, { name := "IMPLIES", type := (.object "com/example/strategos/strategos/dd/Operation"), accessFlags := 16409, slot := 9, constantValue := 0 }, { name := "EQUALS", type := (.object "com/example/strategos/strategos/dd/Operation"), accessFlags := 16409, slot := 10, constantValue := 0 }, { name := "NOT_EQUALS", type := (.object "com/example/strategos/strategos/dd/Operation"), accessFlags := 16409, slot := 11, constantValue := 0 }, { name := "LESS", type := (.object "com/example/strategos/strategos/dd/Operation"), accessFlags := 16409, slot := 12, constantValue := 0 }, { name := "LESS_OR_EQUAL", type := (.object "com/example/strategos/strategos/dd/Operation"), accessFlags := 16409, slot := 13, constantValue := 0 }, { name := "GREATER", type := (.object "com/example/strategos/strategos/dd/Operation"), accessFlags := 16409, slot := 14, constantValue := 0 }, { name := "GREATER_OR_EQUAL", type := (.object "com/example/strategos/strategos/dd/Operation"), accessFlags := 16409, slot := 15, constantValue := 0 }, { name := "commutative", type := .boolean, accessFlags := 18, slot := 3, constantValue := 0 }, { name := "$VALUES", type := (.array (.object "com/example/strategos/strategos/dd/Operation")), accessFlags := 4122, slot := 16, constantValue := 0 }]
  methods := #[k6m0, k6m1, k6m2, k6m3]
  instanceTypes := #[(.object "java/lang/String"), .int, .int, .boolean]
  staticTypes := #[(.object "com/example/strategos/strategos/dd/Operation"), (.object "com/example/strategos/strategos/dd/Operation"), (.object "com/example/strategos/strategos/dd/Operation"), (.object "com/example/strategos/strategos/dd/Operation"), (.object "com/example/strategos/strategos/dd/Operation"), (.object "com/example/strategos/strategos/dd/Operation"), (.object "com/example/strategos/strategos/dd/Operation"), (.object "com/example/strategos/strategos/dd/Operation"), (.object "com/example/strategos/strategos/dd/Operation"), (.object "com/example/strategos/strategos/dd/Operation"), (.object "com/example/strategos/strategos/dd/Operation"), (.object "com/example/strategos/strategos/dd/Operation"), (.object "com/example/strategos/strategos/dd/Operation"), (.object "com/example/strategos/strategos/dd/Operation"), (.object "com/example/strategos/strategos/dd/Operation"), (.object "com/example/strategos/strategos/dd/Operation"), (.array (.object "com/example/strategos/strategos/dd/Operation"))]
  resolved := Array.replicate 140 none
  statics := some 0 }

def pool7 : Array CpInfo := pool [(1, .class_ 2), (0, u "java/lang/Math"), (1, .class_ 6), (1, u "java/lang/Object"), (0, u "<init>"), (0, u "()V"), (43, u "(DD)D"), (45, .class_ 100), (1, u "java/lang/Math$RandomNumberGeneratorHolder"), (71, u "negativeZeroFloatBits"), (0, u "J"), (2, u "negativeZeroDoubleBits"), (21, u "max"), (2, u "min"), (43, u "$assertionsDisabled"), (0, u "Z"), (91, u "twoToTheDoubleScaleDown"), (0, u "D"), (4, u "twoToTheDoubleScaleUp"), (9, u "E"), (3, u "PI"), (2, u "TAU"), (2, u "DEGREES_TO_RADIANS"), (0, u "RADIANS_TO_DEGREES")] 94

def k7m0 : Method := { name := "<init>", desc := "()V", sig := { parameters := [], returnType := none }, accessFlags := 2, code := none }
def k7c1 : Code := { maxStack := 4, maxLocals := 4, code := jdk_29_method_68_code, exceptionTable := #[], attributes := #[] }
def k7m1 : Method := { name := "max", desc := "(DD)D", sig := { parameters := [.double, .double], returnType := some .double }, accessFlags := 9, code := some k7c1 }
def k7c2 : Code := { maxStack := 4, maxLocals := 4, code := jdk_29_method_72_code, exceptionTable := #[], attributes := #[] }
def k7m2 : Method := { name := "min", desc := "(DD)D", sig := { parameters := [.double, .double], returnType := some .double }, accessFlags := 9, code := some k7c2 }
/-- java/lang/Math -/
def k7 : Class := { plain "java/lang/Math" (some 0) with
  accessFlags := 49
  interfaces := #[]
  cf := some (fileOf pool7 1 #[.nestMembers #[98]] #[{ accessFlags := 2, nameIndex := 7, descriptorIndex := 8, attributes := #[] }, { accessFlags := 9, nameIndex := 198, descriptorIndex := 52, attributes := #[] }, { accessFlags := 9, nameIndex := 201, descriptorIndex := 52, attributes := #[] }] 49 4 #[] #[{ accessFlags := 25, nameIndex := 354, descriptorIndex := 339, attributes := #[] }, { accessFlags := 25, nameIndex := 358, descriptorIndex := 339, attributes := #[] }, { accessFlags := 25, nameIndex := 361, descriptorIndex := 339, attributes := #[] }, { accessFlags := 26, nameIndex := 364, descriptorIndex := 339, attributes := #[] }, { accessFlags := 26, nameIndex := 365, descriptorIndex := 339, attributes := #[] }, { accessFlags := 26, nameIndex := 172, descriptorIndex := 173, attributes := #[] }, { accessFlags := 26, nameIndex := 176, descriptorIndex := 173, attributes := #[] }, { accessFlags := 8, nameIndex := 344, descriptorIndex := 339, attributes := #[] }, { accessFlags := 8, nameIndex := 338, descriptorIndex := 339, attributes := #[] }, { accessFlags := 4120, nameIndex := 245, descriptorIndex := 246, attributes := #[] }])
  fields := #[{ name := "E", type := .double, accessFlags := 25, slot := 0, constantValue := 0 }, { name := "PI", type := .double, accessFlags := 25, slot := 1, constantValue := 0 }, { name := "TAU", type := .double, accessFlags := 25, slot := 2, constantValue := 0 }, { name := "DEGREES_TO_RADIANS", type := .double, accessFlags := 26, slot := 3, constantValue := 0 }, { name := "RADIANS_TO_DEGREES", type := .double, accessFlags := 26, slot := 4, constantValue := 0 }, { name := "negativeZeroFloatBits", type := .long, accessFlags := 26, slot := 5, constantValue := 0 }, { name := "negativeZeroDoubleBits", type := .long, accessFlags := 26, slot := 6, constantValue := 0 }, { name := "twoToTheDoubleScaleUp", type := .double, accessFlags := 8, slot := 7, constantValue := 0 }, { name := "twoToTheDoubleScaleDown", type := .double, accessFlags := 8, slot := 8, constantValue := 0 }, { name := "$assertionsDisabled", type := .boolean, accessFlags := 4120, slot := 9, constantValue := 0 }]
  methods := #[k7m0, k7m1, k7m2]
  instanceTypes := #[]
  staticTypes := #[.double, .double, .double, .double, .double, .long, .long, .double, .double, .boolean]
  resolved := Array.replicate 460 none
  statics := none }

def pool8 : Array CpInfo := pool [(1, u "java/lang/Cloneable"), (0, .class_ 1), (0, u "java/lang/Object"), (0, .class_ 3)] 3

/-- java/lang/Cloneable -/
def k8 : Class := { plain "java/lang/Cloneable" (some 0) with
  accessFlags := 1537
  interfaces := #[]
  cf := some (fileOf pool8 2 #[] #[] 1537 4 #[] #[])
  fields := #[]
  methods := #[]
  instanceTypes := #[]
  staticTypes := #[]
  resolved := Array.replicate 8 none
  statics := none }

/-- the primitive byte -/
def k9 : Class := { plain "byte" none with kind := .primitive 'B', accessFlags := 0x411 }
/-- [B -/
def k10 : Class := { plain "[B" (some 0) with kind := .array 9 .byte, interfaces := #[8, 4], accessFlags := 1041 }

/-- [Lcom/example/strategos/strategos/dd/Operation; -/
def k11 : Class := { plain "[Lcom/example/strategos/strategos/dd/Operation;" (some 0) with kind := .array 6 (.object "com/example/strategos/strategos/dd/Operation"), interfaces := #[8, 4], accessFlags := 1041 }

def heap : Heap := #[{ cls := 6, slots := #[.ref 1, .ref 2, .ref 3, .ref 4, .ref 5, .ref 6, .ref 7, .ref 8, .ref 9, .ref 10, .ref 11, .ref 12, .ref 13, .ref 14, .ref 15, .ref 16, .null], vm := .statics 6 },
  { cls := 6, slots := #[.null, .int 0, .int 0, .int 1], vm := .none },
  { cls := 6, slots := #[.null, .int 1, .int 0, .int 0], vm := .none },
  { cls := 6, slots := #[.null, .int 2, .int 0, .int 1], vm := .none },
  { cls := 6, slots := #[.null, .int 3, .int 0, .int 0], vm := .none },
  { cls := 6, slots := #[.null, .int 4, .int 0, .int 1], vm := .none },
  { cls := 6, slots := #[.null, .int 5, .int 0, .int 1], vm := .none },
  { cls := 6, slots := #[.null, .int 6, .int 0, .int 0], vm := .none },
  { cls := 6, slots := #[.null, .int 7, .int 0, .int 1], vm := .none },
  { cls := 6, slots := #[.null, .int 8, .int 0, .int 1], vm := .none },
  { cls := 6, slots := #[.null, .int 9, .int 0, .int 0], vm := .none },
  { cls := 6, slots := #[.null, .int 10, .int 0, .int 1], vm := .none },
  { cls := 6, slots := #[.null, .int 11, .int 0, .int 1], vm := .none },
  { cls := 6, slots := #[.null, .int 12, .int 0, .int 0], vm := .none },
  { cls := 6, slots := #[.null, .int 13, .int 0, .int 0], vm := .none },
  { cls := 6, slots := #[.null, .int 14, .int 0, .int 0], vm := .none },
  { cls := 6, slots := #[.null, .int 15, .int 0, .int 0], vm := .none }]
def classes : Array Class := #[k0, k1, k2, k3, k4, k5, k6, k7, k8, k9, k10, k11]
def interned : List (Array UInt16 × Addr) := []
def slotsUsed : Nat := 81
def theMethod : MethodId := ⟨1, 1⟩
def args0 : Array Value := #[.int 5, .int 3, .int 1, .int 7]
def aboutOver (below : List Frame) : State where
  vm := { classes := classes, interned := interned.toArray }
  heap := heap
  slotsUsed := slotsUsed
  threads := #[{ frames := .invoking theMethod args0 :: below }]
def below0 : List Frame := [.native { method := ⟨0, 0⟩, args := #[] }]
def about1 : State := aboutOver below0
def p0 : Program := .bare "" "" ""
def e0 : Env := launch0.env 0 0 0
theorem w_frames : about1.frames = Frame.invoking theMethod args0 :: below0 := rfl
set_option maxRecDepth 65536 in
theorem w_args : argsFit about1.vm theMethod args0 = true := by decide +kernel
set_option maxRecDepth 65536 in
theorem w_heap : heapFits about1 = true := by decide +kernel
set_option maxRecDepth 65536 in
theorem w_runnable : about1.curStatus? = some .runnable := by decide +kernel
set_option maxRecDepth 65536 in
theorem w_alone : about1.alone = true := by decide +kernel
set_option maxRecDepth 65536 in
theorem w_named : about1.methodNamed? x = some theMethod := by decide +kernel
set_option maxRecDepth 65536 in
theorem w_hears : about1.hears theMethod below0 = true := by decide +kernel
set_option maxRecDepth 65536 in
theorem w_ripe : about1.ripe theMethod args0 below0 = true := by decide +kernel
theorem w_running : about1.status = .running := rfl
set_option maxRecDepth 65536 in
theorem w_room : about1.hasRoom e0.platform room_1 = true :=
  launch0.hasRoom_least _ room_1 (by decide +kernel) (by decide +kernel) (by decide +kernel) (by decide +kernel) (by decide +kernel) (by decide +kernel)
theorem allAtoms_all (ts : List Jvm.Cond) (a : Array Jvm.Value) (st : Jvm.State) : (allAtoms ts).before a st = ts.all (fun c => c.before a st) := by
  induction ts with
  | nil => rfl
  | cons c t ih =>
    show (Jvm.Cond.and c (allAtoms t)).before a st = _
    rw [Jvm.Cond.before_and, ih, List.all_cons]
def words1 : List Jvm.Cond := Jvm.Cond.code x code maxLocals ret :: tables_1
/-- a 'code' word, met by the world's own term for the bytes: nothing is compared byte by byte -/
theorem code_word {y : MethodName} {bytes : ByteArray} {mx : Nat} {rt : Option FieldType} {a : Array Value} {s : State} {m : MethodId} {meth : Method} {c : Code} (h1 : s.methodNamed? y = some m) (h2 : s.vm.method? m = some meth) (h3 : meth.code = some c) (h4 : c.code = bytes)
    (h5 : (c.maxLocals == mx && c.exceptionTable.isEmpty && decide (c.maxStack ≤ mostOperands) && decide (meth.sig.returnType = rt) && !meth.locks && decide (parseMethodDescriptor y.desc = some meth.sig)) = true) : (Jvm.Cond.code y bytes mx rt).before a s = true := by
  simp only [Bool.and_eq_true, beq_iff_eq, Bool.not_eq_true', decide_eq_true_eq] at h5
  obtain ⟨⟨⟨⟨⟨g1, g2⟩, g3⟩, g4⟩, g5⟩, g6⟩ := h5
  simp [Cond.before, Cond.holds, Cond.value, h1, h2, h3, h4, g1, g2, g3, g4, g5, g6]
def isCode : Jvm.Cond → Bool
  | .code _ _ _ _ => true
  | _ => false
theorem all_split {L : List Jvm.Cond} {P : Jvm.Cond → Bool} (h1 : L.all (fun c => isCode c || P c) = true) (h2 : ∀ c ∈ L.filter isCode, P c = true) : L.all P = true := by
  refine List.all_eq_true.mpr fun c hc => ?_
  have h := List.all_eq_true.mp h1 c hc
  rcases Bool.eq_false_or_eq_true (isCode c) with hi | hi
  · exact h2 c (List.mem_filter.mpr ⟨hc, hi⟩)
  · simpa [hi] using h
set_option maxRecDepth 65536 in
theorem w_c0 : (Jvm.Cond.code x code maxLocals ret).before args0 about1 = true := code_word (m := ⟨1, 1⟩) (meth := k1m1) (c := k1c1) (by decide +kernel) rfl rfl rfl (by decide +kernel)
set_option maxRecDepth 65536 in
theorem w_c1 : (Jvm.Cond.code ({ cls := "com/example/strategos/strategos/dd/Operation", name := "canAbstract", desc := "()Z" } : Jvm.MethodName) prog_27_method_5_code (1 : Nat) (Option.some Jvm.ClassFile.FieldType.boolean)).before args0 about1 = true := code_word (m := ⟨6, 1⟩) (meth := k6m1) (c := k6c1) (by decide +kernel) rfl rfl rfl (by decide +kernel)
set_option maxRecDepth 65536 in
theorem w_c2 : (Jvm.Cond.code ({ cls := "com/example/strategos/strategos/dd/Operation", name := "isCommutative", desc := "()Z" } : Jvm.MethodName) prog_27_method_4_code (1 : Nat) (Option.some Jvm.ClassFile.FieldType.boolean)).before args0 about1 = true := code_word (m := ⟨6, 0⟩) (meth := k6m0) (c := k6c0) (by decide +kernel) rfl rfl rfl (by decide +kernel)
set_option maxRecDepth 65536 in
theorem w_c3 : (Jvm.Cond.code ({ cls := "com/example/strategos/strategos/dd/Operation", name := "apply", desc := "(DD)D" } : Jvm.MethodName) prog_27_method_6_code (7 : Nat) (Option.some Jvm.ClassFile.FieldType.double)).before args0 about1 = true := code_word (m := ⟨6, 2⟩) (meth := k6m2) (c := k6c2) (by decide +kernel) rfl rfl rfl (by decide +kernel)
set_option maxRecDepth 65536 in
theorem w_c4 : (Jvm.Cond.code ({ cls := "java/lang/Enum", name := "ordinal", desc := "()I" } : Jvm.MethodName) jdk_37_method_2_code (1 : Nat) (Option.some Jvm.ClassFile.FieldType.int)).before args0 about1 = true := code_word (m := ⟨5, 0⟩) (meth := k5m0) (c := k5c0) (by decide +kernel) rfl rfl rfl (by decide +kernel)
set_option maxRecDepth 65536 in
theorem w_c5 : (Jvm.Cond.code ({ cls := "com/example/strategos/strategos/dd/Operation", name := "truth", desc := "(Z)D" } : Jvm.MethodName) prog_27_method_7_code (1 : Nat) (Option.some Jvm.ClassFile.FieldType.double)).before args0 about1 = true := code_word (m := ⟨6, 3⟩) (meth := k6m3) (c := k6c3) (by decide +kernel) rfl rfl rfl (by decide +kernel)
set_option maxRecDepth 65536 in
theorem w_c6 : (Jvm.Cond.code ({ cls := "java/lang/Math", name := "min", desc := "(DD)D" } : Jvm.MethodName) jdk_29_method_72_code (4 : Nat) (Option.some Jvm.ClassFile.FieldType.double)).before args0 about1 = true := code_word (m := ⟨7, 2⟩) (meth := k7m2) (c := k7c2) (by decide +kernel) rfl rfl rfl (by decide +kernel)
set_option maxRecDepth 65536 in
theorem w_c7 : (Jvm.Cond.code ({ cls := "java/lang/Math", name := "max", desc := "(DD)D" } : Jvm.MethodName) jdk_29_method_68_code (4 : Nat) (Option.some Jvm.ClassFile.FieldType.double)).before args0 about1 = true := code_word (m := ⟨7, 1⟩) (meth := k7m1) (c := k7c1) (by decide +kernel) rfl rfl rfl (by decide +kernel)
def codes1 : List Jvm.Cond := [Jvm.Cond.code x code maxLocals ret, Jvm.Cond.code ({ cls := "com/example/strategos/strategos/dd/Operation", name := "canAbstract", desc := "()Z" } : Jvm.MethodName) prog_27_method_5_code (1 : Nat) (Option.some Jvm.ClassFile.FieldType.boolean), Jvm.Cond.code ({ cls := "com/example/strategos/strategos/dd/Operation", name := "isCommutative", desc := "()Z" } : Jvm.MethodName) prog_27_method_4_code (1 : Nat) (Option.some Jvm.ClassFile.FieldType.boolean), Jvm.Cond.code ({ cls := "com/example/strategos/strategos/dd/Operation", name := "apply", desc := "(DD)D" } : Jvm.MethodName) prog_27_method_6_code (7 : Nat) (Option.some Jvm.ClassFile.FieldType.double), Jvm.Cond.code ({ cls := "java/lang/Enum", name := "ordinal", desc := "()I" } : Jvm.MethodName) jdk_37_method_2_code (1 : Nat) (Option.some Jvm.ClassFile.FieldType.int), Jvm.Cond.code ({ cls := "com/example/strategos/strategos/dd/Operation", name := "truth", desc := "(Z)D" } : Jvm.MethodName) prog_27_method_7_code (1 : Nat) (Option.some Jvm.ClassFile.FieldType.double), Jvm.Cond.code ({ cls := "java/lang/Math", name := "min", desc := "(DD)D" } : Jvm.MethodName) jdk_29_method_72_code (4 : Nat) (Option.some Jvm.ClassFile.FieldType.double), Jvm.Cond.code ({ cls := "java/lang/Math", name := "max", desc := "(DD)D" } : Jvm.MethodName) jdk_29_method_68_code (4 : Nat) (Option.some Jvm.ClassFile.FieldType.double)]
set_option maxRecDepth 65536 in
theorem codes_eq : words1.filter isCode = codes1 := rfl
theorem w_codes : ∀ c ∈ words1.filter isCode, c.before args0 about1 = true := by
  rw [codes_eq]
  intro c hc
  simp only [codes1, List.mem_cons, List.not_mem_nil, or_false] at hc
  rcases hc with rfl | rfl | rfl | rfl | rfl | rfl | rfl | rfl
  · exact w_c0
  · exact w_c1
  · exact w_c2
  · exact w_c3
  · exact w_c4
  · exact w_c5
  · exact w_c6
  · exact w_c7
set_option maxRecDepth 65536 in
theorem w_t1 : (words1.take 24).all (fun c => isCode c || c.before args0 about1) = true := by decide +kernel
set_option maxRecDepth 65536 in
theorem w_t2 : ((words1.drop 24).take 24).all (fun c => isCode c || c.before args0 about1) = true := by decide +kernel
set_option maxRecDepth 65536 in
theorem w_t3 : (((words1.drop 24).drop 24).take 24).all (fun c => isCode c || c.before args0 about1) = true := by decide +kernel
set_option maxRecDepth 65536 in
theorem w_t4 : (((words1.drop 24).drop 24).drop 24).all (fun c => isCode c || c.before args0 about1) = true := by decide +kernel
theorem w_tables : (allAtoms (Jvm.Cond.code x code maxLocals ret :: tables_1)).before args0 about1 = true := by
  rw [allAtoms_all]
  show words1.all (fun c => c.before args0 about1) = true
  refine all_split ?_ w_codes
  rw [← List.take_append_drop 24 words1, List.all_append, w_t1, ← List.take_append_drop 24 (words1.drop 24), List.all_append, w_t2, ← List.take_append_drop 24 ((words1.drop 24).drop 24), List.all_append, w_t3, w_t4]
  rfl
set_option maxRecDepth 65536 in
theorem w_case : (Jvm.Cond.and given_1 narrow_1).before args0 about1 = true := by decide +kernel
theorem w_applies : (headSpec (Jvm.Cond.code x code maxLocals ret :: tables_1) room_1).applies x e0.platform about1 = true :=
  (Spec.applies_iff w_frames).mpr ⟨w_running, w_runnable, w_alone, w_named, w_hears, w_ripe, w_room, w_tables⟩
theorem atStart : AtStart classFile x code maxLocals ret World_1 tables_1 room_1 Calls_1 rest_1 Pre_1 launch0 p0 e0 about1 theMethod args0 below0 :=
  ⟨lists_1, trivial, launch0.admits_env _ _ _, launch0.least_env, fairChoices_fair.cas, fairChoices_fair.clock, w_frames, w_args, w_heap, w_applies, trivial, trivial, w_case⟩
end start1
theorem witness_1 : WitnessClaimed_1 := ⟨start1.p0, start1.e0, start1.about1, start1.theMethod, start1.args0, start1.below0, start1.atStart⟩
end Jvm.Pilot.@@N@@
