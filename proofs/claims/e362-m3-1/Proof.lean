import JvmDerived
import JvmDerived.Pilot.@@N@@Statement
import JvmDerived.Pilot.@@N@@Code
set_option linter.unusedVariables false
set_option linter.unusedSimpArgs false
namespace Jvm.Pilot.@@N@@
open Jvm Jvm.ClassFile Sem Op Lib Jvm.Free Jvm.Stand Jvm.LawKit Jvm.RoadKit Bundle Jvm.Pilot.@@N@@.Jvm.D
section Own
variable {p : Program} {l : Launch} {e : Env} {R : Room} {s : State} {m : MethodId} {args : Array Value} {below : List Frame} {meth : Method} {c : Code} {T T' : State} {locs : List Loc} {cells slots : Nat}
/-- from the frame g over the state T the body comes to its end, as Q says -/
def own_E (p : Program) (e : Env) (below : List Frame) (s : State) (Q : Option Value → Heap → List Loc → Prop) (k n : Nat) (T : State) (g : JFrame) : Prop :=
  ∃ U o, Steps p.tables e below (T.setTop g) U ∧ U.status = .running ∧ Ended U below o ∧ ∃ v L, o = Outcome.returned v ∧ Q v U.heap L ∧ FrameEnd s o U L k n
variable {Q : Option Value → Heap → List Loc → Prop} {k n : Nat} {g g' : JFrame}
theorem own_via (st : ∀ t, Steps p.tables e below (T'.setTop g') t → Steps p.tables e below (T.setTop g) t) (h : own_E p e below s Q k n T' g') : own_E p e below s Q k n T g := by
  obtain ⟨U, o, h1, r⟩ := h
  exact ⟨U, o, st U h1, r⟩
theorem own_thru (st : Steps p.tables e below (T.setTop g) (T'.setTop g')) (h : own_E p e below s Q k n T' g') : own_E p e below s Q k n T g := own_via (fun _ k => st.trans k) h
theorem own_retN (X : Stand p l e R s m args below meth c T locs cells slots) (hx : p.tables.exec = Jvm.exec) (hlk : meth.locks = false) {pc : Nat} {Ls : Array Slot} {z : Int32} {t : FieldType} {rest : List Value} (hret : meth.sig.returnType = some t) (ht : t = .boolean ∨ t = .byte ∨ t = .char ∨ t = .short)
    (hd : decode c.code pc = .ok (.ireturn, 1)) (hk : cells ≤ k) (hn : slots ≤ n) (hQ : Q (some (.int (nar t z))) T.heap locs) : own_E p e below s Q k n T (mkF m pc Ls (.int z :: rest)) := by
  obtain ⟨fs, hr, hrun, hended, hW, hsame⟩ := X.leave (v := some (.int (nar t z))) (fun h => by rw [hret] at h; cases h) hlk
  exact ⟨_, _, retN X hx hret ht hd hr, hrun, hended, _, _, rfl, hQ, ⟨_, rfl⟩, hW, hsame.mono hk hn⟩
theorem own_ret (X : Stand p l e R s m args below meth c T locs cells slots) (hx : p.tables.exec = Jvm.exec) (hlk : meth.locks = false) {pc : Nat} {Ls : Array Slot} {w : Value} {t : FieldType} {i : Instr} {rest : List Value} (hret : meth.sig.returnType = some t) (hnr : narrow t w = w)
    (hi : (i = .ireturn ∧ (t = .int ∨ t = .boolean ∨ t = .byte ∨ t = .char ∨ t = .short) ∧ ∃ z, w = .int z) ∨ (i = .lreturn ∧ t = .long ∧ ∃ z, w = .long z) ∨ (i = .dreturn ∧ t = .double ∧ ∃ z, w = .double z) ∨ (i = .freturn ∧ t = .float ∧ ∃ z, w = .float z) ∨ (i = .areturn ∧ t.isReference = true ∧ w.isRef = true))
    (hd : decode c.code pc = .ok (i, 1)) (hk : cells ≤ k) (hn : slots ≤ n) (hQ : Q (some w) T.heap locs) : own_E p e below s Q k n T (mkF m pc Ls (w :: rest)) := by
  obtain ⟨fs, hr, hrun, hended, hW, hsame⟩ := X.leave (v := some w) (fun h => by rw [hret] at h; cases h) hlk
  exact ⟨_, _, retOut X hx hret hnr hi hd hr, hrun, hended, _, _, rfl, hQ, ⟨_, rfl⟩, hW, hsame.mono hk hn⟩
theorem own_retV (X : Stand p l e R s m args below meth c T locs cells slots) (hx : p.tables.exec = Jvm.exec) (hlk : meth.locks = false) {pc : Nat} {Ls : Array Slot} (hret : meth.sig.returnType = none)
    (hd : decode c.code pc = .ok (.return_, 1)) (hk : cells ≤ k) (hn : slots ≤ n) (hQ : Q none T.heap locs) : own_E p e below s Q k n T (mkF m pc Ls []) := by
  obtain ⟨fs, hr, hrun, hended, hW, hsame⟩ := X.leave (v := none) (fun _ => rfl) hlk
  exact ⟨_, _, X.returnOut hx hret hd hr, hrun, hended, _, _, rfl, hQ, ⟨_, rfl⟩, hW, hsame.mono hk hn⟩
end Own
def own_ushr (x y : Int32) : Int32 := (x.toUInt32 >>> (y &&& 31).toUInt32).toInt32
def own_ushrL (x : Int64) (y : Int32) : Int64 := (x.toUInt64 >>> (y &&& 0x3f).toInt64.toUInt64).toInt64
/-- a field of an old object, said by the case to hold an int -/
theorem own_fldI {Z : State} {args : Array Value} {t : Term} {C n d : String} {a : Addr} {k : Int32} (ev : t.eval args Z none [] Z = some (.ref a)) (h : (Cond.eq (.field t C n d) (.int k)).value args Z none Z [] = some true) : Fld Z Z.heap a C n d (.int k) := by
  obtain ⟨x, y, h1, h2, k1, k2⟩ := cmp_v (Or.inl h)
  obtain rfl : y = .int k := (Option.some.inj h2).symm
  obtain ⟨z, rfl⟩ : ∃ z, x = .int z := k2
  have e := gotT (Cond.eq_ints h1 h2) h
  subst e
  rw [fld_at ev] at h1
  exact Fld.start h1
/-- a field of an old object, said by the case to hold what another term names (a reference) -/
theorem own_fldR {Z : State} {args : Array Value} {t u : Term} {C n d : String} {a b : Addr} (ev : t.eval args Z none [] Z = some (.ref a)) (eu : u.eval args Z none [] Z = some (.ref b)) (h : (Cond.eq (.field t C n d) u).value args Z none Z [] = some true) : Fld Z Z.heap a C n d (.ref b) := by
  obtain ⟨x, y, h1, h2, k1, k2⟩ := cmp_v (Or.inl h)
  obtain rfl : y = .ref b := Option.some.inj (h2.symm.trans eu)
  have hx : x.isRef = true := k2.2
  have q := gotT (eq_R h1 h2 hx rfl) h
  subst q
  rw [fld_at ev] at h1
  exact Fld.start h1
section OwnArr
variable {p : Program} {l : Launch} {e : Env} {R : Room} {s : State} {m : MethodId} {args : Array Value} {below : List Frame} {meth : Method} {c : Code} {T T' : State} {locs : List Loc} {cells slots : Nat} {Z : State} {h h' : Heap} {a b : Addr} {ty : FieldType} {N : Nat} {f : Nat → Int32}
/-- an array of N ints of a small kind, whose i-th holds f i -/
def own_Ar (Z : State) (h : Heap) (a : Addr) (ty : FieldType) (N : Nat) (f : Nat → Int32) : Prop := ∃ cl : Cell, Arr Z h a cl ty ∧ cl.slots.size = N ∧ ∀ i, i < N → cl.slots[i]? = some (.int (f i))
theorem own_Ar.lt (F : own_Ar Z h a ty N f) : a < h.size := by obtain ⟨cl, A, -⟩ := F; exact A.lt
theorem own_Ar.ext (F : own_Ar Z h a ty N f) (E : Ext h h') : own_Ar Z h' a ty N f := by obtain ⟨cl, A, r⟩ := F; exact ⟨cl, A.ext E, r⟩
theorem own_Ar.other {sl : Nat} {v : Value} (F : own_Ar Z h a ty N f) (W : Wr h h' b sl v) (q : a ≠ b) : own_Ar Z h' a ty N f := by obtain ⟨cl, A, r⟩ := F; exact ⟨cl, A.other W q, r⟩
theorem own_Ar.keep {ws : List Addr} (F : own_Ar Z h a ty N f) (K : Keep h h' ws) (q : a ∉ ws) : own_Ar Z h' a ty N f := by obtain ⟨cl, A, r⟩ := F; exact ⟨cl, ⟨K.2.1 a cl A.1 q, A.2⟩, r⟩
theorem own_Ar.congr {g : Nat → Int32} (F : own_Ar Z h a ty N f) (q : ∀ i, i < N → f i = g i) : own_Ar Z h a ty N g := by obtain ⟨cl, A, S, H⟩ := F; exact ⟨cl, A, S, fun i hi => by rw [H i hi, q i hi]⟩
theorem own_Ar.new {k : ClassId} {z : Int32} (A : Arr Z h a (newA k ty z) ty) (hz : z.toNatClampNeg = N) (hd : defaultValue ty = .int 0) : own_Ar Z h a ty N (fun _ => 0) :=
  ⟨_, A, by rw [sz_new, hz], fun i hi => by simp [newA, hz, hi, hd]⟩
def own_upd (f : Nat → Int32) (j : Nat) (x : Int32) (i : Nat) : Int32 := if i = j then x else f i
theorem own_Ar.wr {cl : Cell} {jn : Nat} {x : Int32} (A : Arr Z h a cl ty) (S : cl.slots.size = N) (H : ∀ i, i < N → cl.slots[i]? = some (.int (f i))) (W : Wr h h' a jn (.int x)) (hj : jn < N) : own_Ar Z h' a ty N (own_upd f jn x) := by
  refine ⟨_, A.same W, by rw [sz_set]; exact S, fun i hi => ?_⟩
  by_cases q : i = jn
  · subst q; simp [Cell.setSlot, own_upd, S, hi]
  · have := H i hi
    simp only [Cell.setSlot, own_upd, if_neg q]
    rw [Array.getElem?_setIfInBounds_ne (Ne.symm q)]; exact this
theorem own_caload (X : Stand p l e R s m args below meth c T locs cells slots) (hx : p.tables.exec = Jvm.exec) (hZ : Z.Warmed39 s.vm) (eT : T.heap = h) (F : own_Ar Z h a .char N f) (hN : N < 2 ^ 31) {jn : Nat} (hj : jn < N) {j : Int32} (ej : j = Int32.ofNat jn)
    {g : JFrame} (hg : g.method = m) {rest : List Value} (hs : g.stack = .int j :: .ref a :: rest) (hd : decode c.code g.pc = .ok (.caload, 1)) :
    ∀ t, Steps p.tables e below (T.setTop { g with pc := g.pc + 1, stack := .int (f jn) :: rest }) t → Steps p.tables e below (T.setTop g) t := by
  obtain ⟨cl, A, S, H⟩ := F
  exact X.caload hx (by rw [eT]; exact A.1) (State.isArrayOf_alike hZ.alike A.2.1) A.2.2 (by rw [S]; exact within ej hj hN) (by rw [clamp_of ej (by omega)]; exact H _ hj) hg hs hd
theorem own_baloadZ (X : Stand p l e R s m args below meth c T locs cells slots) (hx : p.tables.exec = Jvm.exec) (hZ : Z.Warmed39 s.vm) (eT : T.heap = h) (F : own_Ar Z h a .boolean N f) (hN : N < 2 ^ 31) {jn : Nat} (hj : jn < N) {j : Int32} (ej : j = Int32.ofNat jn)
    {g : JFrame} (hg : g.method = m) {rest : List Value} (hs : g.stack = .int j :: .ref a :: rest) (hd : decode c.code g.pc = .ok (.baload, 1)) :
    ∀ t, Steps p.tables e below (T.setTop { g with pc := g.pc + 1, stack := .int (f jn) :: rest }) t → Steps p.tables e below (T.setTop g) t := by
  obtain ⟨cl, A, S, H⟩ := F
  exact X.baloadBooleans hx (by rw [eT]; exact A.1) (State.isArrayOf_alike hZ.alike A.2.1) A.2.2 (by rw [S]; exact within ej hj hN) (by rw [clamp_of ej (by omega)]; exact H _ hj) hg hs hd
theorem own_alen (X : Stand p l e R s m args below meth c T locs cells slots) (hx : p.tables.exec = Jvm.exec) (hZ : Z.Warmed39 s.vm) (eT : T.heap = h) (F : own_Ar Z h a ty N f)
    {g : JFrame} (hg : g.method = m) {rest : List Value} (hs : g.stack = .ref a :: rest) (hd : decode c.code g.pc = .ok (.arraylength, 1)) :
    ∀ t, Steps p.tables e below (T.setTop { g with pc := g.pc + 1, stack := .int (Int32.ofNat N) :: rest }) t → Steps p.tables e below (T.setTop g) t := by
  obtain ⟨cl, A, S, H⟩ := F
  subst S
  exact X.arraylength hx (by rw [eT]; exact A.1) (State.isArrayOf_alike hZ.alike A.2.1) hg hs hd
theorem own_castore (X : Stand p l e R s m args below meth c T locs cells slots) (hx : p.tables.exec = Jvm.exec) (hZ : Z.Warmed39 s.vm) (eT : T.heap = h) (F : own_Ar Z h a .char N f) (hN : N < 2 ^ 31) {jn : Nat} (hj : jn < N) {j x : Int32} (ej : j = Int32.ofNat jn)
    {g : JFrame} (hg : g.method = m) {rest : List Value} (hs : g.stack = .int x :: .int j :: .ref a :: rest) (hd : decode c.code g.pc = .ok (.castore, 1)) {n0 : Nat} (N0 : Fr n0 locs) (hge : n0 ≤ a) :
    ∃ T' h', Stand p l e R s m args below meth c T' (locs ++ [⟨a, jn⟩]) cells slots ∧ T'.heap = h' ∧ own_Ar Z h' a .char N (own_upd f jn (nar .char x)) ∧ Wr h h' a jn (.int (nar .char x)) ∧ Fr n0 (locs ++ [⟨a, jn⟩]) ∧ ∀ t, Steps p.tables e below (T'.setTop { g with pc := g.pc + 1, stack := rest }) t → Steps p.tables e below (T.setTop g) t := by
  obtain ⟨cl, A, S, H⟩ := F
  obtain ⟨T', h', X', e', W, st⟩ := stC X hx hZ eT A (by rw [S]; exact within ej hj hN) hg hs hd
  rw [clamp_of ej (by omega)] at X' W
  exact ⟨T', h', X', e', own_Ar.wr A S H W hj, W, Fr.snoc X' N0 hge, st⟩
end OwnArr
theorem own_num {i : Nat} (h : i < 2147483648) : (Int32.ofNat i).toInt = (i : Int) := Int32.toInt_ofNat_small h
theorem own_lt {i n : Nat} (hi : i < 2147483648) (hn : n < 2147483648) : Int32.ofNat i < Int32.ofNat n ↔ i < n := by
  rw [Int32.lt_iff_toInt_lt, own_num hi, own_num hn]; omega
theorem own_one (i : Nat) : Int32.ofNat i + (1 : Int32) = Int32.ofNat (i + 1) := (Int32.ofNat_add i 1).symm
def own_P (c : Int32) : Prop := (¬ c < 48 ∧ ¬ 57 < c) ∨ (¬ c < 65 ∧ ¬ 90 < c) ∨ (¬ c < 97 ∧ ¬ 122 < c) ∨ c = 32 ∨ c = 47 ∨ c = 45 ∨ c = 63 ∨ c = 58 ∨ c = 40 ∨ c = 41 ∨ c = 46 ∨ c = 44 ∨ c = 39 ∨ c = 43
instance (c : Int32) : Decidable (own_P c) := by unfold own_P; infer_instance
def own_okV (c : Int32) : Int32 := if own_P c then 1 else 0
theorem own_okV_b (c : Int32) : nar .boolean (own_okV c) = own_okV c := by
  by_cases h : own_P c
  · rw [own_okV, if_pos h]; rfl
  · rw [own_okV, if_neg h]; rfl
theorem own_okV_0 (c : Int32) : own_okV c = 0 ↔ ¬ own_P c := by
  by_cases h : own_P c
  · rw [own_okV, if_pos h]; exact ⟨fun q => absurd q (by decide), fun q => absurd h q⟩
  · rw [own_okV, if_neg h]; exact ⟨fun _ => h, fun _ => rfl⟩
theorem own_P_small {c : Int32} (h : own_P c) : c < 128 := by
  rcases h with h | h | h | h | h | h | h | h | h | h | h | h | h | h
  all_goals first | (subst h; decide) | (obtain ⟨h1, h2⟩ := h; rw [Int32.lt_iff_toInt_lt] at *; have e1 : (57 : Int32).toInt = 57 := by decide
                                         have e2 : (90 : Int32).toInt = 90 := by decide
                                         have e3 : (122 : Int32).toInt = 122 := by decide
                                         have e4 : (128 : Int32).toInt = 128 := by decide
                                         omega)
def own_tab (j : Nat) : Int32 := if j < 32 then 0 else if j < 33 then 1 else if j < 39 then 0 else if j < 42 then 1 else if j < 43 then 0 else if j < 59 then 1 else if j < 63 then 0 else if j < 64 then 1 else if j < 65 then 0 else if j < 91 then 1 else if j < 97 then 0 else if j < 123 then 1 else 0
theorem own_tab_ok' : ∀ j : Fin 128, own_tab j.1 = own_okV (Int32.ofNat j.1) := by decide +kernel
theorem own_tab_ok {j : Nat} (h : j < 128) : own_tab j = own_okV (Int32.ofNat j) := own_tab_ok' ⟨j, h⟩
theorem own_idx {c : Int32} (h0 : ¬ c < 0) (h : c < 128) : ∃ j : Nat, j < 128 ∧ c = Int32.ofNat j := by
  refine ⟨c.toNatClampNeg, ?_, (back32 h0).1.symm⟩
  rw [Int32.lt_iff_toInt_lt] at h h0
  have e4 : (128 : Int32).toInt = 128 := by decide
  have e0 : (0 : Int32).toInt = 0 := by decide
  simp only [Int32.toNatClampNeg]; omega
/-- what holdsOnly comes to: k places from place i on -/
def own_all (f : Nat → Int32) : Nat → Nat → Int32
  | _, 0 => 1
  | i, k + 1 => if own_P (f i) then own_all f (i + 1) k else 0
def own_at (j s e c : Int32) : Int32 := if j < s then 1 else if j < e then own_okV c else 1
theorem own_at_b (j s e c : Int32) : nar .boolean (own_at j s e c) = own_at j s e c := by
  unfold own_at
  split
  · rfl
  · split
    · exact own_okV_b c
    · rfl
def own_exp (f : Nat → Int32) (s e : Int32) : Int32 := if own_at 0 s e (f 0) = 0 then 0 else if own_at 1 s e (f 1) = 0 then 0 else if own_at 2 s e (f 2) = 0 then 0 else if own_at 3 s e (f 3) = 0 then 0 else 1
theorem own_at_yes {j s e c : Int32} (h1 : ¬ j < s) (h2 : j < e) : (own_at j s e c = 0) = ¬ own_P c := by
  rw [own_at, if_neg h1, if_pos h2, own_okV_0]
theorem own_at_lo {j s e c : Int32} (h1 : j < s) : (own_at j s e c = 0) = False := by
  rw [own_at, if_pos h1]; exact eq_false (by decide)
theorem own_at_hi {j s e c : Int32} (h1 : ¬ j < s) (h2 : ¬ j < e) : (own_at j s e c = 0) = False := by
  rw [own_at, if_neg h1, if_neg h2]; exact eq_false (by decide)
theorem own_fin (f : Nat → Int32) {sn en : Nat} (h : sn ≤ en) (h4 : en ≤ 4) : own_all f sn (en - sn) = own_exp f (Int32.ofNat sn) (Int32.ofNat en) := by
  have hs : sn = 0 ∨ sn = 1 ∨ sn = 2 ∨ sn = 3 ∨ sn = 4 := by omega
  have he : en = 0 ∨ en = 1 ∨ en = 2 ∨ en = 3 ∨ en = 4 := by omega
  rcases hs with rfl | rfl | rfl | rfl | rfl <;> rcases he with rfl | rfl | rfl | rfl | rfl <;> first
    | (exfalso; omega)
    | (simp only [own_exp, own_all, Nat.reduceSub, Nat.reduceAdd]
       by_cases p0 : own_P (f 0) <;> by_cases p1 : own_P (f 1) <;> by_cases p2 : own_P (f 2) <;> by_cases p3 : own_P (f 3)
       all_goals simp +decide [own_at, own_okV_0, p0, p1, p2, p3])
def own_min (x y : Int32) : Int32 := if y < x then y else x
def own_max (x y : Int32) : Int32 := if x < y then y else x
theorem own_mm {a b : Nat} (ha : a ≤ 4) (hb : b ≤ 4) : ∃ sn en : Nat, sn ≤ en ∧ en ≤ 4 ∧ own_min (Int32.ofNat a) (Int32.ofNat b) = Int32.ofNat sn ∧ own_max (Int32.ofNat a) (Int32.ofNat b) = Int32.ofNat en := by
  unfold own_min own_max
  by_cases h : b < a
  · have h2 : ¬ Int32.ofNat a < Int32.ofNat b := fun q => by rw [own_lt (by omega) (by omega)] at q; omega
    exact ⟨b, a, by omega, ha, by rw [if_pos ((own_lt (by omega) (by omega)).mpr h)], by rw [if_neg h2]⟩
  · have h1 : ¬ Int32.ofNat b < Int32.ofNat a := fun q => by rw [own_lt (by omega) (by omega)] at q; omega
    by_cases h2 : a < b
    · exact ⟨a, b, by omega, hb, by rw [if_neg h1], by rw [if_pos ((own_lt (by omega) (by omega)).mpr h2)]⟩
    · have h3 : ¬ Int32.ofNat a < Int32.ofNat b := fun q => by rw [own_lt (by omega) (by omega)] at q; omega
      exact ⟨a, a, by omega, ha, by rw [if_neg h1], by rw [if_neg h3]⟩
theorem own_rem5 (x : Int32) : ∃ n : Nat, n ≤ 4 ∧ ((x &&& (7 : Int32)) % (5 : Int32)) = Int32.ofNat n := by
  have hk : ∀ k : Fin 8, ∃ n : Nat, n ≤ 4 ∧ (Int32.ofNat k.1 % (5 : Int32)) = Int32.ofNat n := by
    intro k
    refine ⟨k.1 % 5, by omega, ?_⟩
    revert k; decide +kernel
  have e : (x &&& (7 : Int32)) = Int32.ofNat (x &&& 7).toBitVec.toNat := by
    apply Int32.toBitVec_inj.mp
    show _ = BitVec.ofNat 32 _
    rw [BitVec.ofNat_toNat]; simp
  have hb : (x &&& 7).toBitVec.toNat < 8 := by
    have : (x &&& 7).toBitVec.toNat ≤ 7 := by
      simp only [Int32.toBitVec_and, BitVec.toNat_and]
      exact Nat.and_le_right
    omega
  rw [e]; exact hk ⟨_, hb⟩
theorem own_nn (x : Int32) : ¬ nar .char x < 0 := by
  have h := fits_nar_char x
  simp only [fits, Bool.and_eq_true, decide_eq_true_eq] at h
  exact Int32.not_lt.mpr h.1
theorem own_upd_nn {f : Nat → Int32} {j : Nat} {x : Int32} (hf : ∀ i, ¬ f i < 0) (hx : ¬ x < 0) : ∀ i, ¬ own_upd f j x i < 0 := fun i => by
  unfold own_upd; split
  · exact hx
  · exact hf i
theorem d1_0 : decode jdk_29_method_69_code 0 = .ok (.iload_n 0, 1) := by decide +kernel
theorem d1_1 : decode jdk_29_method_69_code 1 = .ok (.iload_n 1, 1) := by decide +kernel
theorem d1_2 : decode jdk_29_method_69_code 2 = .ok (.if_icmp .gt 7, 3) := by decide +kernel
theorem d1_5 : decode jdk_29_method_69_code 5 = .ok (.iload_n 0, 1) := by decide +kernel
theorem d1_6 : decode jdk_29_method_69_code 6 = .ok (.goto 4, 3) := by decide +kernel
theorem d1_9 : decode jdk_29_method_69_code 9 = .ok (.iload_n 1, 1) := by decide +kernel
theorem d1_10 : decode jdk_29_method_69_code 10 = .ok (.ireturn, 1) := by decide +kernel
theorem ef_1 (m : MethodId) (x0 : Int32) (x1 : Int32) : entryFrame m #[(.int x0), (.int x1)] 2 = mkF m 0 #[.val (.int x0), .val (.int x1)] [] := by first | (simp [entryFrame, mkF, argsToLocals, Value.category]; done) | rfl
theorem pd_1 : parseMethodDescriptor "(II)I" = some ⟨[.int, .int], some .int⟩ := by decide +kernel
def QI (r : Int32) (h0 : Heap) (n0 : Nat) (v : Option Value) (h : Heap) (L : List Loc) : Prop := v = some (.int r) ∧ Fr n0 L ∧ h = h0
set_option maxRecDepth 65536 in
set_option maxHeartbeats 40000000 in
theorem rm1 (l : Launch) (Z : State) (a0 : Array Value) (hw : ∀ d ∈ tables_1, d.before a0 Z = true) (ws : List Jvm.Cond) (x y : Int32) (h0 : Heap) (n0 : Nat) (Z0 : n0 ≤ h0.size) :
    MetFree l (⟨"java/lang/Math", "min", "(II)I"⟩ : MethodName) (head1 (Jvm.Cond.code (⟨"java/lang/Math", "min", "(II)I"⟩ : MethodName) jdk_29_method_69_code 2 (some .int) :: ws) ({ frames := 0, cells := 0, slots := 0, locals := 0 } : Room)) (fun a U => a = #[(.int x), (.int y)] ∧ Z.Warmed39 U.vm ∧ U.heap = h0) (fun _ _ _ _ _ => True) (fun _ U o U' => ∃ v L, o = .returned v ∧ QI (own_min x y) h0 n0 v U'.heap L ∧ FrameEnd U o U' L ({ frames := 0, cells := 0, slots := 0, locals := 0 } : Room).cells ({ frames := 0, cells := 0, slots := 0, locals := 0 } : Room).slots) := by
  refine MetFree.of_bodySF (Jvm.Free.JP.mathPlain rfl (by decide +kernel)) hisR ?_
  intro p e s m args below meth c s₁ Bd hml0 hP hK
  obtain ⟨rfl, hZ, hh⟩ := hP
  have hx := Bd.exec
  have hby := Bd.bytes
  have hlk := Bd.notSynchronized
  have hml : c.maxLocals = 2 := hml0
  have hown : s.vm.findClass "java/lang/Math" = some m.cls := findClass_of_methodNamed Bd.named
  have hnm := (name_of_methodNamed Bd.named Bd.method).1
  have X0 : Stand p l e ({ frames := 0, cells := 0, slots := 0, locals := 0 } : Room) s m #[(.int x), (.int y)] below meth c s₁ [] 0 0 := Stand.of_body Bd
  have e0 : s₁.heap = h0 := by rw [← hh, Bd.state]; rfl
  have N0 := Fr.nil n0
  show own_E p e below s (QI (own_min x y) h0 n0) _ _ s₁ (entryFrame m #[(.int x), (.int y)] 2)
  rw [ef_1]
  show own_E _ _ _ _ _ _ _ s₁ (mkF m 0 #[.val (.int x), .val (.int y)] [])
  refine own_via (fun t => XS.iloadN X0.here hx rfl (hb hby d1_0) rfl) ?_
  show own_E _ _ _ _ _ _ _ s₁ (mkF m 1 #[.val (.int x), .val (.int y)] [(.int x)])
  refine own_via (fun t => XS.iloadN X0.here hx rfl (hb hby d1_1) rfl) ?_
  show own_E _ _ _ _ _ _ _ s₁ (mkF m 2 #[.val (.int x), .val (.int y)] [(.int y), (.int x)])
  by_cases c2_1 : y < x
  · refine own_via (fun t => XS.icmpYes X0.here hx rfl (pc0 := 2) (pc' := 9) rfl (hb hby d1_2) rfl (tlt c2_1).2.2.1 (by decide) (by decide)) ?_
    show own_E _ _ _ _ _ _ _ s₁ (mkF m 9 #[.val (.int x), .val (.int y)] [])
    refine own_via (fun t => XS.iloadN X0.here hx rfl (hb hby d1_9) rfl) ?_
    show own_E _ _ _ _ _ _ _ s₁ (mkF m 10 #[.val (.int x), .val (.int y)] [(.int y)])
    exact own_ret X0 hx hlk Bd.returns rfl (Or.inl ⟨rfl, Or.inl rfl, _, rfl⟩) (hb hby d1_10) (Nat.le_refl _) (Nat.le_refl _) ⟨by rw [own_min, if_pos c2_1], N0, e0⟩
  · refine own_via (fun t => XS.icmpNo X0.here hx rfl (hb hby d1_2) rfl (flt c2_1).2.2.1) ?_
    show own_E _ _ _ _ _ _ _ s₁ (mkF m 5 #[.val (.int x), .val (.int y)] [])
    refine own_via (fun t => XS.iloadN X0.here hx rfl (hb hby d1_5) rfl) ?_
    show own_E _ _ _ _ _ _ _ s₁ (mkF m 6 #[.val (.int x), .val (.int y)] [(.int x)])
    refine own_via (fun t => XS.goto X0.here hx rfl (pc0 := 6) (pc' := 10) rfl (hb hby d1_6) (by decide) (by decide)) ?_
    show own_E _ _ _ _ _ _ _ s₁ (mkF m 10 #[.val (.int x), .val (.int y)] [(.int x)])
    exact own_ret X0 hx hlk Bd.returns rfl (Or.inl ⟨rfl, Or.inl rfl, _, rfl⟩) (hb hby d1_10) (Nat.le_refl _) (Nat.le_refl _) ⟨by rw [own_min, if_neg c2_1], N0, e0⟩
theorem d2_0 : decode jdk_29_method_65_code 0 = .ok (.iload_n 0, 1) := by decide +kernel
theorem d2_1 : decode jdk_29_method_65_code 1 = .ok (.iload_n 1, 1) := by decide +kernel
theorem d2_2 : decode jdk_29_method_65_code 2 = .ok (.if_icmp .lt 7, 3) := by decide +kernel
theorem d2_5 : decode jdk_29_method_65_code 5 = .ok (.iload_n 0, 1) := by decide +kernel
theorem d2_6 : decode jdk_29_method_65_code 6 = .ok (.goto 4, 3) := by decide +kernel
theorem d2_9 : decode jdk_29_method_65_code 9 = .ok (.iload_n 1, 1) := by decide +kernel
theorem d2_10 : decode jdk_29_method_65_code 10 = .ok (.ireturn, 1) := by decide +kernel
theorem ef_2 (m : MethodId) (x0 : Int32) (x1 : Int32) : entryFrame m #[(.int x0), (.int x1)] 2 = mkF m 0 #[.val (.int x0), .val (.int x1)] [] := by first | (simp [entryFrame, mkF, argsToLocals, Value.category]; done) | rfl
set_option maxRecDepth 65536 in
set_option maxHeartbeats 40000000 in
theorem rm2 (l : Launch) (Z : State) (a0 : Array Value) (hw : ∀ d ∈ tables_1, d.before a0 Z = true) (ws : List Jvm.Cond) (x y : Int32) (h0 : Heap) (n0 : Nat) (Z0 : n0 ≤ h0.size) :
    MetFree l (⟨"java/lang/Math", "max", "(II)I"⟩ : MethodName) (head1 (Jvm.Cond.code (⟨"java/lang/Math", "max", "(II)I"⟩ : MethodName) jdk_29_method_65_code 2 (some .int) :: ws) ({ frames := 0, cells := 0, slots := 0, locals := 0 } : Room)) (fun a U => a = #[(.int x), (.int y)] ∧ Z.Warmed39 U.vm ∧ U.heap = h0) (fun _ _ _ _ _ => True) (fun _ U o U' => ∃ v L, o = .returned v ∧ QI (own_max x y) h0 n0 v U'.heap L ∧ FrameEnd U o U' L ({ frames := 0, cells := 0, slots := 0, locals := 0 } : Room).cells ({ frames := 0, cells := 0, slots := 0, locals := 0 } : Room).slots) := by
  refine MetFree.of_bodySF (Jvm.Free.JP.mathPlain rfl (by decide +kernel)) hisR ?_
  intro p e s m args below meth c s₁ Bd hml0 hP hK
  obtain ⟨rfl, hZ, hh⟩ := hP
  have hx := Bd.exec
  have hby := Bd.bytes
  have hlk := Bd.notSynchronized
  have hml : c.maxLocals = 2 := hml0
  have hown : s.vm.findClass "java/lang/Math" = some m.cls := findClass_of_methodNamed Bd.named
  have hnm := (name_of_methodNamed Bd.named Bd.method).1
  have X0 : Stand p l e ({ frames := 0, cells := 0, slots := 0, locals := 0 } : Room) s m #[(.int x), (.int y)] below meth c s₁ [] 0 0 := Stand.of_body Bd
  have e0 : s₁.heap = h0 := by rw [← hh, Bd.state]; rfl
  have N0 := Fr.nil n0
  show own_E p e below s (QI (own_max x y) h0 n0) _ _ s₁ (entryFrame m #[(.int x), (.int y)] 2)
  rw [ef_2]
  show own_E _ _ _ _ _ _ _ s₁ (mkF m 0 #[.val (.int x), .val (.int y)] [])
  refine own_via (fun t => XS.iloadN X0.here hx rfl (hb hby d2_0) rfl) ?_
  show own_E _ _ _ _ _ _ _ s₁ (mkF m 1 #[.val (.int x), .val (.int y)] [(.int x)])
  refine own_via (fun t => XS.iloadN X0.here hx rfl (hb hby d2_1) rfl) ?_
  show own_E _ _ _ _ _ _ _ s₁ (mkF m 2 #[.val (.int x), .val (.int y)] [(.int y), (.int x)])
  by_cases c2_2 : x < y
  · refine own_via (fun t => XS.icmpYes X0.here hx rfl (pc0 := 2) (pc' := 9) rfl (hb hby d2_2) rfl (tlt c2_2).1 (by decide) (by decide)) ?_
    show own_E _ _ _ _ _ _ _ s₁ (mkF m 9 #[.val (.int x), .val (.int y)] [])
    refine own_via (fun t => XS.iloadN X0.here hx rfl (hb hby d2_9) rfl) ?_
    show own_E _ _ _ _ _ _ _ s₁ (mkF m 10 #[.val (.int x), .val (.int y)] [(.int y)])
    exact own_ret X0 hx hlk Bd.returns rfl (Or.inl ⟨rfl, Or.inl rfl, _, rfl⟩) (hb hby d2_10) (Nat.le_refl _) (Nat.le_refl _) ⟨by rw [own_max, if_pos c2_2], N0, e0⟩
  · refine own_via (fun t => XS.icmpNo X0.here hx rfl (hb hby d2_2) rfl (flt c2_2).1) ?_
    show own_E _ _ _ _ _ _ _ s₁ (mkF m 5 #[.val (.int x), .val (.int y)] [])
    refine own_via (fun t => XS.iloadN X0.here hx rfl (hb hby d2_5) rfl) ?_
    show own_E _ _ _ _ _ _ _ s₁ (mkF m 6 #[.val (.int x), .val (.int y)] [(.int x)])
    refine own_via (fun t => XS.goto X0.here hx rfl (pc0 := 6) (pc' := 10) rfl (hb hby d2_6) (by decide) (by decide)) ?_
    show own_E _ _ _ _ _ _ _ s₁ (mkF m 10 #[.val (.int x), .val (.int y)] [(.int x)])
    exact own_ret X0 hx hlk Bd.returns rfl (Or.inl ⟨rfl, Or.inl rfl, _, rfl⟩) (hb hby d2_10) (Nat.le_refl _) (Nat.le_refl _) ⟨by rw [own_max, if_neg c2_2], N0, e0⟩
theorem d4_0 : decode method_4_code 0 = .ok (.iload_n 0, 1) := by decide +kernel
theorem d4_1 : decode method_4_code 1 = .ok (.bipush 48, 2) := by decide +kernel
theorem d4_3 : decode method_4_code 3 = .ok (.if_icmp .lt 11, 3) := by decide +kernel
theorem d4_6 : decode method_4_code 6 = .ok (.iload_n 0, 1) := by decide +kernel
theorem d4_7 : decode method_4_code 7 = .ok (.bipush 57, 2) := by decide +kernel
theorem d4_9 : decode method_4_code 9 = .ok (.if_icmp .gt 5, 3) := by decide +kernel
theorem d4_12 : decode method_4_code 12 = .ok (.iconst 1, 1) := by decide +kernel
theorem d4_13 : decode method_4_code 13 = .ok (.ireturn, 1) := by decide +kernel
theorem d4_14 : decode method_4_code 14 = .ok (.iload_n 0, 1) := by decide +kernel
theorem d4_15 : decode method_4_code 15 = .ok (.bipush 65, 2) := by decide +kernel
theorem d4_17 : decode method_4_code 17 = .ok (.if_icmp .lt 11, 3) := by decide +kernel
theorem d4_20 : decode method_4_code 20 = .ok (.iload_n 0, 1) := by decide +kernel
theorem d4_21 : decode method_4_code 21 = .ok (.bipush 90, 2) := by decide +kernel
theorem d4_23 : decode method_4_code 23 = .ok (.if_icmp .gt 5, 3) := by decide +kernel
theorem d4_26 : decode method_4_code 26 = .ok (.iconst 1, 1) := by decide +kernel
theorem d4_27 : decode method_4_code 27 = .ok (.ireturn, 1) := by decide +kernel
theorem d4_28 : decode method_4_code 28 = .ok (.iload_n 0, 1) := by decide +kernel
theorem d4_29 : decode method_4_code 29 = .ok (.bipush 97, 2) := by decide +kernel
theorem d4_31 : decode method_4_code 31 = .ok (.if_icmp .lt 11, 3) := by decide +kernel
theorem d4_34 : decode method_4_code 34 = .ok (.iload_n 0, 1) := by decide +kernel
theorem d4_35 : decode method_4_code 35 = .ok (.bipush 122, 2) := by decide +kernel
theorem d4_37 : decode method_4_code 37 = .ok (.if_icmp .gt 5, 3) := by decide +kernel
theorem d4_40 : decode method_4_code 40 = .ok (.iconst 1, 1) := by decide +kernel
theorem d4_41 : decode method_4_code 41 = .ok (.ireturn, 1) := by decide +kernel
theorem d4_42 : decode method_4_code 42 = .ok (.iload_n 0, 1) := by decide +kernel
theorem d4_43 : decode method_4_code 43 = .ok (.bipush 32, 2) := by decide +kernel
theorem d4_45 : decode method_4_code 45 = .ok (.if_icmp .eq 63, 3) := by decide +kernel
theorem d4_48 : decode method_4_code 48 = .ok (.iload_n 0, 1) := by decide +kernel
theorem d4_49 : decode method_4_code 49 = .ok (.bipush 47, 2) := by decide +kernel
theorem d4_51 : decode method_4_code 51 = .ok (.if_icmp .eq 57, 3) := by decide +kernel
theorem d4_54 : decode method_4_code 54 = .ok (.iload_n 0, 1) := by decide +kernel
theorem d4_55 : decode method_4_code 55 = .ok (.bipush 45, 2) := by decide +kernel
theorem d4_57 : decode method_4_code 57 = .ok (.if_icmp .eq 51, 3) := by decide +kernel
theorem d4_60 : decode method_4_code 60 = .ok (.iload_n 0, 1) := by decide +kernel
theorem d4_61 : decode method_4_code 61 = .ok (.bipush 63, 2) := by decide +kernel
theorem d4_63 : decode method_4_code 63 = .ok (.if_icmp .eq 45, 3) := by decide +kernel
theorem d4_66 : decode method_4_code 66 = .ok (.iload_n 0, 1) := by decide +kernel
theorem d4_67 : decode method_4_code 67 = .ok (.bipush 58, 2) := by decide +kernel
theorem d4_69 : decode method_4_code 69 = .ok (.if_icmp .eq 39, 3) := by decide +kernel
theorem d4_72 : decode method_4_code 72 = .ok (.iload_n 0, 1) := by decide +kernel
theorem d4_73 : decode method_4_code 73 = .ok (.bipush 40, 2) := by decide +kernel
theorem d4_75 : decode method_4_code 75 = .ok (.if_icmp .eq 33, 3) := by decide +kernel
theorem d4_78 : decode method_4_code 78 = .ok (.iload_n 0, 1) := by decide +kernel
theorem d4_79 : decode method_4_code 79 = .ok (.bipush 41, 2) := by decide +kernel
theorem d4_81 : decode method_4_code 81 = .ok (.if_icmp .eq 27, 3) := by decide +kernel
theorem d4_84 : decode method_4_code 84 = .ok (.iload_n 0, 1) := by decide +kernel
theorem d4_85 : decode method_4_code 85 = .ok (.bipush 46, 2) := by decide +kernel
theorem d4_87 : decode method_4_code 87 = .ok (.if_icmp .eq 21, 3) := by decide +kernel
theorem d4_90 : decode method_4_code 90 = .ok (.iload_n 0, 1) := by decide +kernel
theorem d4_91 : decode method_4_code 91 = .ok (.bipush 44, 2) := by decide +kernel
theorem d4_93 : decode method_4_code 93 = .ok (.if_icmp .eq 15, 3) := by decide +kernel
theorem d4_96 : decode method_4_code 96 = .ok (.iload_n 0, 1) := by decide +kernel
theorem d4_97 : decode method_4_code 97 = .ok (.bipush 39, 2) := by decide +kernel
theorem d4_99 : decode method_4_code 99 = .ok (.if_icmp .eq 9, 3) := by decide +kernel
theorem d4_102 : decode method_4_code 102 = .ok (.iload_n 0, 1) := by decide +kernel
theorem d4_103 : decode method_4_code 103 = .ok (.bipush 43, 2) := by decide +kernel
theorem d4_105 : decode method_4_code 105 = .ok (.if_icmp .ne 7, 3) := by decide +kernel
theorem d4_108 : decode method_4_code 108 = .ok (.iconst 1, 1) := by decide +kernel
theorem d4_109 : decode method_4_code 109 = .ok (.goto 4, 3) := by decide +kernel
theorem d4_112 : decode method_4_code 112 = .ok (.iconst 0, 1) := by decide +kernel
theorem d4_113 : decode method_4_code 113 = .ok (.ireturn, 1) := by decide +kernel
theorem pn_4 : plainName "com/example/poruka/poruka/fin/SwiftCharactersHoldsOnlyPinLaw" = true := by first | (simp [plainName, overriddenIn]; done) | decide +kernel
theorem ef_4 (m : MethodId) (x0 : Int32) : entryFrame m #[(.int x0)] 1 = mkF m 0 #[.val (.int x0)] [] := by first | (simp [entryFrame, mkF, argsToLocals, Value.category]; done) | rfl
theorem pd_4 : parseMethodDescriptor "(C)Z" = some ⟨[.char], some .boolean⟩ := by decide +kernel
set_option maxRecDepth 65536 in
set_option maxHeartbeats 40000000 in
theorem rm4 (l : Launch) (Z : State) (a0 : Array Value) (hw : ∀ d ∈ tables_1, d.before a0 Z = true) (ws : List Jvm.Cond) (x : Int32) (h0 : Heap) (n0 : Nat) (Z0 : n0 ≤ h0.size) :
    MetFree l (⟨"com/example/poruka/poruka/fin/SwiftCharactersHoldsOnlyPinLaw", "ok", "(C)Z"⟩ : MethodName) (head1 (Jvm.Cond.code (⟨"com/example/poruka/poruka/fin/SwiftCharactersHoldsOnlyPinLaw", "ok", "(C)Z"⟩ : MethodName) method_4_code 1 (some .boolean) :: ws) ({ frames := 0, cells := 0, slots := 0, locals := 0 } : Room)) (fun a U => a = #[(.int x)] ∧ Z.Warmed39 U.vm ∧ U.heap = h0) (fun _ _ _ _ _ => True) (fun _ U o U' => ∃ v L, o = .returned v ∧ QI (own_okV x) h0 n0 v U'.heap L ∧ FrameEnd U o U' L ({ frames := 0, cells := 0, slots := 0, locals := 0 } : Room).cells ({ frames := 0, cells := 0, slots := 0, locals := 0 } : Room).slots) := by
  refine MetFree.of_bodySF (plainFor_of_name pn_4) hisR ?_
  intro p e s m args below meth c s₁ Bd hml0 hP hK
  obtain ⟨rfl, hZ, hh⟩ := hP
  have hx := Bd.exec
  have hby := Bd.bytes
  have hlk := Bd.notSynchronized
  have hml : c.maxLocals = 1 := hml0
  have hown : s.vm.findClass "com/example/poruka/poruka/fin/SwiftCharactersHoldsOnlyPinLaw" = some m.cls := findClass_of_methodNamed Bd.named
  have hnm := (name_of_methodNamed Bd.named Bd.method).1
  have X0 : Stand p l e ({ frames := 0, cells := 0, slots := 0, locals := 0 } : Room) s m #[(.int x)] below meth c s₁ [] 0 0 := Stand.of_body Bd
  have e0 : s₁.heap = h0 := by rw [← hh, Bd.state]; rfl
  have N0 := Fr.nil n0
  show own_E p e below s (QI (own_okV x) h0 n0) _ _ s₁ (entryFrame m #[(.int x)] 1)
  rw [ef_4]
  have J42 : ¬ (¬ x < 48 ∧ ¬ 57 < x) → ¬ (¬ x < 65 ∧ ¬ 90 < x) → ¬ (¬ x < 97 ∧ ¬ 122 < x) → own_E p e below s (QI (own_okV x) h0 n0) 0 0 s₁ (mkF m 42 #[.val (.int x)] []) := by
    intro r1 r2 r3
    show own_E _ _ _ _ _ _ _ s₁ (mkF m 42 #[.val (.int x)] [])
    refine own_via (fun t => XS.iloadN X0.here hx rfl (hb hby d4_42) rfl) ?_
    show own_E _ _ _ _ _ _ _ s₁ (mkF m 43 #[.val (.int x)] [(.int x)])
    refine own_via (fun t => XS.bipush X0.here hx rfl (hb hby d4_43)) ?_
    show own_E _ _ _ _ _ _ _ s₁ (mkF m 45 #[.val (.int x)] [(.int (32 : Int32)), (.int x)])
    by_cases c45_3 : x = (32 : Int32)
    · refine own_via (fun t => XS.icmpYes X0.here hx rfl (pc0 := 45) (pc' := 108) rfl (hb hby d4_45) rfl (teq c45_3).1 (by decide) (by decide)) ?_
      show own_E _ _ _ _ _ _ _ s₁ (mkF m 108 #[.val (.int x)] [])
      refine own_via (fun t => XS.iconst X0.here hx rfl (hb hby d4_108)) ?_
      show own_E _ _ _ _ _ _ _ s₁ (mkF m 109 #[.val (.int x)] [(.int (1 : Int32))])
      refine own_via (fun t => XS.goto X0.here hx rfl (pc0 := 109) (pc' := 113) rfl (hb hby d4_109) (by decide) (by decide)) ?_
      show own_E _ _ _ _ _ _ _ s₁ (mkF m 113 #[.val (.int x)] [(.int (1 : Int32))])
      exact own_retN X0 hx hlk Bd.returns (Or.inl rfl) (hb hby d4_113) (Nat.le_refl _) (Nat.le_refl _) ⟨(congrArg (fun z => some (Value.int z)) (show (1 : Int32) = own_okV x from (if_pos (show own_P x from by subst c45_3; decide)).symm)), N0, e0⟩
    · refine own_via (fun t => XS.icmpNo X0.here hx rfl (hb hby d4_45) rfl (feq c45_3).1) ?_
      show own_E _ _ _ _ _ _ _ s₁ (mkF m 48 #[.val (.int x)] [])
      refine own_via (fun t => XS.iloadN X0.here hx rfl (hb hby d4_48) rfl) ?_
      show own_E _ _ _ _ _ _ _ s₁ (mkF m 49 #[.val (.int x)] [(.int x)])
      refine own_via (fun t => XS.bipush X0.here hx rfl (hb hby d4_49)) ?_
      show own_E _ _ _ _ _ _ _ s₁ (mkF m 51 #[.val (.int x)] [(.int (47 : Int32)), (.int x)])
      by_cases c51_4 : x = (47 : Int32)
      · refine own_via (fun t => XS.icmpYes X0.here hx rfl (pc0 := 51) (pc' := 108) rfl (hb hby d4_51) rfl (teq c51_4).1 (by decide) (by decide)) ?_
        show own_E _ _ _ _ _ _ _ s₁ (mkF m 108 #[.val (.int x)] [])
        refine own_via (fun t => XS.iconst X0.here hx rfl (hb hby d4_108)) ?_
        show own_E _ _ _ _ _ _ _ s₁ (mkF m 109 #[.val (.int x)] [(.int (1 : Int32))])
        refine own_via (fun t => XS.goto X0.here hx rfl (pc0 := 109) (pc' := 113) rfl (hb hby d4_109) (by decide) (by decide)) ?_
        show own_E _ _ _ _ _ _ _ s₁ (mkF m 113 #[.val (.int x)] [(.int (1 : Int32))])
        exact own_retN X0 hx hlk Bd.returns (Or.inl rfl) (hb hby d4_113) (Nat.le_refl _) (Nat.le_refl _) ⟨(congrArg (fun z => some (Value.int z)) (show (1 : Int32) = own_okV x from (if_pos (show own_P x from by subst c51_4; decide)).symm)), N0, e0⟩
      · refine own_via (fun t => XS.icmpNo X0.here hx rfl (hb hby d4_51) rfl (feq c51_4).1) ?_
        show own_E _ _ _ _ _ _ _ s₁ (mkF m 54 #[.val (.int x)] [])
        refine own_via (fun t => XS.iloadN X0.here hx rfl (hb hby d4_54) rfl) ?_
        show own_E _ _ _ _ _ _ _ s₁ (mkF m 55 #[.val (.int x)] [(.int x)])
        refine own_via (fun t => XS.bipush X0.here hx rfl (hb hby d4_55)) ?_
        show own_E _ _ _ _ _ _ _ s₁ (mkF m 57 #[.val (.int x)] [(.int (45 : Int32)), (.int x)])
        by_cases c57_5 : x = (45 : Int32)
        · refine own_via (fun t => XS.icmpYes X0.here hx rfl (pc0 := 57) (pc' := 108) rfl (hb hby d4_57) rfl (teq c57_5).1 (by decide) (by decide)) ?_
          show own_E _ _ _ _ _ _ _ s₁ (mkF m 108 #[.val (.int x)] [])
          refine own_via (fun t => XS.iconst X0.here hx rfl (hb hby d4_108)) ?_
          show own_E _ _ _ _ _ _ _ s₁ (mkF m 109 #[.val (.int x)] [(.int (1 : Int32))])
          refine own_via (fun t => XS.goto X0.here hx rfl (pc0 := 109) (pc' := 113) rfl (hb hby d4_109) (by decide) (by decide)) ?_
          show own_E _ _ _ _ _ _ _ s₁ (mkF m 113 #[.val (.int x)] [(.int (1 : Int32))])
          exact own_retN X0 hx hlk Bd.returns (Or.inl rfl) (hb hby d4_113) (Nat.le_refl _) (Nat.le_refl _) ⟨(congrArg (fun z => some (Value.int z)) (show (1 : Int32) = own_okV x from (if_pos (show own_P x from by subst c57_5; decide)).symm)), N0, e0⟩
        · refine own_via (fun t => XS.icmpNo X0.here hx rfl (hb hby d4_57) rfl (feq c57_5).1) ?_
          show own_E _ _ _ _ _ _ _ s₁ (mkF m 60 #[.val (.int x)] [])
          refine own_via (fun t => XS.iloadN X0.here hx rfl (hb hby d4_60) rfl) ?_
          show own_E _ _ _ _ _ _ _ s₁ (mkF m 61 #[.val (.int x)] [(.int x)])
          refine own_via (fun t => XS.bipush X0.here hx rfl (hb hby d4_61)) ?_
          show own_E _ _ _ _ _ _ _ s₁ (mkF m 63 #[.val (.int x)] [(.int (63 : Int32)), (.int x)])
          by_cases c63_6 : x = (63 : Int32)
          · refine own_via (fun t => XS.icmpYes X0.here hx rfl (pc0 := 63) (pc' := 108) rfl (hb hby d4_63) rfl (teq c63_6).1 (by decide) (by decide)) ?_
            show own_E _ _ _ _ _ _ _ s₁ (mkF m 108 #[.val (.int x)] [])
            refine own_via (fun t => XS.iconst X0.here hx rfl (hb hby d4_108)) ?_
            show own_E _ _ _ _ _ _ _ s₁ (mkF m 109 #[.val (.int x)] [(.int (1 : Int32))])
            refine own_via (fun t => XS.goto X0.here hx rfl (pc0 := 109) (pc' := 113) rfl (hb hby d4_109) (by decide) (by decide)) ?_
            show own_E _ _ _ _ _ _ _ s₁ (mkF m 113 #[.val (.int x)] [(.int (1 : Int32))])
            exact own_retN X0 hx hlk Bd.returns (Or.inl rfl) (hb hby d4_113) (Nat.le_refl _) (Nat.le_refl _) ⟨(congrArg (fun z => some (Value.int z)) (show (1 : Int32) = own_okV x from (if_pos (show own_P x from by subst c63_6; decide)).symm)), N0, e0⟩
          · refine own_via (fun t => XS.icmpNo X0.here hx rfl (hb hby d4_63) rfl (feq c63_6).1) ?_
            show own_E _ _ _ _ _ _ _ s₁ (mkF m 66 #[.val (.int x)] [])
            refine own_via (fun t => XS.iloadN X0.here hx rfl (hb hby d4_66) rfl) ?_
            show own_E _ _ _ _ _ _ _ s₁ (mkF m 67 #[.val (.int x)] [(.int x)])
            refine own_via (fun t => XS.bipush X0.here hx rfl (hb hby d4_67)) ?_
            show own_E _ _ _ _ _ _ _ s₁ (mkF m 69 #[.val (.int x)] [(.int (58 : Int32)), (.int x)])
            by_cases c69_7 : x = (58 : Int32)
            · refine own_via (fun t => XS.icmpYes X0.here hx rfl (pc0 := 69) (pc' := 108) rfl (hb hby d4_69) rfl (teq c69_7).1 (by decide) (by decide)) ?_
              show own_E _ _ _ _ _ _ _ s₁ (mkF m 108 #[.val (.int x)] [])
              refine own_via (fun t => XS.iconst X0.here hx rfl (hb hby d4_108)) ?_
              show own_E _ _ _ _ _ _ _ s₁ (mkF m 109 #[.val (.int x)] [(.int (1 : Int32))])
              refine own_via (fun t => XS.goto X0.here hx rfl (pc0 := 109) (pc' := 113) rfl (hb hby d4_109) (by decide) (by decide)) ?_
              show own_E _ _ _ _ _ _ _ s₁ (mkF m 113 #[.val (.int x)] [(.int (1 : Int32))])
              exact own_retN X0 hx hlk Bd.returns (Or.inl rfl) (hb hby d4_113) (Nat.le_refl _) (Nat.le_refl _) ⟨(congrArg (fun z => some (Value.int z)) (show (1 : Int32) = own_okV x from (if_pos (show own_P x from by subst c69_7; decide)).symm)), N0, e0⟩
            · refine own_via (fun t => XS.icmpNo X0.here hx rfl (hb hby d4_69) rfl (feq c69_7).1) ?_
              show own_E _ _ _ _ _ _ _ s₁ (mkF m 72 #[.val (.int x)] [])
              refine own_via (fun t => XS.iloadN X0.here hx rfl (hb hby d4_72) rfl) ?_
              show own_E _ _ _ _ _ _ _ s₁ (mkF m 73 #[.val (.int x)] [(.int x)])
              refine own_via (fun t => XS.bipush X0.here hx rfl (hb hby d4_73)) ?_
              show own_E _ _ _ _ _ _ _ s₁ (mkF m 75 #[.val (.int x)] [(.int (40 : Int32)), (.int x)])
              by_cases c75_8 : x = (40 : Int32)
              · refine own_via (fun t => XS.icmpYes X0.here hx rfl (pc0 := 75) (pc' := 108) rfl (hb hby d4_75) rfl (teq c75_8).1 (by decide) (by decide)) ?_
                show own_E _ _ _ _ _ _ _ s₁ (mkF m 108 #[.val (.int x)] [])
                refine own_via (fun t => XS.iconst X0.here hx rfl (hb hby d4_108)) ?_
                show own_E _ _ _ _ _ _ _ s₁ (mkF m 109 #[.val (.int x)] [(.int (1 : Int32))])
                refine own_via (fun t => XS.goto X0.here hx rfl (pc0 := 109) (pc' := 113) rfl (hb hby d4_109) (by decide) (by decide)) ?_
                show own_E _ _ _ _ _ _ _ s₁ (mkF m 113 #[.val (.int x)] [(.int (1 : Int32))])
                exact own_retN X0 hx hlk Bd.returns (Or.inl rfl) (hb hby d4_113) (Nat.le_refl _) (Nat.le_refl _) ⟨(congrArg (fun z => some (Value.int z)) (show (1 : Int32) = own_okV x from (if_pos (show own_P x from by subst c75_8; decide)).symm)), N0, e0⟩
              · refine own_via (fun t => XS.icmpNo X0.here hx rfl (hb hby d4_75) rfl (feq c75_8).1) ?_
                show own_E _ _ _ _ _ _ _ s₁ (mkF m 78 #[.val (.int x)] [])
                refine own_via (fun t => XS.iloadN X0.here hx rfl (hb hby d4_78) rfl) ?_
                show own_E _ _ _ _ _ _ _ s₁ (mkF m 79 #[.val (.int x)] [(.int x)])
                refine own_via (fun t => XS.bipush X0.here hx rfl (hb hby d4_79)) ?_
                show own_E _ _ _ _ _ _ _ s₁ (mkF m 81 #[.val (.int x)] [(.int (41 : Int32)), (.int x)])
                by_cases c81_9 : x = (41 : Int32)
                · refine own_via (fun t => XS.icmpYes X0.here hx rfl (pc0 := 81) (pc' := 108) rfl (hb hby d4_81) rfl (teq c81_9).1 (by decide) (by decide)) ?_
                  show own_E _ _ _ _ _ _ _ s₁ (mkF m 108 #[.val (.int x)] [])
                  refine own_via (fun t => XS.iconst X0.here hx rfl (hb hby d4_108)) ?_
                  show own_E _ _ _ _ _ _ _ s₁ (mkF m 109 #[.val (.int x)] [(.int (1 : Int32))])
                  refine own_via (fun t => XS.goto X0.here hx rfl (pc0 := 109) (pc' := 113) rfl (hb hby d4_109) (by decide) (by decide)) ?_
                  show own_E _ _ _ _ _ _ _ s₁ (mkF m 113 #[.val (.int x)] [(.int (1 : Int32))])
                  exact own_retN X0 hx hlk Bd.returns (Or.inl rfl) (hb hby d4_113) (Nat.le_refl _) (Nat.le_refl _) ⟨(congrArg (fun z => some (Value.int z)) (show (1 : Int32) = own_okV x from (if_pos (show own_P x from by subst c81_9; decide)).symm)), N0, e0⟩
                · refine own_via (fun t => XS.icmpNo X0.here hx rfl (hb hby d4_81) rfl (feq c81_9).1) ?_
                  show own_E _ _ _ _ _ _ _ s₁ (mkF m 84 #[.val (.int x)] [])
                  refine own_via (fun t => XS.iloadN X0.here hx rfl (hb hby d4_84) rfl) ?_
                  show own_E _ _ _ _ _ _ _ s₁ (mkF m 85 #[.val (.int x)] [(.int x)])
                  refine own_via (fun t => XS.bipush X0.here hx rfl (hb hby d4_85)) ?_
                  show own_E _ _ _ _ _ _ _ s₁ (mkF m 87 #[.val (.int x)] [(.int (46 : Int32)), (.int x)])
                  by_cases c87_10 : x = (46 : Int32)
                  · refine own_via (fun t => XS.icmpYes X0.here hx rfl (pc0 := 87) (pc' := 108) rfl (hb hby d4_87) rfl (teq c87_10).1 (by decide) (by decide)) ?_
                    show own_E _ _ _ _ _ _ _ s₁ (mkF m 108 #[.val (.int x)] [])
                    refine own_via (fun t => XS.iconst X0.here hx rfl (hb hby d4_108)) ?_
                    show own_E _ _ _ _ _ _ _ s₁ (mkF m 109 #[.val (.int x)] [(.int (1 : Int32))])
                    refine own_via (fun t => XS.goto X0.here hx rfl (pc0 := 109) (pc' := 113) rfl (hb hby d4_109) (by decide) (by decide)) ?_
                    show own_E _ _ _ _ _ _ _ s₁ (mkF m 113 #[.val (.int x)] [(.int (1 : Int32))])
                    exact own_retN X0 hx hlk Bd.returns (Or.inl rfl) (hb hby d4_113) (Nat.le_refl _) (Nat.le_refl _) ⟨(congrArg (fun z => some (Value.int z)) (show (1 : Int32) = own_okV x from (if_pos (show own_P x from by subst c87_10; decide)).symm)), N0, e0⟩
                  · refine own_via (fun t => XS.icmpNo X0.here hx rfl (hb hby d4_87) rfl (feq c87_10).1) ?_
                    show own_E _ _ _ _ _ _ _ s₁ (mkF m 90 #[.val (.int x)] [])
                    refine own_via (fun t => XS.iloadN X0.here hx rfl (hb hby d4_90) rfl) ?_
                    show own_E _ _ _ _ _ _ _ s₁ (mkF m 91 #[.val (.int x)] [(.int x)])
                    refine own_via (fun t => XS.bipush X0.here hx rfl (hb hby d4_91)) ?_
                    show own_E _ _ _ _ _ _ _ s₁ (mkF m 93 #[.val (.int x)] [(.int (44 : Int32)), (.int x)])
                    by_cases c93_11 : x = (44 : Int32)
                    · refine own_via (fun t => XS.icmpYes X0.here hx rfl (pc0 := 93) (pc' := 108) rfl (hb hby d4_93) rfl (teq c93_11).1 (by decide) (by decide)) ?_
                      show own_E _ _ _ _ _ _ _ s₁ (mkF m 108 #[.val (.int x)] [])
                      refine own_via (fun t => XS.iconst X0.here hx rfl (hb hby d4_108)) ?_
                      show own_E _ _ _ _ _ _ _ s₁ (mkF m 109 #[.val (.int x)] [(.int (1 : Int32))])
                      refine own_via (fun t => XS.goto X0.here hx rfl (pc0 := 109) (pc' := 113) rfl (hb hby d4_109) (by decide) (by decide)) ?_
                      show own_E _ _ _ _ _ _ _ s₁ (mkF m 113 #[.val (.int x)] [(.int (1 : Int32))])
                      exact own_retN X0 hx hlk Bd.returns (Or.inl rfl) (hb hby d4_113) (Nat.le_refl _) (Nat.le_refl _) ⟨(congrArg (fun z => some (Value.int z)) (show (1 : Int32) = own_okV x from (if_pos (show own_P x from by subst c93_11; decide)).symm)), N0, e0⟩
                    · refine own_via (fun t => XS.icmpNo X0.here hx rfl (hb hby d4_93) rfl (feq c93_11).1) ?_
                      show own_E _ _ _ _ _ _ _ s₁ (mkF m 96 #[.val (.int x)] [])
                      refine own_via (fun t => XS.iloadN X0.here hx rfl (hb hby d4_96) rfl) ?_
                      show own_E _ _ _ _ _ _ _ s₁ (mkF m 97 #[.val (.int x)] [(.int x)])
                      refine own_via (fun t => XS.bipush X0.here hx rfl (hb hby d4_97)) ?_
                      show own_E _ _ _ _ _ _ _ s₁ (mkF m 99 #[.val (.int x)] [(.int (39 : Int32)), (.int x)])
                      by_cases c99_12 : x = (39 : Int32)
                      · refine own_via (fun t => XS.icmpYes X0.here hx rfl (pc0 := 99) (pc' := 108) rfl (hb hby d4_99) rfl (teq c99_12).1 (by decide) (by decide)) ?_
                        show own_E _ _ _ _ _ _ _ s₁ (mkF m 108 #[.val (.int x)] [])
                        refine own_via (fun t => XS.iconst X0.here hx rfl (hb hby d4_108)) ?_
                        show own_E _ _ _ _ _ _ _ s₁ (mkF m 109 #[.val (.int x)] [(.int (1 : Int32))])
                        refine own_via (fun t => XS.goto X0.here hx rfl (pc0 := 109) (pc' := 113) rfl (hb hby d4_109) (by decide) (by decide)) ?_
                        show own_E _ _ _ _ _ _ _ s₁ (mkF m 113 #[.val (.int x)] [(.int (1 : Int32))])
                        exact own_retN X0 hx hlk Bd.returns (Or.inl rfl) (hb hby d4_113) (Nat.le_refl _) (Nat.le_refl _) ⟨(congrArg (fun z => some (Value.int z)) (show (1 : Int32) = own_okV x from (if_pos (show own_P x from by subst c99_12; decide)).symm)), N0, e0⟩
                      · refine own_via (fun t => XS.icmpNo X0.here hx rfl (hb hby d4_99) rfl (feq c99_12).1) ?_
                        show own_E _ _ _ _ _ _ _ s₁ (mkF m 102 #[.val (.int x)] [])
                        refine own_via (fun t => XS.iloadN X0.here hx rfl (hb hby d4_102) rfl) ?_
                        show own_E _ _ _ _ _ _ _ s₁ (mkF m 103 #[.val (.int x)] [(.int x)])
                        refine own_via (fun t => XS.bipush X0.here hx rfl (hb hby d4_103)) ?_
                        show own_E _ _ _ _ _ _ _ s₁ (mkF m 105 #[.val (.int x)] [(.int (43 : Int32)), (.int x)])
                        by_cases c105_13 : x = (43 : Int32)
                        · refine own_via (fun t => XS.icmpNo X0.here hx rfl (hb hby d4_105) rfl (teq c105_13).2) ?_
                          show own_E _ _ _ _ _ _ _ s₁ (mkF m 108 #[.val (.int x)] [])
                          refine own_via (fun t => XS.iconst X0.here hx rfl (hb hby d4_108)) ?_
                          show own_E _ _ _ _ _ _ _ s₁ (mkF m 109 #[.val (.int x)] [(.int (1 : Int32))])
                          refine own_via (fun t => XS.goto X0.here hx rfl (pc0 := 109) (pc' := 113) rfl (hb hby d4_109) (by decide) (by decide)) ?_
                          show own_E _ _ _ _ _ _ _ s₁ (mkF m 113 #[.val (.int x)] [(.int (1 : Int32))])
                          exact own_retN X0 hx hlk Bd.returns (Or.inl rfl) (hb hby d4_113) (Nat.le_refl _) (Nat.le_refl _) ⟨(congrArg (fun z => some (Value.int z)) (show (1 : Int32) = own_okV x from (if_pos (show own_P x from by subst c105_13; decide)).symm)), N0, e0⟩
                        · refine own_via (fun t => XS.icmpYes X0.here hx rfl (pc0 := 105) (pc' := 112) rfl (hb hby d4_105) rfl (feq c105_13).2 (by decide) (by decide)) ?_
                          show own_E _ _ _ _ _ _ _ s₁ (mkF m 112 #[.val (.int x)] [])
                          refine own_via (fun t => XS.iconst X0.here hx rfl (hb hby d4_112)) ?_
                          show own_E _ _ _ _ _ _ _ s₁ (mkF m 113 #[.val (.int x)] [(.int (0 : Int32))])
                          exact own_retN X0 hx hlk Bd.returns (Or.inl rfl) (hb hby d4_113) (Nat.le_refl _) (Nat.le_refl _) ⟨(congrArg (fun z => some (Value.int z)) (show (0 : Int32) = own_okV x from (if_neg (show ¬ own_P x from by unfold own_P; simp only [r1, r2, r3, c45_3, c51_4, c57_5, c63_6, c69_7, c75_8, c81_9, c87_10, c93_11, c99_12, c105_13, or_self, not_false_eq_true])).symm)), N0, e0⟩
  have J28 : ¬ (¬ x < 65 ∧ ¬ 90 < x) → ¬ (¬ x < 48 ∧ ¬ 57 < x) → own_E p e below s (QI (own_okV x) h0 n0) 0 0 s₁ (mkF m 28 #[.val (.int x)] []) := by
    intro r2 r1
    show own_E _ _ _ _ _ _ _ s₁ (mkF m 28 #[.val (.int x)] [])
    refine own_via (fun t => XS.iloadN X0.here hx rfl (hb hby d4_28) rfl) ?_
    show own_E _ _ _ _ _ _ _ s₁ (mkF m 29 #[.val (.int x)] [(.int x)])
    refine own_via (fun t => XS.bipush X0.here hx rfl (hb hby d4_29)) ?_
    show own_E _ _ _ _ _ _ _ s₁ (mkF m 31 #[.val (.int x)] [(.int (97 : Int32)), (.int x)])
    by_cases c31_14 : x < (97 : Int32)
    · refine own_via (fun t => XS.icmpYes X0.here hx rfl (pc0 := 31) (pc' := 42) rfl (hb hby d4_31) rfl (tlt c31_14).1 (by decide) (by decide)) ?_
      show own_E _ _ _ _ _ _ _ s₁ (mkF m 42 #[.val (.int x)] [])
      exact J42 r1 r2 (fun q => q.1 c31_14)
    · refine own_via (fun t => XS.icmpNo X0.here hx rfl (hb hby d4_31) rfl (flt c31_14).1) ?_
      show own_E _ _ _ _ _ _ _ s₁ (mkF m 34 #[.val (.int x)] [])
      refine own_via (fun t => XS.iloadN X0.here hx rfl (hb hby d4_34) rfl) ?_
      show own_E _ _ _ _ _ _ _ s₁ (mkF m 35 #[.val (.int x)] [(.int x)])
      refine own_via (fun t => XS.bipush X0.here hx rfl (hb hby d4_35)) ?_
      show own_E _ _ _ _ _ _ _ s₁ (mkF m 37 #[.val (.int x)] [(.int (122 : Int32)), (.int x)])
      by_cases c37_15 : (122 : Int32) < x
      · refine own_via (fun t => XS.icmpYes X0.here hx rfl (pc0 := 37) (pc' := 42) rfl (hb hby d4_37) rfl (tlt c37_15).2.2.1 (by decide) (by decide)) ?_
        show own_E _ _ _ _ _ _ _ s₁ (mkF m 42 #[.val (.int x)] [])
        exact J42 r1 r2 (fun q => q.2 c37_15)
      · refine own_via (fun t => XS.icmpNo X0.here hx rfl (hb hby d4_37) rfl (flt c37_15).2.2.1) ?_
        show own_E _ _ _ _ _ _ _ s₁ (mkF m 40 #[.val (.int x)] [])
        refine own_via (fun t => XS.iconst X0.here hx rfl (hb hby d4_40)) ?_
        show own_E _ _ _ _ _ _ _ s₁ (mkF m 41 #[.val (.int x)] [(.int (1 : Int32))])
        exact own_retN X0 hx hlk Bd.returns (Or.inl rfl) (hb hby d4_41) (Nat.le_refl _) (Nat.le_refl _) ⟨(congrArg (fun z => some (Value.int z)) (show (1 : Int32) = own_okV x from (if_pos (show own_P x from Or.inr (Or.inr (Or.inl ⟨c31_14, c37_15⟩)))).symm)), N0, e0⟩
  have J14 : ¬ (¬ x < 48 ∧ ¬ 57 < x) → own_E p e below s (QI (own_okV x) h0 n0) 0 0 s₁ (mkF m 14 #[.val (.int x)] []) := by
    intro r1
    show own_E _ _ _ _ _ _ _ s₁ (mkF m 14 #[.val (.int x)] [])
    refine own_via (fun t => XS.iloadN X0.here hx rfl (hb hby d4_14) rfl) ?_
    show own_E _ _ _ _ _ _ _ s₁ (mkF m 15 #[.val (.int x)] [(.int x)])
    refine own_via (fun t => XS.bipush X0.here hx rfl (hb hby d4_15)) ?_
    show own_E _ _ _ _ _ _ _ s₁ (mkF m 17 #[.val (.int x)] [(.int (65 : Int32)), (.int x)])
    by_cases c17_16 : x < (65 : Int32)
    · refine own_via (fun t => XS.icmpYes X0.here hx rfl (pc0 := 17) (pc' := 28) rfl (hb hby d4_17) rfl (tlt c17_16).1 (by decide) (by decide)) ?_
      show own_E _ _ _ _ _ _ _ s₁ (mkF m 28 #[.val (.int x)] [])
      exact J28 (fun q => q.1 c17_16) r1
    · refine own_via (fun t => XS.icmpNo X0.here hx rfl (hb hby d4_17) rfl (flt c17_16).1) ?_
      show own_E _ _ _ _ _ _ _ s₁ (mkF m 20 #[.val (.int x)] [])
      refine own_via (fun t => XS.iloadN X0.here hx rfl (hb hby d4_20) rfl) ?_
      show own_E _ _ _ _ _ _ _ s₁ (mkF m 21 #[.val (.int x)] [(.int x)])
      refine own_via (fun t => XS.bipush X0.here hx rfl (hb hby d4_21)) ?_
      show own_E _ _ _ _ _ _ _ s₁ (mkF m 23 #[.val (.int x)] [(.int (90 : Int32)), (.int x)])
      by_cases c23_17 : (90 : Int32) < x
      · refine own_via (fun t => XS.icmpYes X0.here hx rfl (pc0 := 23) (pc' := 28) rfl (hb hby d4_23) rfl (tlt c23_17).2.2.1 (by decide) (by decide)) ?_
        show own_E _ _ _ _ _ _ _ s₁ (mkF m 28 #[.val (.int x)] [])
        exact J28 (fun q => q.2 c23_17) r1
      · refine own_via (fun t => XS.icmpNo X0.here hx rfl (hb hby d4_23) rfl (flt c23_17).2.2.1) ?_
        show own_E _ _ _ _ _ _ _ s₁ (mkF m 26 #[.val (.int x)] [])
        refine own_via (fun t => XS.iconst X0.here hx rfl (hb hby d4_26)) ?_
        show own_E _ _ _ _ _ _ _ s₁ (mkF m 27 #[.val (.int x)] [(.int (1 : Int32))])
        exact own_retN X0 hx hlk Bd.returns (Or.inl rfl) (hb hby d4_27) (Nat.le_refl _) (Nat.le_refl _) ⟨(congrArg (fun z => some (Value.int z)) (show (1 : Int32) = own_okV x from (if_pos (show own_P x from Or.inr (Or.inl ⟨c17_16, c23_17⟩))).symm)), N0, e0⟩
  show own_E _ _ _ _ _ _ _ s₁ (mkF m 0 #[.val (.int x)] [])
  refine own_via (fun t => XS.iloadN X0.here hx rfl (hb hby d4_0) rfl) ?_
  show own_E _ _ _ _ _ _ _ s₁ (mkF m 1 #[.val (.int x)] [(.int x)])
  refine own_via (fun t => XS.bipush X0.here hx rfl (hb hby d4_1)) ?_
  show own_E _ _ _ _ _ _ _ s₁ (mkF m 3 #[.val (.int x)] [(.int (48 : Int32)), (.int x)])
  by_cases c3_18 : x < (48 : Int32)
  · refine own_via (fun t => XS.icmpYes X0.here hx rfl (pc0 := 3) (pc' := 14) rfl (hb hby d4_3) rfl (tlt c3_18).1 (by decide) (by decide)) ?_
    show own_E _ _ _ _ _ _ _ s₁ (mkF m 14 #[.val (.int x)] [])
    exact J14 (fun q => q.1 c3_18)
  · refine own_via (fun t => XS.icmpNo X0.here hx rfl (hb hby d4_3) rfl (flt c3_18).1) ?_
    show own_E _ _ _ _ _ _ _ s₁ (mkF m 6 #[.val (.int x)] [])
    refine own_via (fun t => XS.iloadN X0.here hx rfl (hb hby d4_6) rfl) ?_
    show own_E _ _ _ _ _ _ _ s₁ (mkF m 7 #[.val (.int x)] [(.int x)])
    refine own_via (fun t => XS.bipush X0.here hx rfl (hb hby d4_7)) ?_
    show own_E _ _ _ _ _ _ _ s₁ (mkF m 9 #[.val (.int x)] [(.int (57 : Int32)), (.int x)])
    by_cases c9_19 : (57 : Int32) < x
    · refine own_via (fun t => XS.icmpYes X0.here hx rfl (pc0 := 9) (pc' := 14) rfl (hb hby d4_9) rfl (tlt c9_19).2.2.1 (by decide) (by decide)) ?_
      show own_E _ _ _ _ _ _ _ s₁ (mkF m 14 #[.val (.int x)] [])
      exact J14 (fun q => q.2 c9_19)
    · refine own_via (fun t => XS.icmpNo X0.here hx rfl (hb hby d4_9) rfl (flt c9_19).2.2.1) ?_
      show own_E _ _ _ _ _ _ _ s₁ (mkF m 12 #[.val (.int x)] [])
      refine own_via (fun t => XS.iconst X0.here hx rfl (hb hby d4_12)) ?_
      show own_E _ _ _ _ _ _ _ s₁ (mkF m 13 #[.val (.int x)] [(.int (1 : Int32))])
      exact own_retN X0 hx hlk Bd.returns (Or.inl rfl) (hb hby d4_13) (Nat.le_refl _) (Nat.le_refl _) ⟨(congrArg (fun z => some (Value.int z)) (show (1 : Int32) = own_okV x from (if_pos (show own_P x from Or.inl ⟨c3_18, c9_19⟩)).symm)), N0, e0⟩
theorem d3_0 : decode method_3_code 0 = .ok (.iload_n 1, 1) := by decide +kernel
theorem d3_1 : decode method_3_code 1 = .ok (.iload_n 2, 1) := by decide +kernel
theorem d3_2 : decode method_3_code 2 = .ok (.if_icmp .lt 8, 3) := by decide +kernel
theorem d3_5 : decode method_3_code 5 = .ok (.iload_n 1, 1) := by decide +kernel
theorem d3_6 : decode method_3_code 6 = .ok (.iload_n 3, 1) := by decide +kernel
theorem d3_7 : decode method_3_code 7 = .ok (.if_icmp .lt 5, 3) := by decide +kernel
theorem d3_10 : decode method_3_code 10 = .ok (.iconst 1, 1) := by decide +kernel
theorem d3_11 : decode method_3_code 11 = .ok (.ireturn, 1) := by decide +kernel
theorem d3_12 : decode method_3_code 12 = .ok (.aload_n 0, 1) := by decide +kernel
theorem d3_13 : decode method_3_code 13 = .ok (.iload_n 1, 1) := by decide +kernel
theorem d3_14 : decode method_3_code 14 = .ok (.caload, 1) := by decide +kernel
theorem d3_15 : decode method_3_code 15 = .ok (.invokestatic 28, 3) := by decide +kernel
theorem d3_18 : decode method_3_code 18 = .ok (.ireturn, 1) := by decide +kernel
theorem pn_3 : plainName "com/example/poruka/poruka/fin/SwiftCharactersHoldsOnlyPinLaw" = true := by first | (simp [plainName, overriddenIn]; done) | decide +kernel
theorem ef_3 (m : MethodId) (x0 : Addr) (x1 : Int32) (x2 : Int32) (x3 : Int32) : entryFrame m #[(.ref x0), (.int x1), (.int x2), (.int x3)] 4 = mkF m 0 #[.val (.ref x0), .val (.int x1), .val (.int x2), .val (.int x3)] [] := by first | (simp [entryFrame, mkF, argsToLocals, Value.category]; done) | rfl
theorem pd_3 : parseMethodDescriptor "([CIII)Z" = some ⟨[.array .char, .int, .int, .int], some .boolean⟩ := by decide +kernel
set_option maxRecDepth 65536 in
set_option maxHeartbeats 40000000 in
theorem rm3 (l : Launch) (Z : State) (a0 : Array Value) (hw : ∀ d ∈ tables_1, d.before a0 Z = true) (ws : List Jvm.Cond) (b : Addr) (j sI eI : Int32) (jn : Nat) (f : Nat → Int32) (hj : jn < 4) (ej : j = Int32.ofNat jn) (h0 : Heap) (n0 : Nat) (Z0 : n0 ≤ h0.size) (V : own_Ar Z h0 b .char 4 f) :
    MetFree l (⟨"com/example/poruka/poruka/fin/SwiftCharactersHoldsOnlyPinLaw", "at", "([CIII)Z"⟩ : MethodName) (head1 (Jvm.Cond.code (⟨"com/example/poruka/poruka/fin/SwiftCharactersHoldsOnlyPinLaw", "at", "([CIII)Z"⟩ : MethodName) method_3_code 4 (some .boolean) :: ws) ({ frames := 1, cells := 0, slots := 0, locals := 12 } : Room)) (fun a U => a = #[(.ref b), (.int j), (.int sI), (.int eI)] ∧ Z.Warmed39 U.vm ∧ U.heap = h0) (fun _ _ _ _ _ => True) (fun _ U o U' => ∃ v L, o = .returned v ∧ QI (own_at j sI eI (f jn)) h0 n0 v U'.heap L ∧ FrameEnd U o U' L ({ frames := 1, cells := 0, slots := 0, locals := 12 } : Room).cells ({ frames := 1, cells := 0, slots := 0, locals := 12 } : Room).slots) := by
  refine MetFree.of_bodySF (plainFor_of_name pn_3) hisR ?_
  intro p e s m args below meth c s₁ Bd hml0 hP hK
  obtain ⟨rfl, hZ, hh⟩ := hP
  have hx := Bd.exec
  have hby := Bd.bytes
  have hlk := Bd.notSynchronized
  have hml : c.maxLocals = 4 := hml0
  have hown : s.vm.findClass "com/example/poruka/poruka/fin/SwiftCharactersHoldsOnlyPinLaw" = some m.cls := findClass_of_methodNamed Bd.named
  have hnm := (name_of_methodNamed Bd.named Bd.method).1
  have X0 : Stand p l e ({ frames := 1, cells := 0, slots := 0, locals := 12 } : Room) s m #[(.ref b), (.int j), (.int sI), (.int eI)] below meth c s₁ [] 0 0 := Stand.of_body Bd
  have e0 : s₁.heap = h0 := by rw [← hh, Bd.state]; rfl
  have N0 := Fr.nil n0
  show own_E p e below s (QI (own_at j sI eI (f jn)) h0 n0) _ _ s₁ (entryFrame m #[(.ref b), (.int j), (.int sI), (.int eI)] 4)
  rw [ef_3]
  show own_E _ _ _ _ _ _ _ s₁ (mkF m 0 #[.val (.ref b), .val (.int j), .val (.int sI), .val (.int eI)] [])
  refine own_via (fun t => XS.iloadN X0.here hx rfl (hb hby d3_0) rfl) ?_
  show own_E _ _ _ _ _ _ _ s₁ (mkF m 1 #[.val (.ref b), .val (.int j), .val (.int sI), .val (.int eI)] [(.int j)])
  refine own_via (fun t => XS.iloadN X0.here hx rfl (hb hby d3_1) rfl) ?_
  show own_E _ _ _ _ _ _ _ s₁ (mkF m 2 #[.val (.ref b), .val (.int j), .val (.int sI), .val (.int eI)] [(.int sI), (.int j)])
  by_cases c2_20 : j < sI
  · refine own_via (fun t => XS.icmpYes X0.here hx rfl (pc0 := 2) (pc' := 10) rfl (hb hby d3_2) rfl (tlt c2_20).1 (by decide) (by decide)) ?_
    show own_E _ _ _ _ _ _ _ s₁ (mkF m 10 #[.val (.ref b), .val (.int j), .val (.int sI), .val (.int eI)] [])
    refine own_via (fun t => XS.iconst X0.here hx rfl (hb hby d3_10)) ?_
    show own_E _ _ _ _ _ _ _ s₁ (mkF m 11 #[.val (.ref b), .val (.int j), .val (.int sI), .val (.int eI)] [(.int (1 : Int32))])
    exact own_retN X0 hx hlk Bd.returns (Or.inl rfl) (hb hby d3_11) (by decide) (by decide) ⟨(congrArg (fun z => some (Value.int z)) (show (1 : Int32) = own_at j sI eI (f jn) from (if_pos c2_20).symm)), N0, e0⟩
  · refine own_via (fun t => XS.icmpNo X0.here hx rfl (hb hby d3_2) rfl (flt c2_20).1) ?_
    show own_E _ _ _ _ _ _ _ s₁ (mkF m 5 #[.val (.ref b), .val (.int j), .val (.int sI), .val (.int eI)] [])
    refine own_via (fun t => XS.iloadN X0.here hx rfl (hb hby d3_5) rfl) ?_
    show own_E _ _ _ _ _ _ _ s₁ (mkF m 6 #[.val (.ref b), .val (.int j), .val (.int sI), .val (.int eI)] [(.int j)])
    refine own_via (fun t => XS.iloadN X0.here hx rfl (hb hby d3_6) rfl) ?_
    show own_E _ _ _ _ _ _ _ s₁ (mkF m 7 #[.val (.ref b), .val (.int j), .val (.int sI), .val (.int eI)] [(.int eI), (.int j)])
    by_cases c7_21 : j < eI
    · refine own_via (fun t => XS.icmpYes X0.here hx rfl (pc0 := 7) (pc' := 12) rfl (hb hby d3_7) rfl (tlt c7_21).1 (by decide) (by decide)) ?_
      show own_E _ _ _ _ _ _ _ s₁ (mkF m 12 #[.val (.ref b), .val (.int j), .val (.int sI), .val (.int eI)] [])
      refine own_via (fun t => XS.aloadN X0.here hx rfl (hb hby d3_12) rfl rfl) ?_
      show own_E _ _ _ _ _ _ _ s₁ (mkF m 13 #[.val (.ref b), .val (.int j), .val (.int sI), .val (.int eI)] [(.ref b)])
      refine own_via (fun t => XS.iloadN X0.here hx rfl (hb hby d3_13) rfl) ?_
      show own_E _ _ _ _ _ _ _ s₁ (mkF m 14 #[.val (.ref b), .val (.int j), .val (.int sI), .val (.int eI)] [(.int j), (.ref b)])
      refine own_via (own_caload (jn := jn) X0 hx hZ e0 V (by decide) hj ej (g := (mkF m 14 #[.val (.ref b), .val (.int j), .val (.int sI), .val (.int eI)] [(.int j), (.ref b)])) rfl rfl (hb hby d3_14)) ?_
      show own_E _ _ _ _ _ _ _ s₁ (mkF m 15 #[.val (.ref b), .val (.int j), .val (.int sI), .val (.int eI)] [(.int (f jn))])
      obtain ⟨_, _, ⟨T22, L22, k22, n22⟩, -, X22, ⟨Lc22, hQ22, l22, y22, z22⟩, st22⟩ := Jvm.LawKit.callS X0 hx (y := (⟨"com/example/poruka/poruka/fin/SwiftCharactersHoldsOnlyPinLaw", "ok", "(C)Z"⟩ : MethodName)) hown (mvT hZ (hw _ (List.mem_of_getElem? (i := 12) rfl))) (mvT hZ (hw _ (List.mem_of_getElem? (i := 13) rfl))) (mvT hZ (hw _ (List.mem_of_getElem? (i := 10) rfl))) (mvT hZ (hw _ (List.mem_of_getElem? (i := 14) rfl))) (by decide) (backOf (W := 0) (rm4 l Z a0 hw [] (f jn) h0 n0 Z0) hZ (hw _ (List.mem_of_getElem? (i := 14) rfl)) (hw _ (List.mem_of_getElem? (i := 10) rfl)) (by decide) (by decide)) (g := (mkF m 15 #[.val (.ref b), .val (.int j), .val (.int sI), .val (.int eI)] [(.int (f jn))])) rfl (by rw [hml]; rfl) (argsL := [(.int (f jn))]) (rest := []) (lenOf pd_4 rfl) rfl (by show 2 * 0 + _ ≤ _; exact Nat.le_of_eq rfl) (hb hby d3_15) (fun _ _ => ⟨rfl, e0, (by decide : 0 + 0 ≤ _), (by decide : 0 + 0 ≤ _)⟩)
      dsimp only [Pt.U, Pt.locs, Pt.cells, Pt.slots] at X22 l22 y22 z22 st22 hQ22
      subst l22 y22 z22
      obtain ⟨rfl, N22, e22⟩ := hQ22
      refine own_via st22 ?_
      show own_E _ _ _ _ _ _ _ T22 (mkF m 18 #[.val (.ref b), .val (.int j), .val (.int sI), .val (.int eI)] [(.int (own_okV (f jn)))])
      exact own_retN X22 hx hlk Bd.returns (Or.inl rfl) (hb hby d3_18) (by decide) (by decide) ⟨(congrArg (fun z => some (Value.int z)) (show nar .boolean (own_okV (f jn)) = own_at j sI eI (f jn) from by rw [own_okV_b, own_at, if_neg c2_20, if_pos c7_21])), Fr.app N0 N22, e22⟩
    · refine own_via (fun t => XS.icmpNo X0.here hx rfl (hb hby d3_7) rfl (flt c7_21).1) ?_
      show own_E _ _ _ _ _ _ _ s₁ (mkF m 10 #[.val (.ref b), .val (.int j), .val (.int sI), .val (.int eI)] [])
      refine own_via (fun t => XS.iconst X0.here hx rfl (hb hby d3_10)) ?_
      show own_E _ _ _ _ _ _ _ s₁ (mkF m 11 #[.val (.ref b), .val (.int j), .val (.int sI), .val (.int eI)] [(.int (1 : Int32))])
      exact own_retN X0 hx hlk Bd.returns (Or.inl rfl) (hb hby d3_11) (by decide) (by decide) ⟨(congrArg (fun z => some (Value.int z)) (show (1 : Int32) = own_at j sI eI (f jn) from by rw [own_at, if_neg c2_20, if_neg c7_21])), N0, e0⟩
theorem d5_0 : decode prog_92_method_3_code 0 = .ok (.iload_n 1, 1) := by decide +kernel
theorem d5_1 : decode prog_92_method_3_code 1 = .ok (.istore_n 3, 1) := by decide +kernel
theorem d5_2 : decode prog_92_method_3_code 2 = .ok (.iload_n 3, 1) := by decide +kernel
theorem d5_3 : decode prog_92_method_3_code 3 = .ok (.iload_n 2, 1) := by decide +kernel
theorem d5_4 : decode prog_92_method_3_code 4 = .ok (.if_icmp .ge 34, 3) := by decide +kernel
theorem d5_7 : decode prog_92_method_3_code 7 = .ok (.aload_n 0, 1) := by decide +kernel
theorem d5_8 : decode prog_92_method_3_code 8 = .ok (.iload_n 3, 1) := by decide +kernel
theorem d5_9 : decode prog_92_method_3_code 9 = .ok (.caload, 1) := by decide +kernel
theorem d5_10 : decode prog_92_method_3_code 10 = .ok (.istore 4, 2) := by decide +kernel
theorem d5_12 : decode prog_92_method_3_code 12 = .ok (.iload 4, 2) := by decide +kernel
theorem d5_14 : decode prog_92_method_3_code 14 = .ok (.getstatic 7, 3) := by decide +kernel
theorem d5_17 : decode prog_92_method_3_code 17 = .ok (.arraylength, 1) := by decide +kernel
theorem d5_18 : decode prog_92_method_3_code 18 = .ok (.if_icmp .ge 12, 3) := by decide +kernel
theorem d5_21 : decode prog_92_method_3_code 21 = .ok (.getstatic 7, 3) := by decide +kernel
theorem d5_24 : decode prog_92_method_3_code 24 = .ok (.iload 4, 2) := by decide +kernel
theorem d5_26 : decode prog_92_method_3_code 26 = .ok (.baload, 1) := by decide +kernel
theorem d5_27 : decode prog_92_method_3_code 27 = .ok (.ifCond .ne 5, 3) := by decide +kernel
theorem d5_30 : decode prog_92_method_3_code 30 = .ok (.iconst 0, 1) := by decide +kernel
theorem d5_31 : decode prog_92_method_3_code 31 = .ok (.ireturn, 1) := by decide +kernel
theorem d5_32 : decode prog_92_method_3_code 32 = .ok (.iinc 3 1, 3) := by decide +kernel
theorem d5_35 : decode prog_92_method_3_code 35 = .ok (.goto (-33), 3) := by decide +kernel
theorem d5_38 : decode prog_92_method_3_code 38 = .ok (.iconst 1, 1) := by decide +kernel
theorem d5_39 : decode prog_92_method_3_code 39 = .ok (.ireturn, 1) := by decide +kernel
theorem pn_5 : plainName "com/example/poruka/poruka/fin/SwiftCharacters" = true := by first | (simp [plainName, overriddenIn]; done) | decide +kernel
theorem ef_5 (m : MethodId) (x0 : Addr) (x1 : Int32) (x2 : Int32) : entryFrame m #[(.ref x0), (.int x1), (.int x2)] 5 = mkF m 0 #[.val (.ref x0), .val (.int x1), .val (.int x2), .unset, .unset] [] := by first | (simp [entryFrame, mkF, argsToLocals, Value.category]; done) | rfl
theorem pd_5 : parseMethodDescriptor "([CII)Z" = some ⟨[.array .char, .int, .int], some .boolean⟩ := by decide +kernel
set_option maxRecDepth 65536 in
set_option maxHeartbeats 40000000 in
theorem rm5 (l : Launch) (Z : State) (a0 : Array Value) (hw : ∀ d ∈ tables_1, d.before a0 Z = true) (ws : List Jvm.Cond) (b aI : Addr) (sn en : Nat) (f : Nat → Int32) (hse : sn ≤ en) (he4 : en ≤ 4) (hf : ∀ i, ¬ f i < 0) (h0 : Heap) (n0 : Nat) (Z0 : n0 ≤ h0.size) (V : own_Ar Z h0 b .char 4 f) (VI : own_Ar Z h0 aI .boolean 128 own_tab) (S_I : Sta Z h0 "com/example/poruka/poruka/fin/SwiftCharacters" "IN_SET" "[Z" (.ref aI)) :
    MetFree l (⟨"com/example/poruka/poruka/fin/SwiftCharacters", "holdsOnly", "([CII)Z"⟩ : MethodName) (head1 (Jvm.Cond.code (⟨"com/example/poruka/poruka/fin/SwiftCharacters", "holdsOnly", "([CII)Z"⟩ : MethodName) prog_92_method_3_code 5 (some .boolean) :: ws) ({ frames := 0, cells := 0, slots := 0, locals := 0 } : Room)) (fun a U => a = #[(.ref b), (.int (Int32.ofNat sn)), (.int (Int32.ofNat en))] ∧ Z.Warmed39 U.vm ∧ U.heap = h0) (fun _ _ _ _ _ => True) (fun _ U o U' => ∃ v L, o = .returned v ∧ QI (own_all f sn (en - sn)) h0 n0 v U'.heap L ∧ FrameEnd U o U' L ({ frames := 0, cells := 0, slots := 0, locals := 0 } : Room).cells ({ frames := 0, cells := 0, slots := 0, locals := 0 } : Room).slots) := by
  refine MetFree.of_bodySF (plainFor_of_name pn_5) hisR ?_
  intro p e s m args below meth c s₁ Bd hml0 hP hK
  obtain ⟨rfl, hZ, hh⟩ := hP
  have hx := Bd.exec
  have hby := Bd.bytes
  have hlk := Bd.notSynchronized
  have hml : c.maxLocals = 5 := hml0
  have hown : s.vm.findClass "com/example/poruka/poruka/fin/SwiftCharacters" = some m.cls := findClass_of_methodNamed Bd.named
  have hnm := (name_of_methodNamed Bd.named Bd.method).1
  have X0 : Stand p l e ({ frames := 0, cells := 0, slots := 0, locals := 0 } : Room) s m #[(.ref b), (.int (Int32.ofNat sn)), (.int (Int32.ofNat en))] below meth c s₁ [] 0 0 := Stand.of_body Bd
  have e0 : s₁.heap = h0 := by rw [← hh, Bd.state]; rfl
  have N0 := Fr.nil n0
  show own_E p e below s (QI (own_all f sn (en - sn)) h0 n0) _ _ s₁ (entryFrame m #[(.ref b), (.int (Int32.ofNat sn)), (.int (Int32.ofNat en))] 5)
  rw [ef_5]
  have loop : ∀ (k i : Nat), i + k = en → own_all f sn (en - sn) = own_all f i k → ∀ (T : State) (X : Stand p l e ({ frames := 0, cells := 0, slots := 0, locals := 0 } : Room) s m #[(.ref b), (.int (Int32.ofNat sn)), (.int (Int32.ofNat en))] below meth c T [] 0 0) (eT : T.heap = h0) (c4 : Slot) (ho : One c4), own_E p e below s (QI (own_all f sn (en - sn)) h0 n0) 0 0 T (mkF m 2 #[.val (.ref b), .val (.int (Int32.ofNat sn)), .val (.int (Int32.ofNat en)), .val (.int (Int32.ofNat i)), c4] []) := by
    intro k
    induction k with
    | zero =>
      intro i hi hv T X eT c4 ho
      show own_E _ _ _ _ _ _ _ T (mkF m 2 #[.val (.ref b), .val (.int (Int32.ofNat sn)), .val (.int (Int32.ofNat en)), .val (.int (Int32.ofNat i)), c4] [])
      refine own_via (fun t => XS.iloadN X.here hx rfl (hb hby d5_2) rfl) ?_
      show own_E _ _ _ _ _ _ _ T (mkF m 3 #[.val (.ref b), .val (.int (Int32.ofNat sn)), .val (.int (Int32.ofNat en)), .val (.int (Int32.ofNat i)), c4] [(.int (Int32.ofNat i))])
      refine own_via (fun t => XS.iloadN X.here hx rfl (hb hby d5_3) rfl) ?_
      show own_E _ _ _ _ _ _ _ T (mkF m 4 #[.val (.ref b), .val (.int (Int32.ofNat sn)), .val (.int (Int32.ofNat en)), .val (.int (Int32.ofNat i)), c4] [(.int (Int32.ofNat en)), (.int (Int32.ofNat i))])
      refine own_via (fun t => XS.icmpYes X.here hx rfl (pc0 := 4) (pc' := 38) rfl (hb hby d5_4) rfl (flt (show ¬ Int32.ofNat i < Int32.ofNat en from fun q => by rw [own_lt (by omega) (by omega)] at q; omega)).2.1 (by decide) (by decide)) ?_
      show own_E _ _ _ _ _ _ _ T (mkF m 38 #[.val (.ref b), .val (.int (Int32.ofNat sn)), .val (.int (Int32.ofNat en)), .val (.int (Int32.ofNat i)), c4] [])
      refine own_via (fun t => XS.iconst X.here hx rfl (hb hby d5_38)) ?_
      show own_E _ _ _ _ _ _ _ T (mkF m 39 #[.val (.ref b), .val (.int (Int32.ofNat sn)), .val (.int (Int32.ofNat en)), .val (.int (Int32.ofNat i)), c4] [(.int (1 : Int32))])
      exact own_retN X hx hlk Bd.returns (Or.inl rfl) (hb hby d5_39) (Nat.le_refl _) (Nat.le_refl _) ⟨(congrArg (fun z => some (Value.int z)) (show (_ : Int32) = own_all f sn (en - sn) from by rw [hv]; rfl)), N0, eT⟩
    | succ k ih =>
      intro i hi hv T X eT c4 ho
      show own_E _ _ _ _ _ _ _ T (mkF m 2 #[.val (.ref b), .val (.int (Int32.ofNat sn)), .val (.int (Int32.ofNat en)), .val (.int (Int32.ofNat i)), c4] [])
      refine own_via (fun t => XS.iloadN X.here hx rfl (hb hby d5_2) rfl) ?_
      show own_E _ _ _ _ _ _ _ T (mkF m 3 #[.val (.ref b), .val (.int (Int32.ofNat sn)), .val (.int (Int32.ofNat en)), .val (.int (Int32.ofNat i)), c4] [(.int (Int32.ofNat i))])
      refine own_via (fun t => XS.iloadN X.here hx rfl (hb hby d5_3) rfl) ?_
      show own_E _ _ _ _ _ _ _ T (mkF m 4 #[.val (.ref b), .val (.int (Int32.ofNat sn)), .val (.int (Int32.ofNat en)), .val (.int (Int32.ofNat i)), c4] [(.int (Int32.ofNat en)), (.int (Int32.ofNat i))])
      refine own_via (fun t => XS.icmpNo X.here hx rfl (hb hby d5_4) rfl (tlt ((own_lt (by omega) (by omega)).mpr (show i < en by omega))).2.1) ?_
      show own_E _ _ _ _ _ _ _ T (mkF m 7 #[.val (.ref b), .val (.int (Int32.ofNat sn)), .val (.int (Int32.ofNat en)), .val (.int (Int32.ofNat i)), c4] [])
      refine own_via (fun t => XS.aloadN X.here hx rfl (hb hby d5_7) rfl rfl) ?_
      show own_E _ _ _ _ _ _ _ T (mkF m 8 #[.val (.ref b), .val (.int (Int32.ofNat sn)), .val (.int (Int32.ofNat en)), .val (.int (Int32.ofNat i)), c4] [(.ref b)])
      refine own_via (fun t => XS.iloadN X.here hx rfl (hb hby d5_8) rfl) ?_
      show own_E _ _ _ _ _ _ _ T (mkF m 9 #[.val (.ref b), .val (.int (Int32.ofNat sn)), .val (.int (Int32.ofNat en)), .val (.int (Int32.ofNat i)), c4] [(.int (Int32.ofNat i)), (.ref b)])
      refine own_via (own_caload (jn := i) X hx hZ eT V (by decide) (by omega) rfl (g := (mkF m 9 #[.val (.ref b), .val (.int (Int32.ofNat sn)), .val (.int (Int32.ofNat en)), .val (.int (Int32.ofNat i)), c4] [(.int (Int32.ofNat i)), (.ref b)])) rfl rfl (hb hby d5_9)) ?_
      show own_E _ _ _ _ _ _ _ T (mkF m 10 #[.val (.ref b), .val (.int (Int32.ofNat sn)), .val (.int (Int32.ofNat en)), .val (.int (Int32.ofNat i)), c4] [(.int (f i))])
      refine own_via (fun t => XS.istoreS X.here hx rfl (hb hby d5_10) rfl rfl ho) ?_
      show own_E _ _ _ _ _ _ _ T (mkF m 12 #[.val (.ref b), .val (.int (Int32.ofNat sn)), .val (.int (Int32.ofNat en)), .val (.int (Int32.ofNat i)), .val (.int (f i))] [])
      refine own_via (fun t => XS.iload X.here hx rfl (hb hby d5_12) rfl) ?_
      show own_E _ _ _ _ _ _ _ T (mkF m 14 #[.val (.ref b), .val (.int (Int32.ofNat sn)), .val (.int (Int32.ofNat en)), .val (.int (Int32.ofNat i)), .val (.int (f i))] [(.int (f i))])
      obtain ⟨T23, X23, e23, st23⟩ := getS (host := "") X hx hZ hown (hw _ (List.mem_of_getElem? (i := 19) rfl)) Via.refl eT S_I (g := (mkF m 14 #[.val (.ref b), .val (.int (Int32.ofNat sn)), .val (.int (Int32.ofNat en)), .val (.int (Int32.ofNat i)), .val (.int (f i))] [(.int (f i))])) rfl (hb hby d5_14)
      refine own_via st23 ?_
      show own_E _ _ _ _ _ _ _ T23 (mkF m 17 #[.val (.ref b), .val (.int (Int32.ofNat sn)), .val (.int (Int32.ofNat en)), .val (.int (Int32.ofNat i)), .val (.int (f i))] [(.ref aI), (.int (f i))])
      refine own_via (own_alen X23 hx hZ e23 VI (g := (mkF m 17 #[.val (.ref b), .val (.int (Int32.ofNat sn)), .val (.int (Int32.ofNat en)), .val (.int (Int32.ofNat i)), .val (.int (f i))] [(.ref aI), (.int (f i))])) rfl rfl (hb hby d5_17)) ?_
      show own_E _ _ _ _ _ _ _ T23 (mkF m 18 #[.val (.ref b), .val (.int (Int32.ofNat sn)), .val (.int (Int32.ofNat en)), .val (.int (Int32.ofNat i)), .val (.int (f i))] [(.int (128 : Int32)), (.int (f i))])
      by_cases c18_24 : (f i) < (128 : Int32)
      · refine own_via (fun t => XS.icmpNo X23.here hx rfl (hb hby d5_18) rfl (tlt c18_24).2.1) ?_
        show own_E _ _ _ _ _ _ _ T23 (mkF m 21 #[.val (.ref b), .val (.int (Int32.ofNat sn)), .val (.int (Int32.ofNat en)), .val (.int (Int32.ofNat i)), .val (.int (f i))] [])
        obtain ⟨jn, hjn, ejn⟩ := own_idx (hf i) c18_24
        obtain ⟨T25, X25, e25, st25⟩ := getS (host := "") X23 hx hZ hown (hw _ (List.mem_of_getElem? (i := 19) rfl)) Via.refl e23 S_I (g := (mkF m 21 #[.val (.ref b), .val (.int (Int32.ofNat sn)), .val (.int (Int32.ofNat en)), .val (.int (Int32.ofNat i)), .val (.int (f i))] [])) rfl (hb hby d5_21)
        refine own_via st25 ?_
        show own_E _ _ _ _ _ _ _ T25 (mkF m 24 #[.val (.ref b), .val (.int (Int32.ofNat sn)), .val (.int (Int32.ofNat en)), .val (.int (Int32.ofNat i)), .val (.int (f i))] [(.ref aI)])
        refine own_via (fun t => XS.iload X25.here hx rfl (hb hby d5_24) rfl) ?_
        show own_E _ _ _ _ _ _ _ T25 (mkF m 26 #[.val (.ref b), .val (.int (Int32.ofNat sn)), .val (.int (Int32.ofNat en)), .val (.int (Int32.ofNat i)), .val (.int (f i))] [(.int (f i)), (.ref aI)])
        refine own_via (own_baloadZ (jn := jn) X25 hx hZ e25 VI (by decide) hjn ejn (g := (mkF m 26 #[.val (.ref b), .val (.int (Int32.ofNat sn)), .val (.int (Int32.ofNat en)), .val (.int (Int32.ofNat i)), .val (.int (f i))] [(.int (f i)), (.ref aI)])) rfl rfl (hb hby d5_26)) ?_
        show own_E _ _ _ _ _ _ _ T25 (mkF m 27 #[.val (.ref b), .val (.int (Int32.ofNat sn)), .val (.int (Int32.ofNat en)), .val (.int (Int32.ofNat i)), .val (.int (f i))] [(.int (own_tab jn))])
        have et : own_tab jn = own_okV (f i) := by rw [own_tab_ok hjn, ejn]
        rw [et]
        show own_E _ _ _ _ _ _ _ T25 (mkF m 27 #[.val (.ref b), .val (.int (Int32.ofNat sn)), .val (.int (Int32.ofNat en)), .val (.int (Int32.ofNat i)), .val (.int (f i))] [(.int (own_okV (f i)))])
        by_cases c27_26 : (own_okV (f i)) = (0 : Int32)
        · refine own_via (fun t => XS.ifNo X25.here hx rfl (hb hby d5_27) rfl ((if0 _ _).trans (teq c27_26).2)) ?_
          show own_E _ _ _ _ _ _ _ T25 (mkF m 30 #[.val (.ref b), .val (.int (Int32.ofNat sn)), .val (.int (Int32.ofNat en)), .val (.int (Int32.ofNat i)), .val (.int (f i))] [])
          refine own_via (fun t => XS.iconst X25.here hx rfl (hb hby d5_30)) ?_
          show own_E _ _ _ _ _ _ _ T25 (mkF m 31 #[.val (.ref b), .val (.int (Int32.ofNat sn)), .val (.int (Int32.ofNat en)), .val (.int (Int32.ofNat i)), .val (.int (f i))] [(.int (0 : Int32))])
          exact own_retN X25 hx hlk Bd.returns (Or.inl rfl) (hb hby d5_31) (Nat.le_refl _) (Nat.le_refl _) ⟨(congrArg (fun z => some (Value.int z)) (show (_ : Int32) = own_all f sn (en - sn) from by rw [hv]; exact (if_neg ((own_okV_0 _).mp c27_26)).symm)), N0, e25⟩
        · refine own_via (fun t => XS.ifYes X25.here hx rfl (pc0 := 27) (pc' := 32) rfl (hb hby d5_27) rfl ((if0 _ _).trans (feq c27_26).2) (by decide) (by decide)) ?_
          show own_E _ _ _ _ _ _ _ T25 (mkF m 32 #[.val (.ref b), .val (.int (Int32.ofNat sn)), .val (.int (Int32.ofNat en)), .val (.int (Int32.ofNat i)), .val (.int (f i))] [])
          refine own_via (fun t => XS.iinc X25.here hx rfl (hb hby d5_32) rfl (l' := #[.val (.ref b), .val (.int (Int32.ofNat sn)), .val (.int (Int32.ofNat en)), .val (.int ((Int32.ofNat i) + (1 : Int32))), .val (.int (f i))]) rfl) ?_
          show own_E _ _ _ _ _ _ _ T25 (mkF m 35 #[.val (.ref b), .val (.int (Int32.ofNat sn)), .val (.int (Int32.ofNat en)), .val (.int ((Int32.ofNat i) + (1 : Int32))), .val (.int (f i))] [])
          refine own_via (fun t => XS.goto X25.here hx rfl (pc0 := 35) (pc' := 2) rfl (hb hby d5_35) (by decide) (by decide)) ?_
          show own_E _ _ _ _ _ _ _ T25 (mkF m 2 #[.val (.ref b), .val (.int (Int32.ofNat sn)), .val (.int (Int32.ofNat en)), .val (.int ((Int32.ofNat i) + (1 : Int32))), .val (.int (f i))] [])
          rw [own_one]
          exact ih (i + 1) (by omega) (by rw [hv]; exact if_pos (Classical.byContradiction fun q => c27_26 ((own_okV_0 _).mpr q))) T25 X25 e25 _ (One.val rfl)
      · refine own_via (fun t => XS.icmpYes X23.here hx rfl (pc0 := 18) (pc' := 30) rfl (hb hby d5_18) rfl (flt c18_24).2.1 (by decide) (by decide)) ?_
        show own_E _ _ _ _ _ _ _ T23 (mkF m 30 #[.val (.ref b), .val (.int (Int32.ofNat sn)), .val (.int (Int32.ofNat en)), .val (.int (Int32.ofNat i)), .val (.int (f i))] [])
        refine own_via (fun t => XS.iconst X23.here hx rfl (hb hby d5_30)) ?_
        show own_E _ _ _ _ _ _ _ T23 (mkF m 31 #[.val (.ref b), .val (.int (Int32.ofNat sn)), .val (.int (Int32.ofNat en)), .val (.int (Int32.ofNat i)), .val (.int (f i))] [(.int (0 : Int32))])
        exact own_retN X23 hx hlk Bd.returns (Or.inl rfl) (hb hby d5_31) (Nat.le_refl _) (Nat.le_refl _) ⟨(congrArg (fun z => some (Value.int z)) (show (_ : Int32) = own_all f sn (en - sn) from by rw [hv]; exact (if_neg (fun q => c18_24 (own_P_small q))).symm)), N0, e23⟩
  show own_E _ _ _ _ _ _ _ s₁ (mkF m 0 #[.val (.ref b), .val (.int (Int32.ofNat sn)), .val (.int (Int32.ofNat en)), .unset, .unset] [])
  refine own_via (fun t => XS.iloadN X0.here hx rfl (hb hby d5_0) rfl) ?_
  show own_E _ _ _ _ _ _ _ s₁ (mkF m 1 #[.val (.ref b), .val (.int (Int32.ofNat sn)), .val (.int (Int32.ofNat en)), .unset, .unset] [(.int (Int32.ofNat sn))])
  refine own_via (fun t => XS.istoreN X0.here hx rfl (hb hby d5_1) rfl (l' := #[.val (.ref b), .val (.int (Int32.ofNat sn)), .val (.int (Int32.ofNat en)), .val (.int (Int32.ofNat sn)), .unset]) rfl) ?_
  show own_E _ _ _ _ _ _ _ s₁ (mkF m 2 #[.val (.ref b), .val (.int (Int32.ofNat sn)), .val (.int (Int32.ofNat en)), .val (.int (Int32.ofNat sn)), .unset] [])
  exact loop (en - sn) sn (by omega) rfl s₁ X0 e0 _ One.u
theorem pn_0 : plainName "com/example/poruka/poruka/fin/SwiftCharactersHoldsOnlyPinLaw" = true := by first | (simp [plainName, overriddenIn]; done) | decide +kernel
theorem ef_0 (m : MethodId) (x0 : Int32) (x1 : Int32) (x2 : Int32) : entryFrame m #[(.int x0), (.int x1), (.int x2)] maxLocals = mkF m 0 #[.val (.int x0), .val (.int x1), .val (.int x2), .unset, .unset, .unset, .unset, .unset, .unset] [] := by first | (simp [entryFrame, mkF, argsToLocals, Value.category, maxLocals]; done) | rfl
def Q0 (n0 : Nat) (v : Option Value) (h : Heap) (L : List Loc) : Prop := v = some (.int 1) ∧ Fr n0 L
set_option maxRecDepth 65536 in
set_option maxHeartbeats 40000000 in
theorem rm0 (l : Launch) (Z : State) (a0 : Array Value) (hw : ∀ d ∈ tables_1, d.before a0 Z = true) (ws : List Jvm.Cond) (p1 p2 p3 : Int32) (aI : Addr) (h0 : Heap) (n0 : Nat) (Z0 : n0 ≤ h0.size) (VI : own_Ar Z h0 aI .boolean 128 own_tab) (S_I : Sta Z h0 "com/example/poruka/poruka/fin/SwiftCharacters" "IN_SET" "[Z" (.ref aI)) :
    MetFree l x (head1 (Jvm.Cond.code x code maxLocals ret :: ws) room_1) (fun a U => a = #[(.int p1), (.int p2), (.int p3)] ∧ Z.Warmed39 U.vm ∧ U.heap = h0) (fun _ _ _ _ _ => True) (fun _ U o U' => ∃ v L, o = .returned v ∧ Q0 n0 v U'.heap L ∧ FrameEnd U o U' L 16 128) := by
  refine MetFree.of_bodySF (plainFor_of_name pn_0) hisR ?_
  intro p e s m args below meth c s₁ Bd hml0 hP hK
  obtain ⟨rfl, hZ, hh⟩ := hP
  have hx := Bd.exec
  have hby := Bd.bytes
  have hlk := Bd.notSynchronized
  have hml : c.maxLocals = 9 := hml0
  have hown : s.vm.findClass "com/example/poruka/poruka/fin/SwiftCharactersHoldsOnlyPinLaw" = some m.cls := findClass_of_methodNamed Bd.named
  have hnm := (name_of_methodNamed Bd.named Bd.method).1
  have X0 : Stand p l e room_1 s m #[(.int p1), (.int p2), (.int p3)] below meth c s₁ [] 0 0 := Stand.of_body Bd
  have e0 : s₁.heap = h0 := by rw [← hh, Bd.state]; rfl
  have N0 := Fr.nil n0
  show own_E p e below s (Q0 n0) _ _ s₁ (entryFrame m #[(.int p1), (.int p2), (.int p3)] maxLocals)
  rw [ef_0]
  show own_E _ _ _ _ _ _ _ s₁ (mkF m 0 #[.val (.int p1), .val (.int p2), .val (.int p3), .unset, .unset, .unset, .unset, .unset, .unset] [])
  refine own_via (fun t => XS.iconst X0.here hx rfl (hb hby at_0)) ?_
  show own_E _ _ _ _ _ _ _ s₁ (mkF m 1 #[.val (.int p1), .val (.int p2), .val (.int p3), .unset, .unset, .unset, .unset, .unset, .unset] [(.int (4 : Int32))])
  obtain ⟨T27, h27, k27, X27, e27, E27, A27, st27⟩ := newP X0 hx hZ (hw _ (List.mem_of_getElem? (i := 0) rfl)) e0 (g := (mkF m 1 #[.val (.int p1), .val (.int p2), .val (.int p3), .unset, .unset, .unset, .unset, .unset, .unset] [(.int (4 : Int32))])) rfl (hb hby at_1) rfl (by decide) (cap := 4) (by decide) (by decide) (by decide) (by decide)
  obtain ⟨b27, g27⟩ : ∃ z, z = h0.size := ⟨_, rfl⟩
  rw [← g27] at A27 st27
  have V27 : own_Ar Z h27 b27 .char 4 (fun _ => 0) := own_Ar.new A27 (by decide) rfl
  have gz_b27 : n0 ≤ b27 := Nat.le_trans Z0 (Nat.le_of_eq g27.symm)
  have Z27 : n0 ≤ h27.size := Nat.le_trans Z0 E27.1
  refine own_via st27 ?_
  show own_E _ _ _ _ _ _ _ T27 (mkF m 3 #[.val (.int p1), .val (.int p2), .val (.int p3), .unset, .unset, .unset, .unset, .unset, .unset] [(.ref b27)])
  have hneI : aI ≠ b27 := fun q => Nat.lt_irrefl _ (show h0.size < h0.size from (by have := VI.lt; rw [q, g27] at this; exact this))
  have VI27 := VI.ext E27
  have SI27 := S_I.ext E27
  refine own_via (fun t => XS.astoreN X27.here hx rfl (hb hby at_3) rfl rfl (l' := #[.val (.int p1), .val (.int p2), .val (.int p3), .val (.ref b27), .unset, .unset, .unset, .unset, .unset]) rfl) ?_
  show own_E _ _ _ _ _ _ _ T27 (mkF m 4 #[.val (.int p1), .val (.int p2), .val (.int p3), .val (.ref b27), .unset, .unset, .unset, .unset, .unset] [])
  refine own_via (fun t => XS.aloadN X27.here hx rfl (hb hby at_4) rfl rfl) ?_
  show own_E _ _ _ _ _ _ _ T27 (mkF m 5 #[.val (.int p1), .val (.int p2), .val (.int p3), .val (.ref b27), .unset, .unset, .unset, .unset, .unset] [(.ref b27)])
  refine own_via (fun t => XS.iconst X27.here hx rfl (hb hby at_5)) ?_
  show own_E _ _ _ _ _ _ _ T27 (mkF m 6 #[.val (.int p1), .val (.int p2), .val (.int p3), .val (.ref b27), .unset, .unset, .unset, .unset, .unset] [(.int (0 : Int32)), (.ref b27)])
  refine own_via (fun t => XS.iloadN X27.here hx rfl (hb hby at_6) rfl) ?_
  show own_E _ _ _ _ _ _ _ T27 (mkF m 7 #[.val (.int p1), .val (.int p2), .val (.int p3), .val (.ref b27), .unset, .unset, .unset, .unset, .unset] [(.int p1), (.int (0 : Int32)), (.ref b27)])
  refine own_via (fun t => XS.i2c X27.here hx rfl (hb hby at_7) rfl) ?_
  show own_E _ _ _ _ _ _ _ T27 (mkF m 8 #[.val (.int p1), .val (.int p2), .val (.int p3), .val (.ref b27), .unset, .unset, .unset, .unset, .unset] [(.int (nar .char p1)), (.int (0 : Int32)), (.ref b27)])
  obtain ⟨T28, h28, X28, e28, F28, W28, N28, st28⟩ := own_castore (jn := 0) X27 hx hZ e27 V27 (by decide) (by decide) rfl (g := (mkF m 8 #[.val (.int p1), .val (.int p2), .val (.int p3), .val (.ref b27), .unset, .unset, .unset, .unset, .unset] [(.int (nar .char p1)), (.int (0 : Int32)), (.ref b27)])) rfl rfl (hb hby at_8) N0 gz_b27
  refine own_via st28 ?_
  have Z28 : n0 ≤ h28.size := by rw [W28.size]; exact Z27
  show own_E _ _ _ _ _ _ _ T28 (mkF m 9 #[.val (.int p1), .val (.int p2), .val (.int p3), .val (.ref b27), .unset, .unset, .unset, .unset, .unset] [])
  have VI28 := VI27.other W28 hneI
  have SI28 := SI27.wr W28
  refine own_via (fun t => XS.aloadN X28.here hx rfl (hb hby at_9) rfl rfl) ?_
  show own_E _ _ _ _ _ _ _ T28 (mkF m 10 #[.val (.int p1), .val (.int p2), .val (.int p3), .val (.ref b27), .unset, .unset, .unset, .unset, .unset] [(.ref b27)])
  refine own_via (fun t => XS.iconst X28.here hx rfl (hb hby at_10)) ?_
  show own_E _ _ _ _ _ _ _ T28 (mkF m 11 #[.val (.int p1), .val (.int p2), .val (.int p3), .val (.ref b27), .unset, .unset, .unset, .unset, .unset] [(.int (1 : Int32)), (.ref b27)])
  refine own_via (fun t => XS.iloadN X28.here hx rfl (hb hby at_11) rfl) ?_
  show own_E _ _ _ _ _ _ _ T28 (mkF m 12 #[.val (.int p1), .val (.int p2), .val (.int p3), .val (.ref b27), .unset, .unset, .unset, .unset, .unset] [(.int p1), (.int (1 : Int32)), (.ref b27)])
  refine own_via (fun t => XS.bipush X28.here hx rfl (hb hby at_12)) ?_
  show own_E _ _ _ _ _ _ _ T28 (mkF m 14 #[.val (.int p1), .val (.int p2), .val (.int p3), .val (.ref b27), .unset, .unset, .unset, .unset, .unset] [(.int (16 : Int32)), (.int p1), (.int (1 : Int32)), (.ref b27)])
  refine own_via (fun t => XS.iushr X28.here hx rfl (hb hby at_14) rfl) ?_
  show own_E _ _ _ _ _ _ _ T28 (mkF m 15 #[.val (.int p1), .val (.int p2), .val (.int p3), .val (.ref b27), .unset, .unset, .unset, .unset, .unset] [(.int (own_ushr p1 (16 : Int32))), (.int (1 : Int32)), (.ref b27)])
  refine own_via (fun t => XS.i2c X28.here hx rfl (hb hby at_15) rfl) ?_
  show own_E _ _ _ _ _ _ _ T28 (mkF m 16 #[.val (.int p1), .val (.int p2), .val (.int p3), .val (.ref b27), .unset, .unset, .unset, .unset, .unset] [(.int (nar .char (own_ushr p1 (16 : Int32)))), (.int (1 : Int32)), (.ref b27)])
  obtain ⟨T29, h29, X29, e29, F29, W29, N29, st29⟩ := own_castore (jn := 1) X28 hx hZ e28 F28 (by decide) (by decide) rfl (g := (mkF m 16 #[.val (.int p1), .val (.int p2), .val (.int p3), .val (.ref b27), .unset, .unset, .unset, .unset, .unset] [(.int (nar .char (own_ushr p1 (16 : Int32)))), (.int (1 : Int32)), (.ref b27)])) rfl rfl (hb hby at_16) N28 gz_b27
  refine own_via st29 ?_
  have Z29 : n0 ≤ h29.size := by rw [W29.size]; exact Z28
  show own_E _ _ _ _ _ _ _ T29 (mkF m 17 #[.val (.int p1), .val (.int p2), .val (.int p3), .val (.ref b27), .unset, .unset, .unset, .unset, .unset] [])
  have VI29 := VI28.other W29 hneI
  have SI29 := SI28.wr W29
  refine own_via (fun t => XS.aloadN X29.here hx rfl (hb hby at_17) rfl rfl) ?_
  show own_E _ _ _ _ _ _ _ T29 (mkF m 18 #[.val (.int p1), .val (.int p2), .val (.int p3), .val (.ref b27), .unset, .unset, .unset, .unset, .unset] [(.ref b27)])
  refine own_via (fun t => XS.iconst X29.here hx rfl (hb hby at_18)) ?_
  show own_E _ _ _ _ _ _ _ T29 (mkF m 19 #[.val (.int p1), .val (.int p2), .val (.int p3), .val (.ref b27), .unset, .unset, .unset, .unset, .unset] [(.int (2 : Int32)), (.ref b27)])
  refine own_via (fun t => XS.iloadN X29.here hx rfl (hb hby at_19) rfl) ?_
  show own_E _ _ _ _ _ _ _ T29 (mkF m 20 #[.val (.int p1), .val (.int p2), .val (.int p3), .val (.ref b27), .unset, .unset, .unset, .unset, .unset] [(.int p2), (.int (2 : Int32)), (.ref b27)])
  refine own_via (fun t => XS.i2c X29.here hx rfl (hb hby at_20) rfl) ?_
  show own_E _ _ _ _ _ _ _ T29 (mkF m 21 #[.val (.int p1), .val (.int p2), .val (.int p3), .val (.ref b27), .unset, .unset, .unset, .unset, .unset] [(.int (nar .char p2)), (.int (2 : Int32)), (.ref b27)])
  obtain ⟨T30, h30, X30, e30, F30, W30, N30, st30⟩ := own_castore (jn := 2) X29 hx hZ e29 F29 (by decide) (by decide) rfl (g := (mkF m 21 #[.val (.int p1), .val (.int p2), .val (.int p3), .val (.ref b27), .unset, .unset, .unset, .unset, .unset] [(.int (nar .char p2)), (.int (2 : Int32)), (.ref b27)])) rfl rfl (hb hby at_21) N29 gz_b27
  refine own_via st30 ?_
  have Z30 : n0 ≤ h30.size := by rw [W30.size]; exact Z29
  show own_E _ _ _ _ _ _ _ T30 (mkF m 22 #[.val (.int p1), .val (.int p2), .val (.int p3), .val (.ref b27), .unset, .unset, .unset, .unset, .unset] [])
  have VI30 := VI29.other W30 hneI
  have SI30 := SI29.wr W30
  refine own_via (fun t => XS.aloadN X30.here hx rfl (hb hby at_22) rfl rfl) ?_
  show own_E _ _ _ _ _ _ _ T30 (mkF m 23 #[.val (.int p1), .val (.int p2), .val (.int p3), .val (.ref b27), .unset, .unset, .unset, .unset, .unset] [(.ref b27)])
  refine own_via (fun t => XS.iconst X30.here hx rfl (hb hby at_23)) ?_
  show own_E _ _ _ _ _ _ _ T30 (mkF m 24 #[.val (.int p1), .val (.int p2), .val (.int p3), .val (.ref b27), .unset, .unset, .unset, .unset, .unset] [(.int (3 : Int32)), (.ref b27)])
  refine own_via (fun t => XS.iloadN X30.here hx rfl (hb hby at_24) rfl) ?_
  show own_E _ _ _ _ _ _ _ T30 (mkF m 25 #[.val (.int p1), .val (.int p2), .val (.int p3), .val (.ref b27), .unset, .unset, .unset, .unset, .unset] [(.int p2), (.int (3 : Int32)), (.ref b27)])
  refine own_via (fun t => XS.bipush X30.here hx rfl (hb hby at_25)) ?_
  show own_E _ _ _ _ _ _ _ T30 (mkF m 27 #[.val (.int p1), .val (.int p2), .val (.int p3), .val (.ref b27), .unset, .unset, .unset, .unset, .unset] [(.int (16 : Int32)), (.int p2), (.int (3 : Int32)), (.ref b27)])
  refine own_via (fun t => XS.iushr X30.here hx rfl (hb hby at_27) rfl) ?_
  show own_E _ _ _ _ _ _ _ T30 (mkF m 28 #[.val (.int p1), .val (.int p2), .val (.int p3), .val (.ref b27), .unset, .unset, .unset, .unset, .unset] [(.int (own_ushr p2 (16 : Int32))), (.int (3 : Int32)), (.ref b27)])
  refine own_via (fun t => XS.i2c X30.here hx rfl (hb hby at_28) rfl) ?_
  show own_E _ _ _ _ _ _ _ T30 (mkF m 29 #[.val (.int p1), .val (.int p2), .val (.int p3), .val (.ref b27), .unset, .unset, .unset, .unset, .unset] [(.int (nar .char (own_ushr p2 (16 : Int32)))), (.int (3 : Int32)), (.ref b27)])
  obtain ⟨T31, h31, X31, e31, F31, W31, N31, st31⟩ := own_castore (jn := 3) X30 hx hZ e30 F30 (by decide) (by decide) rfl (g := (mkF m 29 #[.val (.int p1), .val (.int p2), .val (.int p3), .val (.ref b27), .unset, .unset, .unset, .unset, .unset] [(.int (nar .char (own_ushr p2 (16 : Int32)))), (.int (3 : Int32)), (.ref b27)])) rfl rfl (hb hby at_29) N30 gz_b27
  refine own_via st31 ?_
  have Z31 : n0 ≤ h31.size := by rw [W31.size]; exact Z30
  show own_E _ _ _ _ _ _ _ T31 (mkF m 30 #[.val (.int p1), .val (.int p2), .val (.int p3), .val (.ref b27), .unset, .unset, .unset, .unset, .unset] [])
  have VI31 := VI30.other W31 hneI
  have SI31 := SI30.wr W31
  obtain ⟨f, hf, Vf⟩ : ∃ f : Nat → Int32, (∀ i, ¬ f i < 0) ∧ own_Ar Z h31 b27 .char 4 f := ⟨_, (own_upd_nn (own_upd_nn (own_upd_nn (own_upd_nn (fun _ => by decide) (own_nn _)) (own_nn _)) (own_nn _)) (own_nn _)), F31⟩
  refine own_via (fun t => XS.iloadN X31.here hx rfl (hb hby at_30) rfl) ?_
  show own_E _ _ _ _ _ _ _ T31 (mkF m 31 #[.val (.int p1), .val (.int p2), .val (.int p3), .val (.ref b27), .unset, .unset, .unset, .unset, .unset] [(.int p3)])
  refine own_via (fun t => XS.bipush X31.here hx rfl (hb hby at_31)) ?_
  show own_E _ _ _ _ _ _ _ T31 (mkF m 33 #[.val (.int p1), .val (.int p2), .val (.int p3), .val (.ref b27), .unset, .unset, .unset, .unset, .unset] [(.int (7 : Int32)), (.int p3)])
  refine own_via (fun t => XS.iand X31.here hx rfl (hb hby at_33) rfl) ?_
  show own_E _ _ _ _ _ _ _ T31 (mkF m 34 #[.val (.int p1), .val (.int p2), .val (.int p3), .val (.ref b27), .unset, .unset, .unset, .unset, .unset] [(.int (p3 &&& (7 : Int32)))])
  refine own_via (fun t => XS.iconst X31.here hx rfl (hb hby at_34)) ?_
  show own_E _ _ _ _ _ _ _ T31 (mkF m 35 #[.val (.int p1), .val (.int p2), .val (.int p3), .val (.ref b27), .unset, .unset, .unset, .unset, .unset] [(.int (5 : Int32)), (.int (p3 &&& (7 : Int32)))])
  refine own_via (fun t => iremM X31 hx rfl (hb hby at_35) rfl (by decide)) ?_
  show own_E _ _ _ _ _ _ _ T31 (mkF m 36 #[.val (.int p1), .val (.int p2), .val (.int p3), .val (.ref b27), .unset, .unset, .unset, .unset, .unset] [(.int ((p3 &&& (7 : Int32)) % (5 : Int32)))])
  obtain ⟨xn, hxn, ex⟩ := own_rem5 p3
  rw [ex]
  show own_E _ _ _ _ _ _ _ T31 (mkF m 36 #[.val (.int p1), .val (.int p2), .val (.int p3), .val (.ref b27), .unset, .unset, .unset, .unset, .unset] [(.int (Int32.ofNat xn))])
  refine own_via (fun t => XS.istore X31.here hx rfl (hb hby at_36) rfl (l' := #[.val (.int p1), .val (.int p2), .val (.int p3), .val (.ref b27), .val (.int (Int32.ofNat xn)), .unset, .unset, .unset, .unset]) rfl) ?_
  show own_E _ _ _ _ _ _ _ T31 (mkF m 38 #[.val (.int p1), .val (.int p2), .val (.int p3), .val (.ref b27), .val (.int (Int32.ofNat xn)), .unset, .unset, .unset, .unset] [])
  refine own_via (fun t => XS.iloadN X31.here hx rfl (hb hby at_38) rfl) ?_
  show own_E _ _ _ _ _ _ _ T31 (mkF m 39 #[.val (.int p1), .val (.int p2), .val (.int p3), .val (.ref b27), .val (.int (Int32.ofNat xn)), .unset, .unset, .unset, .unset] [(.int p3)])
  refine own_via (fun t => XS.iconst X31.here hx rfl (hb hby at_39)) ?_
  show own_E _ _ _ _ _ _ _ T31 (mkF m 40 #[.val (.int p1), .val (.int p2), .val (.int p3), .val (.ref b27), .val (.int (Int32.ofNat xn)), .unset, .unset, .unset, .unset] [(.int (3 : Int32)), (.int p3)])
  refine own_via (fun t => XS.iushr X31.here hx rfl (hb hby at_40) rfl) ?_
  show own_E _ _ _ _ _ _ _ T31 (mkF m 41 #[.val (.int p1), .val (.int p2), .val (.int p3), .val (.ref b27), .val (.int (Int32.ofNat xn)), .unset, .unset, .unset, .unset] [(.int (own_ushr p3 (3 : Int32)))])
  refine own_via (fun t => XS.bipush X31.here hx rfl (hb hby at_41)) ?_
  show own_E _ _ _ _ _ _ _ T31 (mkF m 43 #[.val (.int p1), .val (.int p2), .val (.int p3), .val (.ref b27), .val (.int (Int32.ofNat xn)), .unset, .unset, .unset, .unset] [(.int (7 : Int32)), (.int (own_ushr p3 (3 : Int32)))])
  refine own_via (fun t => XS.iand X31.here hx rfl (hb hby at_43) rfl) ?_
  show own_E _ _ _ _ _ _ _ T31 (mkF m 44 #[.val (.int p1), .val (.int p2), .val (.int p3), .val (.ref b27), .val (.int (Int32.ofNat xn)), .unset, .unset, .unset, .unset] [(.int ((own_ushr p3 (3 : Int32)) &&& (7 : Int32)))])
  refine own_via (fun t => XS.iconst X31.here hx rfl (hb hby at_44)) ?_
  show own_E _ _ _ _ _ _ _ T31 (mkF m 45 #[.val (.int p1), .val (.int p2), .val (.int p3), .val (.ref b27), .val (.int (Int32.ofNat xn)), .unset, .unset, .unset, .unset] [(.int (5 : Int32)), (.int ((own_ushr p3 (3 : Int32)) &&& (7 : Int32)))])
  refine own_via (fun t => iremM X31 hx rfl (hb hby at_45) rfl (by decide)) ?_
  show own_E _ _ _ _ _ _ _ T31 (mkF m 46 #[.val (.int p1), .val (.int p2), .val (.int p3), .val (.ref b27), .val (.int (Int32.ofNat xn)), .unset, .unset, .unset, .unset] [(.int (((own_ushr p3 (3 : Int32)) &&& (7 : Int32)) % (5 : Int32)))])
  obtain ⟨yn, hyn, ey⟩ := own_rem5 (own_ushr p3 (3 : Int32))
  rw [ey]
  show own_E _ _ _ _ _ _ _ T31 (mkF m 46 #[.val (.int p1), .val (.int p2), .val (.int p3), .val (.ref b27), .val (.int (Int32.ofNat xn)), .unset, .unset, .unset, .unset] [(.int (Int32.ofNat yn))])
  obtain ⟨sn, en, hse, he4, emin, emax⟩ := own_mm hxn hyn
  refine own_via (fun t => XS.istore X31.here hx rfl (hb hby at_46) rfl (l' := #[.val (.int p1), .val (.int p2), .val (.int p3), .val (.ref b27), .val (.int (Int32.ofNat xn)), .val (.int (Int32.ofNat yn)), .unset, .unset, .unset]) rfl) ?_
  show own_E _ _ _ _ _ _ _ T31 (mkF m 48 #[.val (.int p1), .val (.int p2), .val (.int p3), .val (.ref b27), .val (.int (Int32.ofNat xn)), .val (.int (Int32.ofNat yn)), .unset, .unset, .unset] [])
  refine own_via (fun t => XS.iload X31.here hx rfl (hb hby at_48) rfl) ?_
  show own_E _ _ _ _ _ _ _ T31 (mkF m 50 #[.val (.int p1), .val (.int p2), .val (.int p3), .val (.ref b27), .val (.int (Int32.ofNat xn)), .val (.int (Int32.ofNat yn)), .unset, .unset, .unset] [(.int (Int32.ofNat xn))])
  refine own_via (fun t => XS.iload X31.here hx rfl (hb hby at_50) rfl) ?_
  show own_E _ _ _ _ _ _ _ T31 (mkF m 52 #[.val (.int p1), .val (.int p2), .val (.int p3), .val (.ref b27), .val (.int (Int32.ofNat xn)), .val (.int (Int32.ofNat yn)), .unset, .unset, .unset] [(.int (Int32.ofNat yn)), (.int (Int32.ofNat xn))])
  obtain ⟨_, _, ⟨T32, L32, k32, n32⟩, -, X32, ⟨Lc32, hQ32, l32, y32, z32⟩, st32⟩ := Jvm.LawKit.callS X31 hx (y := (⟨"java/lang/Math", "min", "(II)I"⟩ : MethodName)) hown (mvT hZ (hw _ (List.mem_of_getElem? (i := 1) rfl))) (mvT hZ (hw _ (List.mem_of_getElem? (i := 2) rfl))) (mvT hZ (hw _ (List.mem_of_getElem? (i := 3) rfl))) (mvT hZ (hw _ (List.mem_of_getElem? (i := 4) rfl))) (by decide) (backOf (W := 0) (rm1 l Z a0 hw [] _ _ h31 n0 Z31) hZ (hw _ (List.mem_of_getElem? (i := 4) rfl)) (hw _ (List.mem_of_getElem? (i := 3) rfl)) (by decide) (by decide)) (g := (mkF m 52 #[.val (.int p1), .val (.int p2), .val (.int p3), .val (.ref b27), .val (.int (Int32.ofNat xn)), .val (.int (Int32.ofNat yn)), .unset, .unset, .unset] [(.int (Int32.ofNat yn)), (.int (Int32.ofNat xn))])) rfl (by rw [hml]; rfl) (argsL := [(.int (Int32.ofNat xn)), (.int (Int32.ofNat yn))]) (rest := []) (lenOf pd_1 rfl) rfl (by show 2 * 0 + _ ≤ _; exact Nat.le_of_eq rfl) (hb hby at_52) (fun _ _ => ⟨rfl, e31, (by decide : 1 + 0 ≤ _), (by decide : 4 + 0 ≤ _)⟩)
  dsimp only [Pt.U, Pt.locs, Pt.cells, Pt.slots] at X32 l32 y32 z32 st32 hQ32
  subst l32 y32 z32
  obtain ⟨rfl, N32, e32⟩ := hQ32
  refine own_via st32 ?_
  show own_E _ _ _ _ _ _ _ T32 (mkF m 55 #[.val (.int p1), .val (.int p2), .val (.int p3), .val (.ref b27), .val (.int (Int32.ofNat xn)), .val (.int (Int32.ofNat yn)), .unset, .unset, .unset] [(.int (own_min (Int32.ofNat xn) (Int32.ofNat yn)))])
  have NA32 := Fr.app N31 N32
  rw [emin]
  show own_E _ _ _ _ _ _ _ T32 (mkF m 55 #[.val (.int p1), .val (.int p2), .val (.int p3), .val (.ref b27), .val (.int (Int32.ofNat xn)), .val (.int (Int32.ofNat yn)), .unset, .unset, .unset] [(.int (Int32.ofNat sn))])
  refine own_via (fun t => XS.istore X32.here hx rfl (hb hby at_55) rfl (l' := #[.val (.int p1), .val (.int p2), .val (.int p3), .val (.ref b27), .val (.int (Int32.ofNat xn)), .val (.int (Int32.ofNat yn)), .val (.int (Int32.ofNat sn)), .unset, .unset]) rfl) ?_
  show own_E _ _ _ _ _ _ _ T32 (mkF m 57 #[.val (.int p1), .val (.int p2), .val (.int p3), .val (.ref b27), .val (.int (Int32.ofNat xn)), .val (.int (Int32.ofNat yn)), .val (.int (Int32.ofNat sn)), .unset, .unset] [])
  refine own_via (fun t => XS.iload X32.here hx rfl (hb hby at_57) rfl) ?_
  show own_E _ _ _ _ _ _ _ T32 (mkF m 59 #[.val (.int p1), .val (.int p2), .val (.int p3), .val (.ref b27), .val (.int (Int32.ofNat xn)), .val (.int (Int32.ofNat yn)), .val (.int (Int32.ofNat sn)), .unset, .unset] [(.int (Int32.ofNat xn))])
  refine own_via (fun t => XS.iload X32.here hx rfl (hb hby at_59) rfl) ?_
  show own_E _ _ _ _ _ _ _ T32 (mkF m 61 #[.val (.int p1), .val (.int p2), .val (.int p3), .val (.ref b27), .val (.int (Int32.ofNat xn)), .val (.int (Int32.ofNat yn)), .val (.int (Int32.ofNat sn)), .unset, .unset] [(.int (Int32.ofNat yn)), (.int (Int32.ofNat xn))])
  obtain ⟨_, _, ⟨T33, L33, k33, n33⟩, -, X33, ⟨Lc33, hQ33, l33, y33, z33⟩, st33⟩ := Jvm.LawKit.callS X32 hx (y := (⟨"java/lang/Math", "max", "(II)I"⟩ : MethodName)) hown (mvT hZ (hw _ (List.mem_of_getElem? (i := 5) rfl))) (mvT hZ (hw _ (List.mem_of_getElem? (i := 6) rfl))) (mvT hZ (hw _ (List.mem_of_getElem? (i := 3) rfl))) (mvT hZ (hw _ (List.mem_of_getElem? (i := 7) rfl))) (by decide) (backOf (W := 0) (rm2 l Z a0 hw [] _ _ h31 n0 Z31) hZ (hw _ (List.mem_of_getElem? (i := 7) rfl)) (hw _ (List.mem_of_getElem? (i := 3) rfl)) (by decide) (by decide)) (g := (mkF m 61 #[.val (.int p1), .val (.int p2), .val (.int p3), .val (.ref b27), .val (.int (Int32.ofNat xn)), .val (.int (Int32.ofNat yn)), .val (.int (Int32.ofNat sn)), .unset, .unset] [(.int (Int32.ofNat yn)), (.int (Int32.ofNat xn))])) rfl (by rw [hml]; rfl) (argsL := [(.int (Int32.ofNat xn)), (.int (Int32.ofNat yn))]) (rest := []) (lenOf pd_1 rfl) rfl (by show 2 * 0 + _ ≤ _; exact Nat.le_of_eq rfl) (hb hby at_61) (fun _ _ => ⟨rfl, e32, (by decide : 1 + 0 ≤ _), (by decide : 4 + 0 ≤ _)⟩)
  dsimp only [Pt.U, Pt.locs, Pt.cells, Pt.slots] at X33 l33 y33 z33 st33 hQ33
  subst l33 y33 z33
  obtain ⟨rfl, N33, e33⟩ := hQ33
  refine own_via st33 ?_
  show own_E _ _ _ _ _ _ _ T33 (mkF m 64 #[.val (.int p1), .val (.int p2), .val (.int p3), .val (.ref b27), .val (.int (Int32.ofNat xn)), .val (.int (Int32.ofNat yn)), .val (.int (Int32.ofNat sn)), .unset, .unset] [(.int (own_max (Int32.ofNat xn) (Int32.ofNat yn)))])
  have NA33 := Fr.app NA32 N33
  rw [emax]
  show own_E _ _ _ _ _ _ _ T33 (mkF m 64 #[.val (.int p1), .val (.int p2), .val (.int p3), .val (.ref b27), .val (.int (Int32.ofNat xn)), .val (.int (Int32.ofNat yn)), .val (.int (Int32.ofNat sn)), .unset, .unset] [(.int (Int32.ofNat en))])
  refine own_via (fun t => XS.istore X33.here hx rfl (hb hby at_64) rfl (l' := #[.val (.int p1), .val (.int p2), .val (.int p3), .val (.ref b27), .val (.int (Int32.ofNat xn)), .val (.int (Int32.ofNat yn)), .val (.int (Int32.ofNat sn)), .val (.int (Int32.ofNat en)), .unset]) rfl) ?_
  show own_E _ _ _ _ _ _ _ T33 (mkF m 66 #[.val (.int p1), .val (.int p2), .val (.int p3), .val (.ref b27), .val (.int (Int32.ofNat xn)), .val (.int (Int32.ofNat yn)), .val (.int (Int32.ofNat sn)), .val (.int (Int32.ofNat en)), .unset] [])
  refine own_via (fun t => XS.aloadN X33.here hx rfl (hb hby at_66) rfl rfl) ?_
  show own_E _ _ _ _ _ _ _ T33 (mkF m 67 #[.val (.int p1), .val (.int p2), .val (.int p3), .val (.ref b27), .val (.int (Int32.ofNat xn)), .val (.int (Int32.ofNat yn)), .val (.int (Int32.ofNat sn)), .val (.int (Int32.ofNat en)), .unset] [(.ref b27)])
  refine own_via (fun t => XS.iconst X33.here hx rfl (hb hby at_67)) ?_
  show own_E _ _ _ _ _ _ _ T33 (mkF m 68 #[.val (.int p1), .val (.int p2), .val (.int p3), .val (.ref b27), .val (.int (Int32.ofNat xn)), .val (.int (Int32.ofNat yn)), .val (.int (Int32.ofNat sn)), .val (.int (Int32.ofNat en)), .unset] [(.int (0 : Int32)), (.ref b27)])
  refine own_via (fun t => XS.iload X33.here hx rfl (hb hby at_68) rfl) ?_
  show own_E _ _ _ _ _ _ _ T33 (mkF m 70 #[.val (.int p1), .val (.int p2), .val (.int p3), .val (.ref b27), .val (.int (Int32.ofNat xn)), .val (.int (Int32.ofNat yn)), .val (.int (Int32.ofNat sn)), .val (.int (Int32.ofNat en)), .unset] [(.int (Int32.ofNat sn)), (.int (0 : Int32)), (.ref b27)])
  refine own_via (fun t => XS.iload X33.here hx rfl (hb hby at_70) rfl) ?_
  show own_E _ _ _ _ _ _ _ T33 (mkF m 72 #[.val (.int p1), .val (.int p2), .val (.int p3), .val (.ref b27), .val (.int (Int32.ofNat xn)), .val (.int (Int32.ofNat yn)), .val (.int (Int32.ofNat sn)), .val (.int (Int32.ofNat en)), .unset] [(.int (Int32.ofNat en)), (.int (Int32.ofNat sn)), (.int (0 : Int32)), (.ref b27)])
  obtain ⟨_, _, ⟨T34, L34, k34, n34⟩, -, X34, ⟨Lc34, hQ34, l34, y34, z34⟩, st34⟩ := Jvm.LawKit.callS X33 hx (y := (⟨"com/example/poruka/poruka/fin/SwiftCharactersHoldsOnlyPinLaw", "at", "([CIII)Z"⟩ : MethodName)) hown (mvT hZ (hw _ (List.mem_of_getElem? (i := 8) rfl))) (mvT hZ (hw _ (List.mem_of_getElem? (i := 9) rfl))) (mvT hZ (hw _ (List.mem_of_getElem? (i := 10) rfl))) (mvT hZ (hw _ (List.mem_of_getElem? (i := 11) rfl))) (by decide) (backOf (W := 0) (rm3 l Z a0 hw [] b27 (0 : Int32) (Int32.ofNat sn) (Int32.ofNat en) 0 f (by decide) rfl h31 n0 Z31 Vf) hZ (hw _ (List.mem_of_getElem? (i := 11) rfl)) (hw _ (List.mem_of_getElem? (i := 10) rfl)) (by decide) (by decide)) (g := (mkF m 72 #[.val (.int p1), .val (.int p2), .val (.int p3), .val (.ref b27), .val (.int (Int32.ofNat xn)), .val (.int (Int32.ofNat yn)), .val (.int (Int32.ofNat sn)), .val (.int (Int32.ofNat en)), .unset] [(.int (Int32.ofNat en)), (.int (Int32.ofNat sn)), (.int (0 : Int32)), (.ref b27)])) rfl (by rw [hml]; rfl) (argsL := [(.ref b27), (.int (0 : Int32)), (.int (Int32.ofNat sn)), (.int (Int32.ofNat en))]) (rest := []) (lenOf pd_3 rfl) rfl (by show 2 * 0 + _ ≤ _; exact Nat.le_of_eq rfl) (hb hby at_72) (fun _ _ => ⟨rfl, e33, (by decide : 1 + 0 ≤ _), (by decide : 4 + 0 ≤ _)⟩)
  dsimp only [Pt.U, Pt.locs, Pt.cells, Pt.slots] at X34 l34 y34 z34 st34 hQ34
  subst l34 y34 z34
  obtain ⟨rfl, N34, e34⟩ := hQ34
  refine own_via st34 ?_
  show own_E _ _ _ _ _ _ _ T34 (mkF m 75 #[.val (.int p1), .val (.int p2), .val (.int p3), .val (.ref b27), .val (.int (Int32.ofNat xn)), .val (.int (Int32.ofNat yn)), .val (.int (Int32.ofNat sn)), .val (.int (Int32.ofNat en)), .unset] [(.int (own_at (0 : Int32) (Int32.ofNat sn) (Int32.ofNat en) (f 0)))])
  have NA34 := Fr.app NA33 N34
  by_cases c75_35 : (own_at (0 : Int32) (Int32.ofNat sn) (Int32.ofNat en) (f 0)) = (0 : Int32)
  · refine own_via (fun t => XS.ifYes X34.here hx rfl (pc0 := 75) (pc' := 118) rfl (hb hby at_75) rfl ((if0 _ _).trans (teq c75_35).1) (by decide) (by decide)) ?_
    show own_E _ _ _ _ _ _ _ T34 (mkF m 118 #[.val (.int p1), .val (.int p2), .val (.int p3), .val (.ref b27), .val (.int (Int32.ofNat xn)), .val (.int (Int32.ofNat yn)), .val (.int (Int32.ofNat sn)), .val (.int (Int32.ofNat en)), .unset] [])
    refine own_via (fun t => XS.iconst X34.here hx rfl (hb hby at_118)) ?_
    show own_E _ _ _ _ _ _ _ T34 (mkF m 119 #[.val (.int p1), .val (.int p2), .val (.int p3), .val (.ref b27), .val (.int (Int32.ofNat xn)), .val (.int (Int32.ofNat yn)), .val (.int (Int32.ofNat sn)), .val (.int (Int32.ofNat en)), .unset] [(.int (0 : Int32))])
    refine own_via (fun t => XS.istore X34.here hx rfl (hb hby at_119) rfl (l' := #[.val (.int p1), .val (.int p2), .val (.int p3), .val (.ref b27), .val (.int (Int32.ofNat xn)), .val (.int (Int32.ofNat yn)), .val (.int (Int32.ofNat sn)), .val (.int (Int32.ofNat en)), .val (.int (0 : Int32))]) rfl) ?_
    show own_E _ _ _ _ _ _ _ T34 (mkF m 121 #[.val (.int p1), .val (.int p2), .val (.int p3), .val (.ref b27), .val (.int (Int32.ofNat xn)), .val (.int (Int32.ofNat yn)), .val (.int (Int32.ofNat sn)), .val (.int (Int32.ofNat en)), .val (.int (0 : Int32))] [])
    refine own_via (fun t => XS.aloadN X34.here hx rfl (hb hby at_121) rfl rfl) ?_
    show own_E _ _ _ _ _ _ _ T34 (mkF m 122 #[.val (.int p1), .val (.int p2), .val (.int p3), .val (.ref b27), .val (.int (Int32.ofNat xn)), .val (.int (Int32.ofNat yn)), .val (.int (Int32.ofNat sn)), .val (.int (Int32.ofNat en)), .val (.int (0 : Int32))] [(.ref b27)])
    refine own_via (fun t => XS.iload X34.here hx rfl (hb hby at_122) rfl) ?_
    show own_E _ _ _ _ _ _ _ T34 (mkF m 124 #[.val (.int p1), .val (.int p2), .val (.int p3), .val (.ref b27), .val (.int (Int32.ofNat xn)), .val (.int (Int32.ofNat yn)), .val (.int (Int32.ofNat sn)), .val (.int (Int32.ofNat en)), .val (.int (0 : Int32))] [(.int (Int32.ofNat sn)), (.ref b27)])
    refine own_via (fun t => XS.iload X34.here hx rfl (hb hby at_124) rfl) ?_
    show own_E _ _ _ _ _ _ _ T34 (mkF m 126 #[.val (.int p1), .val (.int p2), .val (.int p3), .val (.ref b27), .val (.int (Int32.ofNat xn)), .val (.int (Int32.ofNat yn)), .val (.int (Int32.ofNat sn)), .val (.int (Int32.ofNat en)), .val (.int (0 : Int32))] [(.int (Int32.ofNat en)), (.int (Int32.ofNat sn)), (.ref b27)])
    obtain ⟨_, _, ⟨T36, L36, k36, n36⟩, -, X36, ⟨Lc36, hQ36, l36, y36, z36⟩, st36⟩ := Jvm.LawKit.callS X34 hx (y := (⟨"com/example/poruka/poruka/fin/SwiftCharacters", "holdsOnly", "([CII)Z"⟩ : MethodName)) hown (mvT hZ (hw _ (List.mem_of_getElem? (i := 15) rfl))) (mvT hZ (hw _ (List.mem_of_getElem? (i := 16) rfl))) (mvT hZ (hw _ (List.mem_of_getElem? (i := 17) rfl))) (mvT hZ (hw _ (List.mem_of_getElem? (i := 18) rfl))) (by decide) (backOf (W := 0) (rm5 l Z a0 hw [] b27 aI sn en f hse he4 hf h31 n0 Z31 Vf VI31 SI31) hZ (hw _ (List.mem_of_getElem? (i := 18) rfl)) (hw _ (List.mem_of_getElem? (i := 17) rfl)) (by decide) (by decide)) (g := (mkF m 126 #[.val (.int p1), .val (.int p2), .val (.int p3), .val (.ref b27), .val (.int (Int32.ofNat xn)), .val (.int (Int32.ofNat yn)), .val (.int (Int32.ofNat sn)), .val (.int (Int32.ofNat en)), .val (.int (0 : Int32))] [(.int (Int32.ofNat en)), (.int (Int32.ofNat sn)), (.ref b27)])) rfl (by rw [hml]; rfl) (argsL := [(.ref b27), (.int (Int32.ofNat sn)), (.int (Int32.ofNat en))]) (rest := []) (lenOf pd_5 rfl) rfl (by show 2 * 0 + _ ≤ _; exact Nat.le_of_eq rfl) (hb hby at_126) (fun _ _ => ⟨rfl, e34, (by decide : 1 + 0 ≤ _), (by decide : 4 + 0 ≤ _)⟩)
    dsimp only [Pt.U, Pt.locs, Pt.cells, Pt.slots] at X36 l36 y36 z36 st36 hQ36
    subst l36 y36 z36
    obtain ⟨rfl, N36, e36⟩ := hQ36
    refine own_via st36 ?_
    show own_E _ _ _ _ _ _ _ T36 (mkF m 129 #[.val (.int p1), .val (.int p2), .val (.int p3), .val (.ref b27), .val (.int (Int32.ofNat xn)), .val (.int (Int32.ofNat yn)), .val (.int (Int32.ofNat sn)), .val (.int (Int32.ofNat en)), .val (.int (0 : Int32))] [(.int (own_all f sn (en - sn)))])
    rw [own_fin f hse he4, own_exp, if_pos c75_35]
    show own_E _ _ _ _ _ _ _ T36 (mkF m 129 #[.val (.int p1), .val (.int p2), .val (.int p3), .val (.ref b27), .val (.int (Int32.ofNat xn)), .val (.int (Int32.ofNat yn)), .val (.int (Int32.ofNat sn)), .val (.int (Int32.ofNat en)), .val (.int (0 : Int32))] [(.int (0 : Int32))])
    refine own_via (fun t => XS.iload X36.here hx rfl (hb hby at_129) rfl) ?_
    show own_E _ _ _ _ _ _ _ T36 (mkF m 131 #[.val (.int p1), .val (.int p2), .val (.int p3), .val (.ref b27), .val (.int (Int32.ofNat xn)), .val (.int (Int32.ofNat yn)), .val (.int (Int32.ofNat sn)), .val (.int (Int32.ofNat en)), .val (.int (0 : Int32))] [(.int (0 : Int32)), (.int (0 : Int32))])
    refine own_via (fun t => XS.icmpNo X36.here hx rfl (hb hby at_131) rfl (teq (by decide : (0 : Int32) = (0 : Int32))).2) ?_
    show own_E _ _ _ _ _ _ _ T36 (mkF m 134 #[.val (.int p1), .val (.int p2), .val (.int p3), .val (.ref b27), .val (.int (Int32.ofNat xn)), .val (.int (Int32.ofNat yn)), .val (.int (Int32.ofNat sn)), .val (.int (Int32.ofNat en)), .val (.int (0 : Int32))] [])
    refine own_via (fun t => XS.iconst X36.here hx rfl (hb hby at_134)) ?_
    show own_E _ _ _ _ _ _ _ T36 (mkF m 135 #[.val (.int p1), .val (.int p2), .val (.int p3), .val (.ref b27), .val (.int (Int32.ofNat xn)), .val (.int (Int32.ofNat yn)), .val (.int (Int32.ofNat sn)), .val (.int (Int32.ofNat en)), .val (.int (0 : Int32))] [(.int (1 : Int32))])
    refine own_via (fun t => XS.goto X36.here hx rfl (pc0 := 135) (pc' := 139) rfl (hb hby at_135) (by decide) (by decide)) ?_
    show own_E _ _ _ _ _ _ _ T36 (mkF m 139 #[.val (.int p1), .val (.int p2), .val (.int p3), .val (.ref b27), .val (.int (Int32.ofNat xn)), .val (.int (Int32.ofNat yn)), .val (.int (Int32.ofNat sn)), .val (.int (Int32.ofNat en)), .val (.int (0 : Int32))] [(.int (1 : Int32))])
    exact own_retN X36 hx hlk Bd.returns (Or.inl rfl) (hb hby at_139) (by decide) (by decide) ⟨rfl, Fr.app NA34 N36⟩
  · refine own_via (fun t => XS.ifNo X34.here hx rfl (hb hby at_75) rfl ((if0 _ _).trans (feq c75_35).1)) ?_
    show own_E _ _ _ _ _ _ _ T34 (mkF m 78 #[.val (.int p1), .val (.int p2), .val (.int p3), .val (.ref b27), .val (.int (Int32.ofNat xn)), .val (.int (Int32.ofNat yn)), .val (.int (Int32.ofNat sn)), .val (.int (Int32.ofNat en)), .unset] [])
    refine own_via (fun t => XS.aloadN X34.here hx rfl (hb hby at_78) rfl rfl) ?_
    show own_E _ _ _ _ _ _ _ T34 (mkF m 79 #[.val (.int p1), .val (.int p2), .val (.int p3), .val (.ref b27), .val (.int (Int32.ofNat xn)), .val (.int (Int32.ofNat yn)), .val (.int (Int32.ofNat sn)), .val (.int (Int32.ofNat en)), .unset] [(.ref b27)])
    refine own_via (fun t => XS.iconst X34.here hx rfl (hb hby at_79)) ?_
    show own_E _ _ _ _ _ _ _ T34 (mkF m 80 #[.val (.int p1), .val (.int p2), .val (.int p3), .val (.ref b27), .val (.int (Int32.ofNat xn)), .val (.int (Int32.ofNat yn)), .val (.int (Int32.ofNat sn)), .val (.int (Int32.ofNat en)), .unset] [(.int (1 : Int32)), (.ref b27)])
    refine own_via (fun t => XS.iload X34.here hx rfl (hb hby at_80) rfl) ?_
    show own_E _ _ _ _ _ _ _ T34 (mkF m 82 #[.val (.int p1), .val (.int p2), .val (.int p3), .val (.ref b27), .val (.int (Int32.ofNat xn)), .val (.int (Int32.ofNat yn)), .val (.int (Int32.ofNat sn)), .val (.int (Int32.ofNat en)), .unset] [(.int (Int32.ofNat sn)), (.int (1 : Int32)), (.ref b27)])
    refine own_via (fun t => XS.iload X34.here hx rfl (hb hby at_82) rfl) ?_
    show own_E _ _ _ _ _ _ _ T34 (mkF m 84 #[.val (.int p1), .val (.int p2), .val (.int p3), .val (.ref b27), .val (.int (Int32.ofNat xn)), .val (.int (Int32.ofNat yn)), .val (.int (Int32.ofNat sn)), .val (.int (Int32.ofNat en)), .unset] [(.int (Int32.ofNat en)), (.int (Int32.ofNat sn)), (.int (1 : Int32)), (.ref b27)])
    obtain ⟨_, _, ⟨T37, L37, k37, n37⟩, -, X37, ⟨Lc37, hQ37, l37, y37, z37⟩, st37⟩ := Jvm.LawKit.callS X34 hx (y := (⟨"com/example/poruka/poruka/fin/SwiftCharactersHoldsOnlyPinLaw", "at", "([CIII)Z"⟩ : MethodName)) hown (mvT hZ (hw _ (List.mem_of_getElem? (i := 8) rfl))) (mvT hZ (hw _ (List.mem_of_getElem? (i := 9) rfl))) (mvT hZ (hw _ (List.mem_of_getElem? (i := 10) rfl))) (mvT hZ (hw _ (List.mem_of_getElem? (i := 11) rfl))) (by decide) (backOf (W := 0) (rm3 l Z a0 hw [] b27 (1 : Int32) (Int32.ofNat sn) (Int32.ofNat en) 1 f (by decide) rfl h31 n0 Z31 Vf) hZ (hw _ (List.mem_of_getElem? (i := 11) rfl)) (hw _ (List.mem_of_getElem? (i := 10) rfl)) (by decide) (by decide)) (g := (mkF m 84 #[.val (.int p1), .val (.int p2), .val (.int p3), .val (.ref b27), .val (.int (Int32.ofNat xn)), .val (.int (Int32.ofNat yn)), .val (.int (Int32.ofNat sn)), .val (.int (Int32.ofNat en)), .unset] [(.int (Int32.ofNat en)), (.int (Int32.ofNat sn)), (.int (1 : Int32)), (.ref b27)])) rfl (by rw [hml]; rfl) (argsL := [(.ref b27), (.int (1 : Int32)), (.int (Int32.ofNat sn)), (.int (Int32.ofNat en))]) (rest := []) (lenOf pd_3 rfl) rfl (by show 2 * 0 + _ ≤ _; exact Nat.le_of_eq rfl) (hb hby at_84) (fun _ _ => ⟨rfl, e34, (by decide : 1 + 0 ≤ _), (by decide : 4 + 0 ≤ _)⟩)
    dsimp only [Pt.U, Pt.locs, Pt.cells, Pt.slots] at X37 l37 y37 z37 st37 hQ37
    subst l37 y37 z37
    obtain ⟨rfl, N37, e37⟩ := hQ37
    refine own_via st37 ?_
    show own_E _ _ _ _ _ _ _ T37 (mkF m 87 #[.val (.int p1), .val (.int p2), .val (.int p3), .val (.ref b27), .val (.int (Int32.ofNat xn)), .val (.int (Int32.ofNat yn)), .val (.int (Int32.ofNat sn)), .val (.int (Int32.ofNat en)), .unset] [(.int (own_at (1 : Int32) (Int32.ofNat sn) (Int32.ofNat en) (f 1)))])
    have NA37 := Fr.app NA34 N37
    by_cases c87_38 : (own_at (1 : Int32) (Int32.ofNat sn) (Int32.ofNat en) (f 1)) = (0 : Int32)
    · refine own_via (fun t => XS.ifYes X37.here hx rfl (pc0 := 87) (pc' := 118) rfl (hb hby at_87) rfl ((if0 _ _).trans (teq c87_38).1) (by decide) (by decide)) ?_
      show own_E _ _ _ _ _ _ _ T37 (mkF m 118 #[.val (.int p1), .val (.int p2), .val (.int p3), .val (.ref b27), .val (.int (Int32.ofNat xn)), .val (.int (Int32.ofNat yn)), .val (.int (Int32.ofNat sn)), .val (.int (Int32.ofNat en)), .unset] [])
      refine own_via (fun t => XS.iconst X37.here hx rfl (hb hby at_118)) ?_
      show own_E _ _ _ _ _ _ _ T37 (mkF m 119 #[.val (.int p1), .val (.int p2), .val (.int p3), .val (.ref b27), .val (.int (Int32.ofNat xn)), .val (.int (Int32.ofNat yn)), .val (.int (Int32.ofNat sn)), .val (.int (Int32.ofNat en)), .unset] [(.int (0 : Int32))])
      refine own_via (fun t => XS.istore X37.here hx rfl (hb hby at_119) rfl (l' := #[.val (.int p1), .val (.int p2), .val (.int p3), .val (.ref b27), .val (.int (Int32.ofNat xn)), .val (.int (Int32.ofNat yn)), .val (.int (Int32.ofNat sn)), .val (.int (Int32.ofNat en)), .val (.int (0 : Int32))]) rfl) ?_
      show own_E _ _ _ _ _ _ _ T37 (mkF m 121 #[.val (.int p1), .val (.int p2), .val (.int p3), .val (.ref b27), .val (.int (Int32.ofNat xn)), .val (.int (Int32.ofNat yn)), .val (.int (Int32.ofNat sn)), .val (.int (Int32.ofNat en)), .val (.int (0 : Int32))] [])
      refine own_via (fun t => XS.aloadN X37.here hx rfl (hb hby at_121) rfl rfl) ?_
      show own_E _ _ _ _ _ _ _ T37 (mkF m 122 #[.val (.int p1), .val (.int p2), .val (.int p3), .val (.ref b27), .val (.int (Int32.ofNat xn)), .val (.int (Int32.ofNat yn)), .val (.int (Int32.ofNat sn)), .val (.int (Int32.ofNat en)), .val (.int (0 : Int32))] [(.ref b27)])
      refine own_via (fun t => XS.iload X37.here hx rfl (hb hby at_122) rfl) ?_
      show own_E _ _ _ _ _ _ _ T37 (mkF m 124 #[.val (.int p1), .val (.int p2), .val (.int p3), .val (.ref b27), .val (.int (Int32.ofNat xn)), .val (.int (Int32.ofNat yn)), .val (.int (Int32.ofNat sn)), .val (.int (Int32.ofNat en)), .val (.int (0 : Int32))] [(.int (Int32.ofNat sn)), (.ref b27)])
      refine own_via (fun t => XS.iload X37.here hx rfl (hb hby at_124) rfl) ?_
      show own_E _ _ _ _ _ _ _ T37 (mkF m 126 #[.val (.int p1), .val (.int p2), .val (.int p3), .val (.ref b27), .val (.int (Int32.ofNat xn)), .val (.int (Int32.ofNat yn)), .val (.int (Int32.ofNat sn)), .val (.int (Int32.ofNat en)), .val (.int (0 : Int32))] [(.int (Int32.ofNat en)), (.int (Int32.ofNat sn)), (.ref b27)])
      obtain ⟨_, _, ⟨T39, L39, k39, n39⟩, -, X39, ⟨Lc39, hQ39, l39, y39, z39⟩, st39⟩ := Jvm.LawKit.callS X37 hx (y := (⟨"com/example/poruka/poruka/fin/SwiftCharacters", "holdsOnly", "([CII)Z"⟩ : MethodName)) hown (mvT hZ (hw _ (List.mem_of_getElem? (i := 15) rfl))) (mvT hZ (hw _ (List.mem_of_getElem? (i := 16) rfl))) (mvT hZ (hw _ (List.mem_of_getElem? (i := 17) rfl))) (mvT hZ (hw _ (List.mem_of_getElem? (i := 18) rfl))) (by decide) (backOf (W := 0) (rm5 l Z a0 hw [] b27 aI sn en f hse he4 hf h31 n0 Z31 Vf VI31 SI31) hZ (hw _ (List.mem_of_getElem? (i := 18) rfl)) (hw _ (List.mem_of_getElem? (i := 17) rfl)) (by decide) (by decide)) (g := (mkF m 126 #[.val (.int p1), .val (.int p2), .val (.int p3), .val (.ref b27), .val (.int (Int32.ofNat xn)), .val (.int (Int32.ofNat yn)), .val (.int (Int32.ofNat sn)), .val (.int (Int32.ofNat en)), .val (.int (0 : Int32))] [(.int (Int32.ofNat en)), (.int (Int32.ofNat sn)), (.ref b27)])) rfl (by rw [hml]; rfl) (argsL := [(.ref b27), (.int (Int32.ofNat sn)), (.int (Int32.ofNat en))]) (rest := []) (lenOf pd_5 rfl) rfl (by show 2 * 0 + _ ≤ _; exact Nat.le_of_eq rfl) (hb hby at_126) (fun _ _ => ⟨rfl, e37, (by decide : 1 + 0 ≤ _), (by decide : 4 + 0 ≤ _)⟩)
      dsimp only [Pt.U, Pt.locs, Pt.cells, Pt.slots] at X39 l39 y39 z39 st39 hQ39
      subst l39 y39 z39
      obtain ⟨rfl, N39, e39⟩ := hQ39
      refine own_via st39 ?_
      show own_E _ _ _ _ _ _ _ T39 (mkF m 129 #[.val (.int p1), .val (.int p2), .val (.int p3), .val (.ref b27), .val (.int (Int32.ofNat xn)), .val (.int (Int32.ofNat yn)), .val (.int (Int32.ofNat sn)), .val (.int (Int32.ofNat en)), .val (.int (0 : Int32))] [(.int (own_all f sn (en - sn)))])
      rw [own_fin f hse he4, own_exp, if_neg c75_35, if_pos c87_38]
      show own_E _ _ _ _ _ _ _ T39 (mkF m 129 #[.val (.int p1), .val (.int p2), .val (.int p3), .val (.ref b27), .val (.int (Int32.ofNat xn)), .val (.int (Int32.ofNat yn)), .val (.int (Int32.ofNat sn)), .val (.int (Int32.ofNat en)), .val (.int (0 : Int32))] [(.int (0 : Int32))])
      refine own_via (fun t => XS.iload X39.here hx rfl (hb hby at_129) rfl) ?_
      show own_E _ _ _ _ _ _ _ T39 (mkF m 131 #[.val (.int p1), .val (.int p2), .val (.int p3), .val (.ref b27), .val (.int (Int32.ofNat xn)), .val (.int (Int32.ofNat yn)), .val (.int (Int32.ofNat sn)), .val (.int (Int32.ofNat en)), .val (.int (0 : Int32))] [(.int (0 : Int32)), (.int (0 : Int32))])
      refine own_via (fun t => XS.icmpNo X39.here hx rfl (hb hby at_131) rfl (teq (by decide : (0 : Int32) = (0 : Int32))).2) ?_
      show own_E _ _ _ _ _ _ _ T39 (mkF m 134 #[.val (.int p1), .val (.int p2), .val (.int p3), .val (.ref b27), .val (.int (Int32.ofNat xn)), .val (.int (Int32.ofNat yn)), .val (.int (Int32.ofNat sn)), .val (.int (Int32.ofNat en)), .val (.int (0 : Int32))] [])
      refine own_via (fun t => XS.iconst X39.here hx rfl (hb hby at_134)) ?_
      show own_E _ _ _ _ _ _ _ T39 (mkF m 135 #[.val (.int p1), .val (.int p2), .val (.int p3), .val (.ref b27), .val (.int (Int32.ofNat xn)), .val (.int (Int32.ofNat yn)), .val (.int (Int32.ofNat sn)), .val (.int (Int32.ofNat en)), .val (.int (0 : Int32))] [(.int (1 : Int32))])
      refine own_via (fun t => XS.goto X39.here hx rfl (pc0 := 135) (pc' := 139) rfl (hb hby at_135) (by decide) (by decide)) ?_
      show own_E _ _ _ _ _ _ _ T39 (mkF m 139 #[.val (.int p1), .val (.int p2), .val (.int p3), .val (.ref b27), .val (.int (Int32.ofNat xn)), .val (.int (Int32.ofNat yn)), .val (.int (Int32.ofNat sn)), .val (.int (Int32.ofNat en)), .val (.int (0 : Int32))] [(.int (1 : Int32))])
      exact own_retN X39 hx hlk Bd.returns (Or.inl rfl) (hb hby at_139) (by decide) (by decide) ⟨rfl, Fr.app NA37 N39⟩
    · refine own_via (fun t => XS.ifNo X37.here hx rfl (hb hby at_87) rfl ((if0 _ _).trans (feq c87_38).1)) ?_
      show own_E _ _ _ _ _ _ _ T37 (mkF m 90 #[.val (.int p1), .val (.int p2), .val (.int p3), .val (.ref b27), .val (.int (Int32.ofNat xn)), .val (.int (Int32.ofNat yn)), .val (.int (Int32.ofNat sn)), .val (.int (Int32.ofNat en)), .unset] [])
      refine own_via (fun t => XS.aloadN X37.here hx rfl (hb hby at_90) rfl rfl) ?_
      show own_E _ _ _ _ _ _ _ T37 (mkF m 91 #[.val (.int p1), .val (.int p2), .val (.int p3), .val (.ref b27), .val (.int (Int32.ofNat xn)), .val (.int (Int32.ofNat yn)), .val (.int (Int32.ofNat sn)), .val (.int (Int32.ofNat en)), .unset] [(.ref b27)])
      refine own_via (fun t => XS.iconst X37.here hx rfl (hb hby at_91)) ?_
      show own_E _ _ _ _ _ _ _ T37 (mkF m 92 #[.val (.int p1), .val (.int p2), .val (.int p3), .val (.ref b27), .val (.int (Int32.ofNat xn)), .val (.int (Int32.ofNat yn)), .val (.int (Int32.ofNat sn)), .val (.int (Int32.ofNat en)), .unset] [(.int (2 : Int32)), (.ref b27)])
      refine own_via (fun t => XS.iload X37.here hx rfl (hb hby at_92) rfl) ?_
      show own_E _ _ _ _ _ _ _ T37 (mkF m 94 #[.val (.int p1), .val (.int p2), .val (.int p3), .val (.ref b27), .val (.int (Int32.ofNat xn)), .val (.int (Int32.ofNat yn)), .val (.int (Int32.ofNat sn)), .val (.int (Int32.ofNat en)), .unset] [(.int (Int32.ofNat sn)), (.int (2 : Int32)), (.ref b27)])
      refine own_via (fun t => XS.iload X37.here hx rfl (hb hby at_94) rfl) ?_
      show own_E _ _ _ _ _ _ _ T37 (mkF m 96 #[.val (.int p1), .val (.int p2), .val (.int p3), .val (.ref b27), .val (.int (Int32.ofNat xn)), .val (.int (Int32.ofNat yn)), .val (.int (Int32.ofNat sn)), .val (.int (Int32.ofNat en)), .unset] [(.int (Int32.ofNat en)), (.int (Int32.ofNat sn)), (.int (2 : Int32)), (.ref b27)])
      obtain ⟨_, _, ⟨T40, L40, k40, n40⟩, -, X40, ⟨Lc40, hQ40, l40, y40, z40⟩, st40⟩ := Jvm.LawKit.callS X37 hx (y := (⟨"com/example/poruka/poruka/fin/SwiftCharactersHoldsOnlyPinLaw", "at", "([CIII)Z"⟩ : MethodName)) hown (mvT hZ (hw _ (List.mem_of_getElem? (i := 8) rfl))) (mvT hZ (hw _ (List.mem_of_getElem? (i := 9) rfl))) (mvT hZ (hw _ (List.mem_of_getElem? (i := 10) rfl))) (mvT hZ (hw _ (List.mem_of_getElem? (i := 11) rfl))) (by decide) (backOf (W := 0) (rm3 l Z a0 hw [] b27 (2 : Int32) (Int32.ofNat sn) (Int32.ofNat en) 2 f (by decide) rfl h31 n0 Z31 Vf) hZ (hw _ (List.mem_of_getElem? (i := 11) rfl)) (hw _ (List.mem_of_getElem? (i := 10) rfl)) (by decide) (by decide)) (g := (mkF m 96 #[.val (.int p1), .val (.int p2), .val (.int p3), .val (.ref b27), .val (.int (Int32.ofNat xn)), .val (.int (Int32.ofNat yn)), .val (.int (Int32.ofNat sn)), .val (.int (Int32.ofNat en)), .unset] [(.int (Int32.ofNat en)), (.int (Int32.ofNat sn)), (.int (2 : Int32)), (.ref b27)])) rfl (by rw [hml]; rfl) (argsL := [(.ref b27), (.int (2 : Int32)), (.int (Int32.ofNat sn)), (.int (Int32.ofNat en))]) (rest := []) (lenOf pd_3 rfl) rfl (by show 2 * 0 + _ ≤ _; exact Nat.le_of_eq rfl) (hb hby at_96) (fun _ _ => ⟨rfl, e37, (by decide : 1 + 0 ≤ _), (by decide : 4 + 0 ≤ _)⟩)
      dsimp only [Pt.U, Pt.locs, Pt.cells, Pt.slots] at X40 l40 y40 z40 st40 hQ40
      subst l40 y40 z40
      obtain ⟨rfl, N40, e40⟩ := hQ40
      refine own_via st40 ?_
      show own_E _ _ _ _ _ _ _ T40 (mkF m 99 #[.val (.int p1), .val (.int p2), .val (.int p3), .val (.ref b27), .val (.int (Int32.ofNat xn)), .val (.int (Int32.ofNat yn)), .val (.int (Int32.ofNat sn)), .val (.int (Int32.ofNat en)), .unset] [(.int (own_at (2 : Int32) (Int32.ofNat sn) (Int32.ofNat en) (f 2)))])
      have NA40 := Fr.app NA37 N40
      by_cases c99_41 : (own_at (2 : Int32) (Int32.ofNat sn) (Int32.ofNat en) (f 2)) = (0 : Int32)
      · refine own_via (fun t => XS.ifYes X40.here hx rfl (pc0 := 99) (pc' := 118) rfl (hb hby at_99) rfl ((if0 _ _).trans (teq c99_41).1) (by decide) (by decide)) ?_
        show own_E _ _ _ _ _ _ _ T40 (mkF m 118 #[.val (.int p1), .val (.int p2), .val (.int p3), .val (.ref b27), .val (.int (Int32.ofNat xn)), .val (.int (Int32.ofNat yn)), .val (.int (Int32.ofNat sn)), .val (.int (Int32.ofNat en)), .unset] [])
        refine own_via (fun t => XS.iconst X40.here hx rfl (hb hby at_118)) ?_
        show own_E _ _ _ _ _ _ _ T40 (mkF m 119 #[.val (.int p1), .val (.int p2), .val (.int p3), .val (.ref b27), .val (.int (Int32.ofNat xn)), .val (.int (Int32.ofNat yn)), .val (.int (Int32.ofNat sn)), .val (.int (Int32.ofNat en)), .unset] [(.int (0 : Int32))])
        refine own_via (fun t => XS.istore X40.here hx rfl (hb hby at_119) rfl (l' := #[.val (.int p1), .val (.int p2), .val (.int p3), .val (.ref b27), .val (.int (Int32.ofNat xn)), .val (.int (Int32.ofNat yn)), .val (.int (Int32.ofNat sn)), .val (.int (Int32.ofNat en)), .val (.int (0 : Int32))]) rfl) ?_
        show own_E _ _ _ _ _ _ _ T40 (mkF m 121 #[.val (.int p1), .val (.int p2), .val (.int p3), .val (.ref b27), .val (.int (Int32.ofNat xn)), .val (.int (Int32.ofNat yn)), .val (.int (Int32.ofNat sn)), .val (.int (Int32.ofNat en)), .val (.int (0 : Int32))] [])
        refine own_via (fun t => XS.aloadN X40.here hx rfl (hb hby at_121) rfl rfl) ?_
        show own_E _ _ _ _ _ _ _ T40 (mkF m 122 #[.val (.int p1), .val (.int p2), .val (.int p3), .val (.ref b27), .val (.int (Int32.ofNat xn)), .val (.int (Int32.ofNat yn)), .val (.int (Int32.ofNat sn)), .val (.int (Int32.ofNat en)), .val (.int (0 : Int32))] [(.ref b27)])
        refine own_via (fun t => XS.iload X40.here hx rfl (hb hby at_122) rfl) ?_
        show own_E _ _ _ _ _ _ _ T40 (mkF m 124 #[.val (.int p1), .val (.int p2), .val (.int p3), .val (.ref b27), .val (.int (Int32.ofNat xn)), .val (.int (Int32.ofNat yn)), .val (.int (Int32.ofNat sn)), .val (.int (Int32.ofNat en)), .val (.int (0 : Int32))] [(.int (Int32.ofNat sn)), (.ref b27)])
        refine own_via (fun t => XS.iload X40.here hx rfl (hb hby at_124) rfl) ?_
        show own_E _ _ _ _ _ _ _ T40 (mkF m 126 #[.val (.int p1), .val (.int p2), .val (.int p3), .val (.ref b27), .val (.int (Int32.ofNat xn)), .val (.int (Int32.ofNat yn)), .val (.int (Int32.ofNat sn)), .val (.int (Int32.ofNat en)), .val (.int (0 : Int32))] [(.int (Int32.ofNat en)), (.int (Int32.ofNat sn)), (.ref b27)])
        obtain ⟨_, _, ⟨T42, L42, k42, n42⟩, -, X42, ⟨Lc42, hQ42, l42, y42, z42⟩, st42⟩ := Jvm.LawKit.callS X40 hx (y := (⟨"com/example/poruka/poruka/fin/SwiftCharacters", "holdsOnly", "([CII)Z"⟩ : MethodName)) hown (mvT hZ (hw _ (List.mem_of_getElem? (i := 15) rfl))) (mvT hZ (hw _ (List.mem_of_getElem? (i := 16) rfl))) (mvT hZ (hw _ (List.mem_of_getElem? (i := 17) rfl))) (mvT hZ (hw _ (List.mem_of_getElem? (i := 18) rfl))) (by decide) (backOf (W := 0) (rm5 l Z a0 hw [] b27 aI sn en f hse he4 hf h31 n0 Z31 Vf VI31 SI31) hZ (hw _ (List.mem_of_getElem? (i := 18) rfl)) (hw _ (List.mem_of_getElem? (i := 17) rfl)) (by decide) (by decide)) (g := (mkF m 126 #[.val (.int p1), .val (.int p2), .val (.int p3), .val (.ref b27), .val (.int (Int32.ofNat xn)), .val (.int (Int32.ofNat yn)), .val (.int (Int32.ofNat sn)), .val (.int (Int32.ofNat en)), .val (.int (0 : Int32))] [(.int (Int32.ofNat en)), (.int (Int32.ofNat sn)), (.ref b27)])) rfl (by rw [hml]; rfl) (argsL := [(.ref b27), (.int (Int32.ofNat sn)), (.int (Int32.ofNat en))]) (rest := []) (lenOf pd_5 rfl) rfl (by show 2 * 0 + _ ≤ _; exact Nat.le_of_eq rfl) (hb hby at_126) (fun _ _ => ⟨rfl, e40, (by decide : 1 + 0 ≤ _), (by decide : 4 + 0 ≤ _)⟩)
        dsimp only [Pt.U, Pt.locs, Pt.cells, Pt.slots] at X42 l42 y42 z42 st42 hQ42
        subst l42 y42 z42
        obtain ⟨rfl, N42, e42⟩ := hQ42
        refine own_via st42 ?_
        show own_E _ _ _ _ _ _ _ T42 (mkF m 129 #[.val (.int p1), .val (.int p2), .val (.int p3), .val (.ref b27), .val (.int (Int32.ofNat xn)), .val (.int (Int32.ofNat yn)), .val (.int (Int32.ofNat sn)), .val (.int (Int32.ofNat en)), .val (.int (0 : Int32))] [(.int (own_all f sn (en - sn)))])
        rw [own_fin f hse he4, own_exp, if_neg c75_35, if_neg c87_38, if_pos c99_41]
        show own_E _ _ _ _ _ _ _ T42 (mkF m 129 #[.val (.int p1), .val (.int p2), .val (.int p3), .val (.ref b27), .val (.int (Int32.ofNat xn)), .val (.int (Int32.ofNat yn)), .val (.int (Int32.ofNat sn)), .val (.int (Int32.ofNat en)), .val (.int (0 : Int32))] [(.int (0 : Int32))])
        refine own_via (fun t => XS.iload X42.here hx rfl (hb hby at_129) rfl) ?_
        show own_E _ _ _ _ _ _ _ T42 (mkF m 131 #[.val (.int p1), .val (.int p2), .val (.int p3), .val (.ref b27), .val (.int (Int32.ofNat xn)), .val (.int (Int32.ofNat yn)), .val (.int (Int32.ofNat sn)), .val (.int (Int32.ofNat en)), .val (.int (0 : Int32))] [(.int (0 : Int32)), (.int (0 : Int32))])
        refine own_via (fun t => XS.icmpNo X42.here hx rfl (hb hby at_131) rfl (teq (by decide : (0 : Int32) = (0 : Int32))).2) ?_
        show own_E _ _ _ _ _ _ _ T42 (mkF m 134 #[.val (.int p1), .val (.int p2), .val (.int p3), .val (.ref b27), .val (.int (Int32.ofNat xn)), .val (.int (Int32.ofNat yn)), .val (.int (Int32.ofNat sn)), .val (.int (Int32.ofNat en)), .val (.int (0 : Int32))] [])
        refine own_via (fun t => XS.iconst X42.here hx rfl (hb hby at_134)) ?_
        show own_E _ _ _ _ _ _ _ T42 (mkF m 135 #[.val (.int p1), .val (.int p2), .val (.int p3), .val (.ref b27), .val (.int (Int32.ofNat xn)), .val (.int (Int32.ofNat yn)), .val (.int (Int32.ofNat sn)), .val (.int (Int32.ofNat en)), .val (.int (0 : Int32))] [(.int (1 : Int32))])
        refine own_via (fun t => XS.goto X42.here hx rfl (pc0 := 135) (pc' := 139) rfl (hb hby at_135) (by decide) (by decide)) ?_
        show own_E _ _ _ _ _ _ _ T42 (mkF m 139 #[.val (.int p1), .val (.int p2), .val (.int p3), .val (.ref b27), .val (.int (Int32.ofNat xn)), .val (.int (Int32.ofNat yn)), .val (.int (Int32.ofNat sn)), .val (.int (Int32.ofNat en)), .val (.int (0 : Int32))] [(.int (1 : Int32))])
        exact own_retN X42 hx hlk Bd.returns (Or.inl rfl) (hb hby at_139) (by decide) (by decide) ⟨rfl, Fr.app NA40 N42⟩
      · refine own_via (fun t => XS.ifNo X40.here hx rfl (hb hby at_99) rfl ((if0 _ _).trans (feq c99_41).1)) ?_
        show own_E _ _ _ _ _ _ _ T40 (mkF m 102 #[.val (.int p1), .val (.int p2), .val (.int p3), .val (.ref b27), .val (.int (Int32.ofNat xn)), .val (.int (Int32.ofNat yn)), .val (.int (Int32.ofNat sn)), .val (.int (Int32.ofNat en)), .unset] [])
        refine own_via (fun t => XS.aloadN X40.here hx rfl (hb hby at_102) rfl rfl) ?_
        show own_E _ _ _ _ _ _ _ T40 (mkF m 103 #[.val (.int p1), .val (.int p2), .val (.int p3), .val (.ref b27), .val (.int (Int32.ofNat xn)), .val (.int (Int32.ofNat yn)), .val (.int (Int32.ofNat sn)), .val (.int (Int32.ofNat en)), .unset] [(.ref b27)])
        refine own_via (fun t => XS.iconst X40.here hx rfl (hb hby at_103)) ?_
        show own_E _ _ _ _ _ _ _ T40 (mkF m 104 #[.val (.int p1), .val (.int p2), .val (.int p3), .val (.ref b27), .val (.int (Int32.ofNat xn)), .val (.int (Int32.ofNat yn)), .val (.int (Int32.ofNat sn)), .val (.int (Int32.ofNat en)), .unset] [(.int (3 : Int32)), (.ref b27)])
        refine own_via (fun t => XS.iload X40.here hx rfl (hb hby at_104) rfl) ?_
        show own_E _ _ _ _ _ _ _ T40 (mkF m 106 #[.val (.int p1), .val (.int p2), .val (.int p3), .val (.ref b27), .val (.int (Int32.ofNat xn)), .val (.int (Int32.ofNat yn)), .val (.int (Int32.ofNat sn)), .val (.int (Int32.ofNat en)), .unset] [(.int (Int32.ofNat sn)), (.int (3 : Int32)), (.ref b27)])
        refine own_via (fun t => XS.iload X40.here hx rfl (hb hby at_106) rfl) ?_
        show own_E _ _ _ _ _ _ _ T40 (mkF m 108 #[.val (.int p1), .val (.int p2), .val (.int p3), .val (.ref b27), .val (.int (Int32.ofNat xn)), .val (.int (Int32.ofNat yn)), .val (.int (Int32.ofNat sn)), .val (.int (Int32.ofNat en)), .unset] [(.int (Int32.ofNat en)), (.int (Int32.ofNat sn)), (.int (3 : Int32)), (.ref b27)])
        obtain ⟨_, _, ⟨T43, L43, k43, n43⟩, -, X43, ⟨Lc43, hQ43, l43, y43, z43⟩, st43⟩ := Jvm.LawKit.callS X40 hx (y := (⟨"com/example/poruka/poruka/fin/SwiftCharactersHoldsOnlyPinLaw", "at", "([CIII)Z"⟩ : MethodName)) hown (mvT hZ (hw _ (List.mem_of_getElem? (i := 8) rfl))) (mvT hZ (hw _ (List.mem_of_getElem? (i := 9) rfl))) (mvT hZ (hw _ (List.mem_of_getElem? (i := 10) rfl))) (mvT hZ (hw _ (List.mem_of_getElem? (i := 11) rfl))) (by decide) (backOf (W := 0) (rm3 l Z a0 hw [] b27 (3 : Int32) (Int32.ofNat sn) (Int32.ofNat en) 3 f (by decide) rfl h31 n0 Z31 Vf) hZ (hw _ (List.mem_of_getElem? (i := 11) rfl)) (hw _ (List.mem_of_getElem? (i := 10) rfl)) (by decide) (by decide)) (g := (mkF m 108 #[.val (.int p1), .val (.int p2), .val (.int p3), .val (.ref b27), .val (.int (Int32.ofNat xn)), .val (.int (Int32.ofNat yn)), .val (.int (Int32.ofNat sn)), .val (.int (Int32.ofNat en)), .unset] [(.int (Int32.ofNat en)), (.int (Int32.ofNat sn)), (.int (3 : Int32)), (.ref b27)])) rfl (by rw [hml]; rfl) (argsL := [(.ref b27), (.int (3 : Int32)), (.int (Int32.ofNat sn)), (.int (Int32.ofNat en))]) (rest := []) (lenOf pd_3 rfl) rfl (by show 2 * 0 + _ ≤ _; exact Nat.le_of_eq rfl) (hb hby at_108) (fun _ _ => ⟨rfl, e40, (by decide : 1 + 0 ≤ _), (by decide : 4 + 0 ≤ _)⟩)
        dsimp only [Pt.U, Pt.locs, Pt.cells, Pt.slots] at X43 l43 y43 z43 st43 hQ43
        subst l43 y43 z43
        obtain ⟨rfl, N43, e43⟩ := hQ43
        refine own_via st43 ?_
        show own_E _ _ _ _ _ _ _ T43 (mkF m 111 #[.val (.int p1), .val (.int p2), .val (.int p3), .val (.ref b27), .val (.int (Int32.ofNat xn)), .val (.int (Int32.ofNat yn)), .val (.int (Int32.ofNat sn)), .val (.int (Int32.ofNat en)), .unset] [(.int (own_at (3 : Int32) (Int32.ofNat sn) (Int32.ofNat en) (f 3)))])
        have NA43 := Fr.app NA40 N43
        by_cases c111_44 : (own_at (3 : Int32) (Int32.ofNat sn) (Int32.ofNat en) (f 3)) = (0 : Int32)
        · refine own_via (fun t => XS.ifYes X43.here hx rfl (pc0 := 111) (pc' := 118) rfl (hb hby at_111) rfl ((if0 _ _).trans (teq c111_44).1) (by decide) (by decide)) ?_
          show own_E _ _ _ _ _ _ _ T43 (mkF m 118 #[.val (.int p1), .val (.int p2), .val (.int p3), .val (.ref b27), .val (.int (Int32.ofNat xn)), .val (.int (Int32.ofNat yn)), .val (.int (Int32.ofNat sn)), .val (.int (Int32.ofNat en)), .unset] [])
          refine own_via (fun t => XS.iconst X43.here hx rfl (hb hby at_118)) ?_
          show own_E _ _ _ _ _ _ _ T43 (mkF m 119 #[.val (.int p1), .val (.int p2), .val (.int p3), .val (.ref b27), .val (.int (Int32.ofNat xn)), .val (.int (Int32.ofNat yn)), .val (.int (Int32.ofNat sn)), .val (.int (Int32.ofNat en)), .unset] [(.int (0 : Int32))])
          refine own_via (fun t => XS.istore X43.here hx rfl (hb hby at_119) rfl (l' := #[.val (.int p1), .val (.int p2), .val (.int p3), .val (.ref b27), .val (.int (Int32.ofNat xn)), .val (.int (Int32.ofNat yn)), .val (.int (Int32.ofNat sn)), .val (.int (Int32.ofNat en)), .val (.int (0 : Int32))]) rfl) ?_
          show own_E _ _ _ _ _ _ _ T43 (mkF m 121 #[.val (.int p1), .val (.int p2), .val (.int p3), .val (.ref b27), .val (.int (Int32.ofNat xn)), .val (.int (Int32.ofNat yn)), .val (.int (Int32.ofNat sn)), .val (.int (Int32.ofNat en)), .val (.int (0 : Int32))] [])
          refine own_via (fun t => XS.aloadN X43.here hx rfl (hb hby at_121) rfl rfl) ?_
          show own_E _ _ _ _ _ _ _ T43 (mkF m 122 #[.val (.int p1), .val (.int p2), .val (.int p3), .val (.ref b27), .val (.int (Int32.ofNat xn)), .val (.int (Int32.ofNat yn)), .val (.int (Int32.ofNat sn)), .val (.int (Int32.ofNat en)), .val (.int (0 : Int32))] [(.ref b27)])
          refine own_via (fun t => XS.iload X43.here hx rfl (hb hby at_122) rfl) ?_
          show own_E _ _ _ _ _ _ _ T43 (mkF m 124 #[.val (.int p1), .val (.int p2), .val (.int p3), .val (.ref b27), .val (.int (Int32.ofNat xn)), .val (.int (Int32.ofNat yn)), .val (.int (Int32.ofNat sn)), .val (.int (Int32.ofNat en)), .val (.int (0 : Int32))] [(.int (Int32.ofNat sn)), (.ref b27)])
          refine own_via (fun t => XS.iload X43.here hx rfl (hb hby at_124) rfl) ?_
          show own_E _ _ _ _ _ _ _ T43 (mkF m 126 #[.val (.int p1), .val (.int p2), .val (.int p3), .val (.ref b27), .val (.int (Int32.ofNat xn)), .val (.int (Int32.ofNat yn)), .val (.int (Int32.ofNat sn)), .val (.int (Int32.ofNat en)), .val (.int (0 : Int32))] [(.int (Int32.ofNat en)), (.int (Int32.ofNat sn)), (.ref b27)])
          obtain ⟨_, _, ⟨T45, L45, k45, n45⟩, -, X45, ⟨Lc45, hQ45, l45, y45, z45⟩, st45⟩ := Jvm.LawKit.callS X43 hx (y := (⟨"com/example/poruka/poruka/fin/SwiftCharacters", "holdsOnly", "([CII)Z"⟩ : MethodName)) hown (mvT hZ (hw _ (List.mem_of_getElem? (i := 15) rfl))) (mvT hZ (hw _ (List.mem_of_getElem? (i := 16) rfl))) (mvT hZ (hw _ (List.mem_of_getElem? (i := 17) rfl))) (mvT hZ (hw _ (List.mem_of_getElem? (i := 18) rfl))) (by decide) (backOf (W := 0) (rm5 l Z a0 hw [] b27 aI sn en f hse he4 hf h31 n0 Z31 Vf VI31 SI31) hZ (hw _ (List.mem_of_getElem? (i := 18) rfl)) (hw _ (List.mem_of_getElem? (i := 17) rfl)) (by decide) (by decide)) (g := (mkF m 126 #[.val (.int p1), .val (.int p2), .val (.int p3), .val (.ref b27), .val (.int (Int32.ofNat xn)), .val (.int (Int32.ofNat yn)), .val (.int (Int32.ofNat sn)), .val (.int (Int32.ofNat en)), .val (.int (0 : Int32))] [(.int (Int32.ofNat en)), (.int (Int32.ofNat sn)), (.ref b27)])) rfl (by rw [hml]; rfl) (argsL := [(.ref b27), (.int (Int32.ofNat sn)), (.int (Int32.ofNat en))]) (rest := []) (lenOf pd_5 rfl) rfl (by show 2 * 0 + _ ≤ _; exact Nat.le_of_eq rfl) (hb hby at_126) (fun _ _ => ⟨rfl, e43, (by decide : 1 + 0 ≤ _), (by decide : 4 + 0 ≤ _)⟩)
          dsimp only [Pt.U, Pt.locs, Pt.cells, Pt.slots] at X45 l45 y45 z45 st45 hQ45
          subst l45 y45 z45
          obtain ⟨rfl, N45, e45⟩ := hQ45
          refine own_via st45 ?_
          show own_E _ _ _ _ _ _ _ T45 (mkF m 129 #[.val (.int p1), .val (.int p2), .val (.int p3), .val (.ref b27), .val (.int (Int32.ofNat xn)), .val (.int (Int32.ofNat yn)), .val (.int (Int32.ofNat sn)), .val (.int (Int32.ofNat en)), .val (.int (0 : Int32))] [(.int (own_all f sn (en - sn)))])
          rw [own_fin f hse he4, own_exp, if_neg c75_35, if_neg c87_38, if_neg c99_41, if_pos c111_44]
          show own_E _ _ _ _ _ _ _ T45 (mkF m 129 #[.val (.int p1), .val (.int p2), .val (.int p3), .val (.ref b27), .val (.int (Int32.ofNat xn)), .val (.int (Int32.ofNat yn)), .val (.int (Int32.ofNat sn)), .val (.int (Int32.ofNat en)), .val (.int (0 : Int32))] [(.int (0 : Int32))])
          refine own_via (fun t => XS.iload X45.here hx rfl (hb hby at_129) rfl) ?_
          show own_E _ _ _ _ _ _ _ T45 (mkF m 131 #[.val (.int p1), .val (.int p2), .val (.int p3), .val (.ref b27), .val (.int (Int32.ofNat xn)), .val (.int (Int32.ofNat yn)), .val (.int (Int32.ofNat sn)), .val (.int (Int32.ofNat en)), .val (.int (0 : Int32))] [(.int (0 : Int32)), (.int (0 : Int32))])
          refine own_via (fun t => XS.icmpNo X45.here hx rfl (hb hby at_131) rfl (teq (by decide : (0 : Int32) = (0 : Int32))).2) ?_
          show own_E _ _ _ _ _ _ _ T45 (mkF m 134 #[.val (.int p1), .val (.int p2), .val (.int p3), .val (.ref b27), .val (.int (Int32.ofNat xn)), .val (.int (Int32.ofNat yn)), .val (.int (Int32.ofNat sn)), .val (.int (Int32.ofNat en)), .val (.int (0 : Int32))] [])
          refine own_via (fun t => XS.iconst X45.here hx rfl (hb hby at_134)) ?_
          show own_E _ _ _ _ _ _ _ T45 (mkF m 135 #[.val (.int p1), .val (.int p2), .val (.int p3), .val (.ref b27), .val (.int (Int32.ofNat xn)), .val (.int (Int32.ofNat yn)), .val (.int (Int32.ofNat sn)), .val (.int (Int32.ofNat en)), .val (.int (0 : Int32))] [(.int (1 : Int32))])
          refine own_via (fun t => XS.goto X45.here hx rfl (pc0 := 135) (pc' := 139) rfl (hb hby at_135) (by decide) (by decide)) ?_
          show own_E _ _ _ _ _ _ _ T45 (mkF m 139 #[.val (.int p1), .val (.int p2), .val (.int p3), .val (.ref b27), .val (.int (Int32.ofNat xn)), .val (.int (Int32.ofNat yn)), .val (.int (Int32.ofNat sn)), .val (.int (Int32.ofNat en)), .val (.int (0 : Int32))] [(.int (1 : Int32))])
          exact own_retN X45 hx hlk Bd.returns (Or.inl rfl) (hb hby at_139) (by decide) (by decide) ⟨rfl, Fr.app NA43 N45⟩
        · refine own_via (fun t => XS.ifNo X43.here hx rfl (hb hby at_111) rfl ((if0 _ _).trans (feq c111_44).1)) ?_
          show own_E _ _ _ _ _ _ _ T43 (mkF m 114 #[.val (.int p1), .val (.int p2), .val (.int p3), .val (.ref b27), .val (.int (Int32.ofNat xn)), .val (.int (Int32.ofNat yn)), .val (.int (Int32.ofNat sn)), .val (.int (Int32.ofNat en)), .unset] [])
          refine own_via (fun t => XS.iconst X43.here hx rfl (hb hby at_114)) ?_
          show own_E _ _ _ _ _ _ _ T43 (mkF m 115 #[.val (.int p1), .val (.int p2), .val (.int p3), .val (.ref b27), .val (.int (Int32.ofNat xn)), .val (.int (Int32.ofNat yn)), .val (.int (Int32.ofNat sn)), .val (.int (Int32.ofNat en)), .unset] [(.int (1 : Int32))])
          refine own_via (fun t => XS.goto X43.here hx rfl (pc0 := 115) (pc' := 119) rfl (hb hby at_115) (by decide) (by decide)) ?_
          show own_E _ _ _ _ _ _ _ T43 (mkF m 119 #[.val (.int p1), .val (.int p2), .val (.int p3), .val (.ref b27), .val (.int (Int32.ofNat xn)), .val (.int (Int32.ofNat yn)), .val (.int (Int32.ofNat sn)), .val (.int (Int32.ofNat en)), .unset] [(.int (1 : Int32))])
          refine own_via (fun t => XS.istore X43.here hx rfl (hb hby at_119) rfl (l' := #[.val (.int p1), .val (.int p2), .val (.int p3), .val (.ref b27), .val (.int (Int32.ofNat xn)), .val (.int (Int32.ofNat yn)), .val (.int (Int32.ofNat sn)), .val (.int (Int32.ofNat en)), .val (.int (1 : Int32))]) rfl) ?_
          show own_E _ _ _ _ _ _ _ T43 (mkF m 121 #[.val (.int p1), .val (.int p2), .val (.int p3), .val (.ref b27), .val (.int (Int32.ofNat xn)), .val (.int (Int32.ofNat yn)), .val (.int (Int32.ofNat sn)), .val (.int (Int32.ofNat en)), .val (.int (1 : Int32))] [])
          refine own_via (fun t => XS.aloadN X43.here hx rfl (hb hby at_121) rfl rfl) ?_
          show own_E _ _ _ _ _ _ _ T43 (mkF m 122 #[.val (.int p1), .val (.int p2), .val (.int p3), .val (.ref b27), .val (.int (Int32.ofNat xn)), .val (.int (Int32.ofNat yn)), .val (.int (Int32.ofNat sn)), .val (.int (Int32.ofNat en)), .val (.int (1 : Int32))] [(.ref b27)])
          refine own_via (fun t => XS.iload X43.here hx rfl (hb hby at_122) rfl) ?_
          show own_E _ _ _ _ _ _ _ T43 (mkF m 124 #[.val (.int p1), .val (.int p2), .val (.int p3), .val (.ref b27), .val (.int (Int32.ofNat xn)), .val (.int (Int32.ofNat yn)), .val (.int (Int32.ofNat sn)), .val (.int (Int32.ofNat en)), .val (.int (1 : Int32))] [(.int (Int32.ofNat sn)), (.ref b27)])
          refine own_via (fun t => XS.iload X43.here hx rfl (hb hby at_124) rfl) ?_
          show own_E _ _ _ _ _ _ _ T43 (mkF m 126 #[.val (.int p1), .val (.int p2), .val (.int p3), .val (.ref b27), .val (.int (Int32.ofNat xn)), .val (.int (Int32.ofNat yn)), .val (.int (Int32.ofNat sn)), .val (.int (Int32.ofNat en)), .val (.int (1 : Int32))] [(.int (Int32.ofNat en)), (.int (Int32.ofNat sn)), (.ref b27)])
          obtain ⟨_, _, ⟨T46, L46, k46, n46⟩, -, X46, ⟨Lc46, hQ46, l46, y46, z46⟩, st46⟩ := Jvm.LawKit.callS X43 hx (y := (⟨"com/example/poruka/poruka/fin/SwiftCharacters", "holdsOnly", "([CII)Z"⟩ : MethodName)) hown (mvT hZ (hw _ (List.mem_of_getElem? (i := 15) rfl))) (mvT hZ (hw _ (List.mem_of_getElem? (i := 16) rfl))) (mvT hZ (hw _ (List.mem_of_getElem? (i := 17) rfl))) (mvT hZ (hw _ (List.mem_of_getElem? (i := 18) rfl))) (by decide) (backOf (W := 0) (rm5 l Z a0 hw [] b27 aI sn en f hse he4 hf h31 n0 Z31 Vf VI31 SI31) hZ (hw _ (List.mem_of_getElem? (i := 18) rfl)) (hw _ (List.mem_of_getElem? (i := 17) rfl)) (by decide) (by decide)) (g := (mkF m 126 #[.val (.int p1), .val (.int p2), .val (.int p3), .val (.ref b27), .val (.int (Int32.ofNat xn)), .val (.int (Int32.ofNat yn)), .val (.int (Int32.ofNat sn)), .val (.int (Int32.ofNat en)), .val (.int (1 : Int32))] [(.int (Int32.ofNat en)), (.int (Int32.ofNat sn)), (.ref b27)])) rfl (by rw [hml]; rfl) (argsL := [(.ref b27), (.int (Int32.ofNat sn)), (.int (Int32.ofNat en))]) (rest := []) (lenOf pd_5 rfl) rfl (by show 2 * 0 + _ ≤ _; exact Nat.le_of_eq rfl) (hb hby at_126) (fun _ _ => ⟨rfl, e43, (by decide : 1 + 0 ≤ _), (by decide : 4 + 0 ≤ _)⟩)
          dsimp only [Pt.U, Pt.locs, Pt.cells, Pt.slots] at X46 l46 y46 z46 st46 hQ46
          subst l46 y46 z46
          obtain ⟨rfl, N46, e46⟩ := hQ46
          refine own_via st46 ?_
          show own_E _ _ _ _ _ _ _ T46 (mkF m 129 #[.val (.int p1), .val (.int p2), .val (.int p3), .val (.ref b27), .val (.int (Int32.ofNat xn)), .val (.int (Int32.ofNat yn)), .val (.int (Int32.ofNat sn)), .val (.int (Int32.ofNat en)), .val (.int (1 : Int32))] [(.int (own_all f sn (en - sn)))])
          rw [own_fin f hse he4, own_exp, if_neg c75_35, if_neg c87_38, if_neg c99_41, if_neg c111_44]
          show own_E _ _ _ _ _ _ _ T46 (mkF m 129 #[.val (.int p1), .val (.int p2), .val (.int p3), .val (.ref b27), .val (.int (Int32.ofNat xn)), .val (.int (Int32.ofNat yn)), .val (.int (Int32.ofNat sn)), .val (.int (Int32.ofNat en)), .val (.int (1 : Int32))] [(.int (1 : Int32))])
          refine own_via (fun t => XS.iload X46.here hx rfl (hb hby at_129) rfl) ?_
          show own_E _ _ _ _ _ _ _ T46 (mkF m 131 #[.val (.int p1), .val (.int p2), .val (.int p3), .val (.ref b27), .val (.int (Int32.ofNat xn)), .val (.int (Int32.ofNat yn)), .val (.int (Int32.ofNat sn)), .val (.int (Int32.ofNat en)), .val (.int (1 : Int32))] [(.int (1 : Int32)), (.int (1 : Int32))])
          refine own_via (fun t => XS.icmpNo X46.here hx rfl (hb hby at_131) rfl (teq (by decide : (1 : Int32) = (1 : Int32))).2) ?_
          show own_E _ _ _ _ _ _ _ T46 (mkF m 134 #[.val (.int p1), .val (.int p2), .val (.int p3), .val (.ref b27), .val (.int (Int32.ofNat xn)), .val (.int (Int32.ofNat yn)), .val (.int (Int32.ofNat sn)), .val (.int (Int32.ofNat en)), .val (.int (1 : Int32))] [])
          refine own_via (fun t => XS.iconst X46.here hx rfl (hb hby at_134)) ?_
          show own_E _ _ _ _ _ _ _ T46 (mkF m 135 #[.val (.int p1), .val (.int p2), .val (.int p3), .val (.ref b27), .val (.int (Int32.ofNat xn)), .val (.int (Int32.ofNat yn)), .val (.int (Int32.ofNat sn)), .val (.int (Int32.ofNat en)), .val (.int (1 : Int32))] [(.int (1 : Int32))])
          refine own_via (fun t => XS.goto X46.here hx rfl (pc0 := 135) (pc' := 139) rfl (hb hby at_135) (by decide) (by decide)) ?_
          show own_E _ _ _ _ _ _ _ T46 (mkF m 139 #[.val (.int p1), .val (.int p2), .val (.int p3), .val (.ref b27), .val (.int (Int32.ofNat xn)), .val (.int (Int32.ofNat yn)), .val (.int (Int32.ofNat sn)), .val (.int (Int32.ofNat en)), .val (.int (1 : Int32))] [(.int (1 : Int32))])
          exact own_retN X46 hx hlk Bd.returns (Or.inl rfl) (hb hby at_139) (by decide) (by decide) ⟨rfl, Fr.app NA43 N46⟩
section OwnCase
variable {args : Array Value} {s : State} {t : Term} {a : Addr} {cl : Cell}
theorem own_or_e {c d : Cond} {idx : List Nat} (h : (Cond.or c d).value args s none s idx = some true) : c.value args s none s idx = some true ∨ d.value args s none s idx = some true := by
  simp only [Cond.value] at h
  cases hc : c.value args s none s idx with
  | none => simp [hc] at h
  | some q =>
    cases q with
    | true => exact Or.inl rfl
    | false => right; simpa [hc] using h
theorem own_elem {u : Term} {idx : List Nat} {j k : Int32} (ev : t.eval args s none idx s = some (.ref a)) (hc : s.heap[a]? = some cl) (hj : u.eval args s none idx s = some (.int j)) (h : (Cond.eq (.elem t u) (.int k)).value args s none s idx = some true) : cl.slots[j.toNatClampNeg]? = some (.int k) := by
  obtain ⟨x, y, h1, h2, k1, k2⟩ := cmp_v (Or.inl h)
  obtain rfl : y = .int k := (Option.some.inj h2).symm
  obtain ⟨z, rfl⟩ : ∃ z, x = .int z := k2
  have e := gotT (Cond.eq_ints h1 h2) h
  subst e
  exact (elem_in h1 ev hj hc).2
theorem own_ix (j : Nat) : (Term.index 0).eval args s none [j] s = some (.int (Int32.ofNat j)) := Term.index_eval _
theorem own_le {K j : Nat} (hK : K < 2147483648) (hj : j < 2147483648) (h : (Cond.le (.int (Int32.ofNat K)) (.index 0)).value args s none s [j] = some true) : K ≤ j := by
  have q := gotT (Cond.le_ints (Term.int_eval _) (own_ix j)) h
  rw [Int32.le_iff_toInt_le, own_num hK, own_num hj] at q; omega
theorem own_ltw {K j : Nat} (hK : K < 2147483648) (hj : j < 2147483648) (h : (Cond.lt (.index 0) (.int (Int32.ofNat K))).value args s none s [j] = some true) : j < K := by
  have q := gotT (Cond.lt_ints (own_ix j) (Term.int_eval _)) h
  rw [Int32.lt_iff_toInt_lt, own_num hK, own_num hj] at q; omega
theorem own_lenE {k : Int32} (ev : t.eval args s none [] s = some (.ref a)) (hAt : s.arrayAt? a = some cl) (h : (Term.length t).eval args s none [] s = some (.int k)) : cl.slots.size < 2147483648 ∧ Int32.ofNat cl.slots.size = k := by
  by_cases q : cl.slots.size < 2 ^ 31
  · rw [len_f ev hAt q] at h
    exact ⟨q, Value.int.inj (Option.some.inj h)⟩
  · simp [Term.eval, ev, hAt, q] at h
theorem own_cj {j : Nat} (hj : j < 2147483648) : (Int32.ofNat j).toNatClampNeg = j := Int32.toNatClampNeg_ofNat_of_lt hj
end OwnCase
set_option maxRecDepth 65536 in
set_option maxHeartbeats 40000000 in
theorem comes_1 {Post : Tables → Env → Array Value → State → Outcome → State → Prop} (hpost : ∀ tb e args s v u, (limb_1_1.after args s (.returned v) u = true ∧ limb_1_2.after args s (.returned v) u = true ∧ True) → FrameEnd s (.returned v) u (Jvm.fieldLocs frame_1_writes args s ++ Jvm.arrayLocs frame_1_arrays args s ++ Jvm.staticLocs frame_1_statics s) 16 128 → Post tb e args s (.returned v) u) :
    ArmFor flags0 classFile x code maxLocals ret World_1 tables_1 room_1 Calls_1 rest_1 Pre_1 Post := by
  intro l hfl _ _ p e ha hc hk s m args below hf hA hF happ hP
  obtain ⟨hcalls, hrest, hpre⟩ := hP
  obtain ⟨-, -, -, hnamed, -, -, -, hat⟩ := (Spec.applies_iff hf).mp happ
  obtain ⟨hg, hn⟩ := and_e (Cond.before_iff.mp (show (Jvm.Cond.and given_1 narrow_1).before args s = true from hpre))
  obtain ⟨hcount, hg0⟩ := and_e hg
  obtain ⟨hi0, hg1⟩ := and_e hg0
  obtain ⟨hi1, hg2⟩ := and_e hg1
  have hi2 := hg2
  obtain ⟨w0, w1, w2, rfl⟩ : ∃ w0 w1 w2 : Value, args = #[w0, w1, w2] := by
    have hs : args.size = 3 := by simpa [Cond.value, given_1] using hcount
    obtain ⟨L⟩ := args
    match L, hs with
    | [w0, w1, w2], _ => exact ⟨w0, w1, w2, rfl⟩
  have hw := fun d (hd : d ∈ tables_1) => atoms_spec (ws := Jvm.Cond.code x code maxLocals ret :: tables_1) hat d (List.mem_cons_of_mem _ hd)
  have hfit : Fit s := fun {y c} hc i hi => by
    obtain ⟨ha, rfl⟩ := Array.getElem?_eq_some_iff.mp hc
    have q := List.all_eq_true.mp ((Array.all_eq_true_iff_forall_mem.mp hF) _ (Array.getElem_mem ha)) i (List.mem_range.mpr hi)
    simpa [Array.getElem?_eq_getElem hi] using q
  obtain ⟨i0, ei0⟩ := is_v hi0
  obtain rfl : w0 = (.int i0) := Option.some.inj ei0
  obtain ⟨i1, ei1⟩ := is_v hi1
  obtain rfl : w1 = (.int i1) := Option.some.inj ei1
  obtain ⟨i2, ei2⟩ := is_v hi2
  obtain rfl : w2 = (.int i2) := Option.some.inj ei2
  obtain ⟨u0, v0⟩ := and_e hn
  obtain ⟨u1, v1⟩ := and_e v0
  obtain ⟨u2, v2⟩ := and_e v1
  obtain ⟨u3, v3⟩ := and_e v2
  obtain ⟨u4, v4⟩ := and_e v3
  obtain ⟨u5, v5⟩ := and_e v4
  obtain ⟨u6, v6⟩ := and_e v5
  obtain ⟨u7, v7⟩ := and_e v6
  obtain ⟨u8, v8⟩ := and_e v7
  obtain ⟨u9, v9⟩ := and_e v8
  obtain ⟨u10, v10⟩ := and_e v9
  obtain ⟨u11, v11⟩ := and_e v10
  obtain ⟨u12, v12⟩ := and_e v11
  obtain ⟨u13, v13⟩ := and_e v12
  obtain ⟨u14, v14⟩ := and_e v13
  obtain ⟨u15, v15⟩ := and_e v14
  have u16 := v15
  obtain ⟨aI, evI⟩ := arr_v u0
  have S_I := Sta.start evI (Or.inr ⟨hw _ (List.mem_of_getElem? (i := 17) rfl), hw _ (List.mem_of_getElem? (i := 20) rfl)⟩)
  obtain ⟨cl, AI⟩ := Arr.start evI u0
  have hAt := Arr.fin (Vm.Alike.refl _) AI
  have hsz : cl.slots.size = 128 := by
    obtain ⟨x, y, h1, h2, k1, k2⟩ := cmp_v (Or.inl u1)
    obtain rfl : y = .int 128 := (Option.some.inj h2).symm
    obtain ⟨z, rfl⟩ : ∃ z, x = .int z := k2
    have q := gotT (Cond.eq_ints h1 h2) u1
    subst q
    obtain ⟨l1, l2⟩ := own_lenE evI hAt h1
    have l3 := congrArg Int32.toInt l2
    rw [own_num l1, show (128 : Int32).toInt = 128 from by decide] at l3
    omega
  have VI : own_Ar s s.heap aI .boolean 128 own_tab := by
    refine ⟨cl, AI, hsz, fun j hj => ?_⟩
    have hj2 : j < 2147483648 := by omega
    have hjs : j < cl.slots.size := by omega
    have evJ : (Term.static "com/example/poruka/poruka/fin/SwiftCharacters" "IN_SET" "[Z").eval #[Value.int i0, Value.int i1, Value.int i2] s none [j] s = some (.ref aI) := evI
    have g2 := Cond.all_elim evI hAt u2 j hjs
    have f2 : j < 32 → cl.slots[j]? = some (.int 0) := fun q => (own_or_e g2).elim (fun r => absurd (own_le (K := 32) (by decide) hj2 r) (by omega)) (fun r => by have := own_elem (idx := [j]) evJ AI.1 (own_ix j) r; rwa [own_cj hj2] at this)
    have f3 : cl.slots[32]? = some (.int 1) := own_elem (j := 32) evI AI.1 (Term.int_eval _) u3
    have g4 := Cond.all_elim evI hAt u4 j hjs
    have f4 : 33 ≤ j → j < 39 → cl.slots[j]? = some (.int 0) := fun q1 q2 => (own_or_e g4).elim (fun r => absurd (own_ltw (K := 33) (by decide) hj2 r) (by omega)) (fun r => (own_or_e r).elim (fun r => absurd (own_le (K := 39) (by decide) hj2 r) (by omega)) (fun r => by have := own_elem (idx := [j]) evJ AI.1 (own_ix j) r; rwa [own_cj hj2] at this))
    have f5 : cl.slots[39]? = some (.int 1) := own_elem (j := 39) evI AI.1 (Term.int_eval _) u5
    have f6 : cl.slots[40]? = some (.int 1) := own_elem (j := 40) evI AI.1 (Term.int_eval _) u6
    have f7 : cl.slots[41]? = some (.int 1) := own_elem (j := 41) evI AI.1 (Term.int_eval _) u7
    have f8 : cl.slots[42]? = some (.int 0) := own_elem (j := 42) evI AI.1 (Term.int_eval _) u8
    have g9 := Cond.all_elim evI hAt u9 j hjs
    have f9 : 43 ≤ j → j < 59 → cl.slots[j]? = some (.int 1) := fun q1 q2 => (own_or_e g9).elim (fun r => absurd (own_ltw (K := 43) (by decide) hj2 r) (by omega)) (fun r => (own_or_e r).elim (fun r => absurd (own_le (K := 59) (by decide) hj2 r) (by omega)) (fun r => by have := own_elem (idx := [j]) evJ AI.1 (own_ix j) r; rwa [own_cj hj2] at this))
    have g10 := Cond.all_elim evI hAt u10 j hjs
    have f10 : 59 ≤ j → j < 63 → cl.slots[j]? = some (.int 0) := fun q1 q2 => (own_or_e g10).elim (fun r => absurd (own_ltw (K := 59) (by decide) hj2 r) (by omega)) (fun r => (own_or_e r).elim (fun r => absurd (own_le (K := 63) (by decide) hj2 r) (by omega)) (fun r => by have := own_elem (idx := [j]) evJ AI.1 (own_ix j) r; rwa [own_cj hj2] at this))
    have f11 : cl.slots[63]? = some (.int 1) := own_elem (j := 63) evI AI.1 (Term.int_eval _) u11
    have f12 : cl.slots[64]? = some (.int 0) := own_elem (j := 64) evI AI.1 (Term.int_eval _) u12
    have g13 := Cond.all_elim evI hAt u13 j hjs
    have f13 : 65 ≤ j → j < 91 → cl.slots[j]? = some (.int 1) := fun q1 q2 => (own_or_e g13).elim (fun r => absurd (own_ltw (K := 65) (by decide) hj2 r) (by omega)) (fun r => (own_or_e r).elim (fun r => absurd (own_le (K := 91) (by decide) hj2 r) (by omega)) (fun r => by have := own_elem (idx := [j]) evJ AI.1 (own_ix j) r; rwa [own_cj hj2] at this))
    have g14 := Cond.all_elim evI hAt u14 j hjs
    have f14 : 91 ≤ j → j < 97 → cl.slots[j]? = some (.int 0) := fun q1 q2 => (own_or_e g14).elim (fun r => absurd (own_ltw (K := 91) (by decide) hj2 r) (by omega)) (fun r => (own_or_e r).elim (fun r => absurd (own_le (K := 97) (by decide) hj2 r) (by omega)) (fun r => by have := own_elem (idx := [j]) evJ AI.1 (own_ix j) r; rwa [own_cj hj2] at this))
    have g15 := Cond.all_elim evI hAt u15 j hjs
    have f15 : 97 ≤ j → j < 123 → cl.slots[j]? = some (.int 1) := fun q1 q2 => (own_or_e g15).elim (fun r => absurd (own_ltw (K := 97) (by decide) hj2 r) (by omega)) (fun r => (own_or_e r).elim (fun r => absurd (own_le (K := 123) (by decide) hj2 r) (by omega)) (fun r => by have := own_elem (idx := [j]) evJ AI.1 (own_ix j) r; rwa [own_cj hj2] at this))
    have g16 := Cond.all_elim evI hAt u16 j hjs
    have f16 : 123 ≤ j → cl.slots[j]? = some (.int 0) := fun q => (own_or_e g16).elim (fun r => absurd (own_ltw (K := 123) (by decide) hj2 r) (by omega)) (fun r => by have := own_elem (idx := [j]) evJ AI.1 (own_ix j) r; rwa [own_cj hj2] at this)
    unfold own_tab
    by_cases q32 : j < 32
    · rw [if_pos q32]; exact f2 (by omega)
    rw [if_neg q32]
    by_cases q33 : j < 33
    · obtain rfl : j = 32 := by omega
      rw [if_pos q33]; exact f3
    rw [if_neg q33]
    by_cases q39 : j < 39
    · rw [if_pos q39]; exact f4 (by omega) (by omega)
    rw [if_neg q39]
    by_cases q42 : j < 42
    · rw [if_pos q42]
      have q : j = 39 ∨ j = 40 ∨ j = 41 := by omega
      rcases q with rfl | rfl | rfl
      · exact f5
      · exact f6
      · exact f7
    rw [if_neg q42]
    by_cases q43 : j < 43
    · obtain rfl : j = 42 := by omega
      rw [if_pos q43]; exact f8
    rw [if_neg q43]
    by_cases q59 : j < 59
    · rw [if_pos q59]; exact f9 (by omega) (by omega)
    rw [if_neg q59]
    by_cases q63 : j < 63
    · rw [if_pos q63]; exact f10 (by omega) (by omega)
    rw [if_neg q63]
    by_cases q64 : j < 64
    · obtain rfl : j = 63 := by omega
      rw [if_pos q64]; exact f11
    rw [if_neg q64]
    by_cases q65 : j < 65
    · obtain rfl : j = 64 := by omega
      rw [if_pos q65]; exact f12
    rw [if_neg q65]
    by_cases q91 : j < 91
    · rw [if_pos q91]; exact f13 (by omega) (by omega)
    rw [if_neg q91]
    by_cases q97 : j < 97
    · rw [if_pos q97]; exact f14 (by omega) (by omega)
    rw [if_neg q97]
    by_cases q123 : j < 123
    · rw [if_pos q123]; exact f15 (by omega) (by omega)
    rw [if_neg q123]
    exact f16 (by omega)
  obtain ⟨n, o, h1, h2, h3, _, L, rfl, ⟨rfl, N⟩, hq⟩ := rm0 l s _ hw tables_1 i0 i1 i2 aI s.heap s.heap.size (Nat.le_refl _) VI S_I p e ha hc hk s m _ below hf ((Spec.applies_iff_loose hf).mp happ).1 ⟨rfl, State.Warmed39.refl s, rfl⟩ trivial
  refine ⟨n, _, h1, h2, h3, hpost _ _ _ _ _ _ ⟨Cond.after_iff.mpr rfl, Cond.after_iff.mpr (eq_i res_at (Term.int_eval (1)) rfl), trivial⟩ ⟨hq.1, hq.2.1, (hq.2.2.sift fun y hy => Or.inr (N y hy)).mono (by decide) (by decide)⟩⟩
theorem main_1_1 : Claimed_1_1 := comes_1 fun _ _ _ _ _ _ h hF => ⟨h.1, hF⟩
theorem main_1_2 : Claimed_1_2 := comes_1 fun _ _ _ _ _ _ h hF => ⟨h.2.1, hF⟩
end Jvm.Pilot.@@N@@
namespace Jvm.Pilot.@@N@@
open Jvm Jvm.ClassFile Sem Op Lib Jvm.Free Jvm.Stand Jvm.Pilot.@@N@@.Jvm.D
/-! MADE BY PROGRAM (witnessworld.py) out of the Statement's table words and the real class files: 14 classes; the members and pool entries that the words name. The judged class is class 1, her method 1. -/
namespace start1
open Jvm.ClassFile
def u (s : String) : CpInfo := .utf8 (stringToUtf16 s)
/-- a pool by its gaps: so many unusable entries, then the entry; so many at the end -/
def gap : Nat → List CpInfo → List CpInfo
  | 0, r => r
  | n + 1, r => .unusable :: gap n r
def poolList (es : List (Nat × CpInfo)) (last : Nat) : List CpInfo := es.foldr (fun e r => gap e.1 (e.2 :: r)) (gap last [])
def pool (es : List (Nat × CpInfo)) (last : Nat) : Array CpInfo := ⟨poolList es last⟩
def fileOf (pool : Array CpInfo) (this : Nat) (attrs : Array Attribute := #[]) (ms : Array MethodInfo := #[]) (fl : Nat := 33) (sup : Nat := 0) (ifs : Array Nat := #[]) (fds : Array FieldInfo := #[]) : ClassFile where
  minorVersion := 0
  majorVersion := 65
  constantPool := pool
  accessFlags := fl
  thisClass := this
  superClass := sup
  interfaces := ifs
  fields := fds
  methods := ms
  attributes := attrs
def plain (name : String) (sup : Option ClassId) : Class where
  name := name
  kind := .ordinary
  loader := none
  accessFlags := 33
  super := sup
  interfaces := #[]
  cf := none
  fields := #[]
  methods := #[]
  instanceTypes := #[]
  staticTypes := #[]
  resolved := #[]
  callSites := []
  init := .initialized
  statics := none
  mirror := none

def pool0 : Array CpInfo := pool [(5, u "<init>"), (0, u "()V"), (1, .class_ 10), (1, u "java/lang/Object")] 113

def k0m0 : Method := { name := "<init>", desc := "()V", sig := { parameters := [], returnType := none }, accessFlags := 1, code := none }
/-- java/lang/Object -/
def k0 : Class := { plain "java/lang/Object" none with
  accessFlags := 33
  interfaces := #[]
  cf := some (fileOf pool0 8 #[] #[{ accessFlags := 1, nameIndex := 5, descriptorIndex := 6, attributes := #[] }] 33 0 #[] #[])
  fields := #[]
  methods := #[k0m0]
  instanceTypes := #[]
  staticTypes := #[]
  resolved := Array.replicate 124 none
  statics := none }

def pool1 : Array CpInfo := pool [(2, .class_ 4), (1, u "java/lang/Object"), (0, u "<init>"), (0, u "()V"), (0, .methodref 8 9), (0, .class_ 10), (0, .nameAndType 11 12), (0, u "java/lang/Math"), (0, u "min"), (0, u "(II)I"), (0, .methodref 8 14), (0, .nameAndType 15 12), (0, u "max"), (0, .methodref 17 18), (0, .class_ 19), (0, .nameAndType 20 21), (0, u "com/example/poruka/poruka/fin/SwiftCharactersHoldsOnlyPinLaw"), (0, u "at"), (0, u "([CIII)Z"), (0, .methodref 23 24), (0, .class_ 25), (0, .nameAndType 26 27), (0, u "com/example/poruka/poruka/fin/SwiftCharacters"), (0, u "holdsOnly"), (0, u "([CII)Z"), (0, .methodref 17 29), (0, .nameAndType 30 31), (0, u "ok"), (0, u "(C)Z"), (2, u "law"), (0, u "(III)Z")] 5

def k1m0 : Method := { name := "<init>", desc := "()V", sig := { parameters := [], returnType := none }, accessFlags := 1, code := none }
def k1c1 : Code := { maxStack := 4, maxLocals := 9, code := code, exceptionTable := #[], attributes := #[] }
def k1m1 : Method := { name := "law", desc := "(III)Z", sig := { parameters := [.int, .int, .int], returnType := some .boolean }, accessFlags := 9, code := some k1c1 }
def k1c2 : Code := { maxStack := 2, maxLocals := 4, code := method_3_code, exceptionTable := #[], attributes := #[] }
def k1m2 : Method := { name := "at", desc := "([CIII)Z", sig := { parameters := [(.array .char), .int, .int, .int], returnType := some .boolean }, accessFlags := 10, code := some k1c2 }
def k1c3 : Code := { maxStack := 2, maxLocals := 1, code := method_4_code, exceptionTable := #[], attributes := #[] }
def k1m3 : Method := { name := "ok", desc := "(C)Z", sig := { parameters := [.char], returnType := some .boolean }, accessFlags := 10, code := some k1c3 }
/-- com/example/poruka/poruka/fin/SwiftCharactersHoldsOnlyPinLaw -/
def k1 : Class := { plain "com/example/poruka/poruka/fin/SwiftCharactersHoldsOnlyPinLaw" (some 0) with
  accessFlags := 49
  interfaces := #[]
  cf := some (fileOf pool1 17 #[] #[{ accessFlags := 1, nameIndex := 5, descriptorIndex := 6, attributes := #[] }, { accessFlags := 9, nameIndex := 34, descriptorIndex := 35, attributes := #[] }, { accessFlags := 10, nameIndex := 20, descriptorIndex := 21, attributes := #[] }, { accessFlags := 10, nameIndex := 30, descriptorIndex := 31, attributes := #[] }] 49 2 #[] #[])
  fields := #[]
  methods := #[k1m0, k1m1, k1m2, k1m3]
  instanceTypes := #[]
  staticTypes := #[]
  resolved := Array.replicate 41 none
  statics := none }

def pool2 : Array CpInfo := pool [(1, .class_ 2), (0, u "java/lang/Math"), (1, .class_ 6), (1, u "java/lang/Object"), (0, u "<init>"), (0, u "()V"), (89, .class_ 100), (1, u "java/lang/Math$RandomNumberGeneratorHolder"), (71, u "negativeZeroFloatBits"), (0, u "J"), (2, u "negativeZeroDoubleBits"), (21, u "max"), (2, u "min"), (43, u "$assertionsDisabled"), (0, u "Z"), (88, u "(II)I"), (2, u "twoToTheDoubleScaleDown"), (0, u "D"), (4, u "twoToTheDoubleScaleUp"), (9, u "E"), (3, u "PI"), (2, u "TAU"), (2, u "DEGREES_TO_RADIANS"), (0, u "RADIANS_TO_DEGREES")] 94

def k2m0 : Method := { name := "<init>", desc := "()V", sig := { parameters := [], returnType := none }, accessFlags := 2, code := none }
def k2c1 : Code := { maxStack := 2, maxLocals := 2, code := jdk_29_method_65_code, exceptionTable := #[], attributes := #[] }
def k2m1 : Method := { name := "max", desc := "(II)I", sig := { parameters := [.int, .int], returnType := some .int }, accessFlags := 9, code := some k2c1 }
def k2c2 : Code := { maxStack := 2, maxLocals := 2, code := jdk_29_method_69_code, exceptionTable := #[], attributes := #[] }
def k2m2 : Method := { name := "min", desc := "(II)I", sig := { parameters := [.int, .int], returnType := some .int }, accessFlags := 9, code := some k2c2 }
/-- java/lang/Math -/
def k2 : Class := { plain "java/lang/Math" (some 0) with
  accessFlags := 49
  interfaces := #[]
  cf := some (fileOf pool2 1 #[.nestMembers #[98]] #[{ accessFlags := 2, nameIndex := 7, descriptorIndex := 8, attributes := #[] }, { accessFlags := 9, nameIndex := 198, descriptorIndex := 335, attributes := #[] }, { accessFlags := 9, nameIndex := 201, descriptorIndex := 335, attributes := #[] }] 49 4 #[] #[{ accessFlags := 25, nameIndex := 354, descriptorIndex := 339, attributes := #[] }, { accessFlags := 25, nameIndex := 358, descriptorIndex := 339, attributes := #[] }, { accessFlags := 25, nameIndex := 361, descriptorIndex := 339, attributes := #[] }, { accessFlags := 26, nameIndex := 364, descriptorIndex := 339, attributes := #[] }, { accessFlags := 26, nameIndex := 365, descriptorIndex := 339, attributes := #[] }, { accessFlags := 26, nameIndex := 172, descriptorIndex := 173, attributes := #[] }, { accessFlags := 26, nameIndex := 176, descriptorIndex := 173, attributes := #[] }, { accessFlags := 8, nameIndex := 344, descriptorIndex := 339, attributes := #[] }, { accessFlags := 8, nameIndex := 338, descriptorIndex := 339, attributes := #[] }, { accessFlags := 4120, nameIndex := 245, descriptorIndex := 246, attributes := #[] }])
  fields := #[{ name := "E", type := .double, accessFlags := 25, slot := 0, constantValue := 0 }, { name := "PI", type := .double, accessFlags := 25, slot := 1, constantValue := 0 }, { name := "TAU", type := .double, accessFlags := 25, slot := 2, constantValue := 0 }, { name := "DEGREES_TO_RADIANS", type := .double, accessFlags := 26, slot := 3, constantValue := 0 }, { name := "RADIANS_TO_DEGREES", type := .double, accessFlags := 26, slot := 4, constantValue := 0 }, { name := "negativeZeroFloatBits", type := .long, accessFlags := 26, slot := 5, constantValue := 0 }, { name := "negativeZeroDoubleBits", type := .long, accessFlags := 26, slot := 6, constantValue := 0 }, { name := "twoToTheDoubleScaleUp", type := .double, accessFlags := 8, slot := 7, constantValue := 0 }, { name := "twoToTheDoubleScaleDown", type := .double, accessFlags := 8, slot := 8, constantValue := 0 }, { name := "$assertionsDisabled", type := .boolean, accessFlags := 4120, slot := 9, constantValue := 0 }]
  methods := #[k2m0, k2m1, k2m2]
  instanceTypes := #[]
  staticTypes := #[.double, .double, .double, .double, .double, .long, .long, .double, .double, .boolean]
  resolved := Array.replicate 460 none
  statics := none }

def pool3 : Array CpInfo := pool [(2, .class_ 4), (1, u "java/lang/Object"), (0, u "<init>"), (0, u "()V"), (0, .fieldref 8 9), (0, .class_ 10), (0, .nameAndType 11 12), (0, u "com/example/poruka/poruka/fin/SwiftCharacters"), (0, u "IN_SET"), (0, u "[Z"), (61, u "IN_WORDS"), (0, u "Ljava/lang/String;"), (3, u "LINE_START_RULE"), (2, u "MARKS"), (0, u "FIELD_START"), (0, u "C"), (1, u "BLOCK_END"), (5, u "holdsOnly"), (0, u "([CII)Z")] 22

def k3m0 : Method := { name := "<init>", desc := "()V", sig := { parameters := [], returnType := none }, accessFlags := 2, code := none }
def k3c1 : Code := { maxStack := 2, maxLocals := 5, code := prog_92_method_3_code, exceptionTable := #[], attributes := #[] }
def k3m1 : Method := { name := "holdsOnly", desc := "([CII)Z", sig := { parameters := [(.array .char), .int, .int], returnType := some .boolean }, accessFlags := 9, code := some k3c1 }
/-- com/example/poruka/poruka/fin/SwiftCharacters -/
def k3 : Class := { plain "com/example/poruka/poruka/fin/SwiftCharacters" (some 0) with
  accessFlags := 49
  interfaces := #[]
  cf := some (fileOf pool3 8 #[] #[{ accessFlags := 2, nameIndex := 5, descriptorIndex := 6, attributes := #[] }, { accessFlags := 9, nameIndex := 92, descriptorIndex := 93, attributes := #[] }] 49 2 #[] #[{ accessFlags := 25, nameIndex := 74, descriptorIndex := 75, attributes := #[] }, { accessFlags := 25, nameIndex := 79, descriptorIndex := 75, attributes := #[] }, { accessFlags := 26, nameIndex := 82, descriptorIndex := 75, attributes := #[] }, { accessFlags := 26, nameIndex := 11, descriptorIndex := 12, attributes := #[] }, { accessFlags := 26, nameIndex := 83, descriptorIndex := 84, attributes := #[] }, { accessFlags := 26, nameIndex := 86, descriptorIndex := 84, attributes := #[] }])
  fields := #[{ name := "IN_WORDS", type := (.object "java/lang/String"), accessFlags := 25, slot := 0, constantValue := 0 }, { name := "LINE_START_RULE", type := (.object "java/lang/String"), accessFlags := 25, slot := 1, constantValue := 0 }, { name := "MARKS", type := (.object "java/lang/String"), accessFlags := 26, slot := 2, constantValue := 0 }, { name := "IN_SET", type := (.array .boolean), accessFlags := 26, slot := 3, constantValue := 0 }, { name := "FIELD_START", type := .char, accessFlags := 26, slot := 4, constantValue := 0 }, { name := "BLOCK_END", type := .char, accessFlags := 26, slot := 5, constantValue := 0 }]
  methods := #[k3m0, k3m1]
  instanceTypes := #[]
  staticTypes := #[(.object "java/lang/String"), (.object "java/lang/String"), (.object "java/lang/String"), (.array .boolean), .char, .char]
  resolved := Array.replicate 116 none
  statics := some 0 }

def pool4 : Array CpInfo := pool [(1, u "java/lang/Cloneable"), (0, .class_ 1), (0, u "java/lang/Object"), (0, .class_ 3)] 3

/-- java/lang/Cloneable -/
def k4 : Class := { plain "java/lang/Cloneable" (some 0) with
  accessFlags := 1537
  interfaces := #[]
  cf := some (fileOf pool4 2 #[] #[] 1537 4 #[] #[])
  fields := #[]
  methods := #[]
  instanceTypes := #[]
  staticTypes := #[]
  resolved := Array.replicate 8 none
  statics := none }

def pool5 : Array CpInfo := pool [(1, u "java/io/Serializable"), (0, .class_ 1), (0, u "java/lang/Object"), (0, .class_ 3)] 3

/-- java/io/Serializable -/
def k5 : Class := { plain "java/io/Serializable" (some 0) with
  accessFlags := 1537
  interfaces := #[]
  cf := some (fileOf pool5 2 #[] #[] 1537 4 #[] #[])
  fields := #[]
  methods := #[]
  instanceTypes := #[]
  staticTypes := #[]
  resolved := Array.replicate 8 none
  statics := none }

/-- the primitive boolean -/
def k6 : Class := { plain "boolean" none with kind := .primitive 'Z', accessFlags := 0x411 }
/-- [Z -/
def k7 : Class := { plain "[Z" (some 0) with kind := .array 6 .boolean, interfaces := #[4, 5], accessFlags := 1041 }

/-- the primitive byte -/
def k8 : Class := { plain "byte" none with kind := .primitive 'B', accessFlags := 0x411 }
/-- [B -/
def k9 : Class := { plain "[B" (some 0) with kind := .array 8 .byte, interfaces := #[4, 5], accessFlags := 1041 }

/-- the primitive char -/
def k10 : Class := { plain "char" none with kind := .primitive 'C', accessFlags := 0x411 }
/-- [C -/
def k11 : Class := { plain "[C" (some 0) with kind := .array 10 .char, interfaces := #[4, 5], accessFlags := 1041 }

/-- the primitive int -/
def k12 : Class := { plain "int" none with kind := .primitive 'I', accessFlags := 0x411 }
/-- [I -/
def k13 : Class := { plain "[I" (some 0) with kind := .array 12 .int, interfaces := #[4, 5], accessFlags := 1041 }

def heap : Heap := #[{ cls := 3, slots := #[.null, .null, .null, .ref 1, .int 0, .int 0], vm := .statics 3 },
  { cls := 7, slots := #[.int 0, .int 0, .int 0, .int 0, .int 0, .int 0, .int 0, .int 0, .int 0, .int 0, .int 0, .int 0, .int 0, .int 0, .int 0, .int 0, .int 0, .int 0, .int 0, .int 0, .int 0, .int 0, .int 0, .int 0, .int 0, .int 0, .int 0, .int 0, .int 0, .int 0, .int 0, .int 0, .int 1, .int 0, .int 0, .int 0, .int 0, .int 0, .int 0, .int 1, .int 1, .int 1, .int 0, .int 1, .int 1, .int 1, .int 1, .int 1, .int 1, .int 1, .int 1, .int 1, .int 1, .int 1, .int 1, .int 1, .int 1, .int 1, .int 1, .int 0, .int 0, .int 0, .int 0, .int 1, .int 0, .int 1, .int 1, .int 1, .int 1, .int 1, .int 1, .int 1, .int 1, .int 1, .int 1, .int 1, .int 1, .int 1, .int 1, .int 1, .int 1, .int 1, .int 1, .int 1, .int 1, .int 1, .int 1, .int 1, .int 1, .int 1, .int 1, .int 0, .int 0, .int 0, .int 0, .int 0, .int 0, .int 1, .int 1, .int 1, .int 1, .int 1, .int 1, .int 1, .int 1, .int 1, .int 1, .int 1, .int 1, .int 1, .int 1, .int 1, .int 1, .int 1, .int 1, .int 1, .int 1, .int 1, .int 1, .int 1, .int 1, .int 1, .int 1, .int 0, .int 0, .int 0, .int 0, .int 0], vm := .none }]
def classes : Array Class := #[k0, k1, k2, k3, k4, k5, k6, k7, k8, k9, k10, k11, k12, k13]
def interned : List (Array UInt16 × Addr) := []
def slotsUsed : Nat := 134
def theMethod : MethodId := ⟨1, 1⟩
def args0 : Array Value := #[.int 5, .int 3, .int 1]
def aboutOver (below : List Frame) : State where
  vm := { classes := classes, interned := interned.toArray }
  heap := heap
  slotsUsed := slotsUsed
  threads := #[{ frames := .invoking theMethod args0 :: below }]
def below0 : List Frame := [.native { method := ⟨0, 0⟩, args := #[] }]
def about1 : State := aboutOver below0
def p0 : Program := .bare "" "" ""
def e0 : Env := launch0.env 0 0 0
theorem w_frames : about1.frames = Frame.invoking theMethod args0 :: below0 := rfl
set_option maxRecDepth 65536 in
theorem w_args : argsFit about1.vm theMethod args0 = true := by decide +kernel
set_option maxRecDepth 65536 in
theorem w_heap : heapFits about1 = true := by decide +kernel
set_option maxRecDepth 65536 in
theorem w_runnable : about1.curStatus? = some .runnable := by decide +kernel
set_option maxRecDepth 65536 in
theorem w_alone : about1.alone = true := by decide +kernel
set_option maxRecDepth 65536 in
theorem w_named : about1.methodNamed? x = some theMethod := by decide +kernel
set_option maxRecDepth 65536 in
theorem w_hears : about1.hears theMethod below0 = true := by decide +kernel
set_option maxRecDepth 65536 in
theorem w_ripe : about1.ripe theMethod args0 below0 = true := by decide +kernel
theorem w_running : about1.status = .running := rfl
set_option maxRecDepth 65536 in
theorem w_room : about1.hasRoom e0.platform room_1 = true :=
  launch0.hasRoom_least _ room_1 (by decide +kernel) (by decide +kernel) (by decide +kernel) (by decide +kernel) (by decide +kernel) (by decide +kernel)
theorem allAtoms_all (ts : List Jvm.Cond) (a : Array Jvm.Value) (st : Jvm.State) : (allAtoms ts).before a st = ts.all (fun c => c.before a st) := by
  induction ts with
  | nil => rfl
  | cons c t ih =>
    show (Jvm.Cond.and c (allAtoms t)).before a st = _
    rw [Jvm.Cond.before_and, ih, List.all_cons]
def words1 : List Jvm.Cond := Jvm.Cond.code x code maxLocals ret :: tables_1
/-- a 'code' word, met by the world's own term for the bytes: nothing is compared byte by byte -/
theorem code_word {y : MethodName} {bytes : ByteArray} {mx : Nat} {rt : Option FieldType} {a : Array Value} {s : State} {m : MethodId} {meth : Method} {c : Code} (h1 : s.methodNamed? y = some m) (h2 : s.vm.method? m = some meth) (h3 : meth.code = some c) (h4 : c.code = bytes)
    (h5 : (c.maxLocals == mx && c.exceptionTable.isEmpty && decide (c.maxStack ≤ mostOperands) && decide (meth.sig.returnType = rt) && !meth.locks && decide (parseMethodDescriptor y.desc = some meth.sig)) = true) : (Jvm.Cond.code y bytes mx rt).before a s = true := by
  simp only [Bool.and_eq_true, beq_iff_eq, Bool.not_eq_true', decide_eq_true_eq] at h5
  obtain ⟨⟨⟨⟨⟨g1, g2⟩, g3⟩, g4⟩, g5⟩, g6⟩ := h5
  simp [Cond.before, Cond.holds, Cond.value, h1, h2, h3, h4, g1, g2, g3, g4, g5, g6]
def isCode : Jvm.Cond → Bool
  | .code _ _ _ _ => true
  | _ => false
theorem all_split {L : List Jvm.Cond} {P : Jvm.Cond → Bool} (h1 : L.all (fun c => isCode c || P c) = true) (h2 : ∀ c ∈ L.filter isCode, P c = true) : L.all P = true := by
  refine List.all_eq_true.mpr fun c hc => ?_
  have h := List.all_eq_true.mp h1 c hc
  rcases Bool.eq_false_or_eq_true (isCode c) with hi | hi
  · exact h2 c (List.mem_filter.mpr ⟨hc, hi⟩)
  · simpa [hi] using h
set_option maxRecDepth 65536 in
theorem w_c0 : (Jvm.Cond.code x code maxLocals ret).before args0 about1 = true := code_word (m := ⟨1, 1⟩) (meth := k1m1) (c := k1c1) (by decide +kernel) rfl rfl rfl (by decide +kernel)
set_option maxRecDepth 65536 in
theorem w_c1 : (Jvm.Cond.code ({ cls := "java/lang/Math", name := "min", desc := "(II)I" } : Jvm.MethodName) jdk_29_method_69_code (2 : Nat) (Option.some Jvm.ClassFile.FieldType.int)).before args0 about1 = true := code_word (m := ⟨2, 2⟩) (meth := k2m2) (c := k2c2) (by decide +kernel) rfl rfl rfl (by decide +kernel)
set_option maxRecDepth 65536 in
theorem w_c2 : (Jvm.Cond.code ({ cls := "java/lang/Math", name := "max", desc := "(II)I" } : Jvm.MethodName) jdk_29_method_65_code (2 : Nat) (Option.some Jvm.ClassFile.FieldType.int)).before args0 about1 = true := code_word (m := ⟨2, 1⟩) (meth := k2m1) (c := k2c1) (by decide +kernel) rfl rfl rfl (by decide +kernel)
set_option maxRecDepth 65536 in
theorem w_c3 : (Jvm.Cond.code ({ cls := "com/example/poruka/poruka/fin/SwiftCharactersHoldsOnlyPinLaw", name := "at", desc := "([CIII)Z" } : Jvm.MethodName) method_3_code (4 : Nat) (Option.some Jvm.ClassFile.FieldType.boolean)).before args0 about1 = true := code_word (m := ⟨1, 2⟩) (meth := k1m2) (c := k1c2) (by decide +kernel) rfl rfl rfl (by decide +kernel)
set_option maxRecDepth 65536 in
theorem w_c4 : (Jvm.Cond.code ({ cls := "com/example/poruka/poruka/fin/SwiftCharactersHoldsOnlyPinLaw", name := "ok", desc := "(C)Z" } : Jvm.MethodName) method_4_code (1 : Nat) (Option.some Jvm.ClassFile.FieldType.boolean)).before args0 about1 = true := code_word (m := ⟨1, 3⟩) (meth := k1m3) (c := k1c3) (by decide +kernel) rfl rfl rfl (by decide +kernel)
set_option maxRecDepth 65536 in
theorem w_c5 : (Jvm.Cond.code ({ cls := "com/example/poruka/poruka/fin/SwiftCharacters", name := "holdsOnly", desc := "([CII)Z" } : Jvm.MethodName) prog_92_method_3_code (5 : Nat) (Option.some Jvm.ClassFile.FieldType.boolean)).before args0 about1 = true := code_word (m := ⟨3, 1⟩) (meth := k3m1) (c := k3c1) (by decide +kernel) rfl rfl rfl (by decide +kernel)
def codes1 : List Jvm.Cond := [Jvm.Cond.code x code maxLocals ret, Jvm.Cond.code ({ cls := "java/lang/Math", name := "min", desc := "(II)I" } : Jvm.MethodName) jdk_29_method_69_code (2 : Nat) (Option.some Jvm.ClassFile.FieldType.int), Jvm.Cond.code ({ cls := "java/lang/Math", name := "max", desc := "(II)I" } : Jvm.MethodName) jdk_29_method_65_code (2 : Nat) (Option.some Jvm.ClassFile.FieldType.int), Jvm.Cond.code ({ cls := "com/example/poruka/poruka/fin/SwiftCharactersHoldsOnlyPinLaw", name := "at", desc := "([CIII)Z" } : Jvm.MethodName) method_3_code (4 : Nat) (Option.some Jvm.ClassFile.FieldType.boolean), Jvm.Cond.code ({ cls := "com/example/poruka/poruka/fin/SwiftCharactersHoldsOnlyPinLaw", name := "ok", desc := "(C)Z" } : Jvm.MethodName) method_4_code (1 : Nat) (Option.some Jvm.ClassFile.FieldType.boolean), Jvm.Cond.code ({ cls := "com/example/poruka/poruka/fin/SwiftCharacters", name := "holdsOnly", desc := "([CII)Z" } : Jvm.MethodName) prog_92_method_3_code (5 : Nat) (Option.some Jvm.ClassFile.FieldType.boolean)]
set_option maxRecDepth 65536 in
theorem codes_eq : words1.filter isCode = codes1 := rfl
theorem w_codes : ∀ c ∈ words1.filter isCode, c.before args0 about1 = true := by
  rw [codes_eq]
  intro c hc
  simp only [codes1, List.mem_cons, List.not_mem_nil, or_false] at hc
  rcases hc with rfl | rfl | rfl | rfl | rfl | rfl
  · exact w_c0
  · exact w_c1
  · exact w_c2
  · exact w_c3
  · exact w_c4
  · exact w_c5
set_option maxRecDepth 65536 in
theorem w_t1 : words1.all (fun c => isCode c || c.before args0 about1) = true := by decide +kernel
theorem w_tables : (allAtoms (Jvm.Cond.code x code maxLocals ret :: tables_1)).before args0 about1 = true := by
  rw [allAtoms_all]
  show words1.all (fun c => c.before args0 about1) = true
  refine all_split ?_ w_codes
  rw [w_t1]
set_option maxRecDepth 65536 in
theorem w_case : (Jvm.Cond.and given_1 narrow_1).before args0 about1 = true := by decide +kernel
theorem w_applies : (headSpec (Jvm.Cond.code x code maxLocals ret :: tables_1) room_1).applies x e0.platform about1 = true :=
  (Spec.applies_iff w_frames).mpr ⟨w_running, w_runnable, w_alone, w_named, w_hears, w_ripe, w_room, w_tables⟩
theorem atStart : AtStart classFile x code maxLocals ret World_1 tables_1 room_1 Calls_1 rest_1 Pre_1 launch0 p0 e0 about1 theMethod args0 below0 :=
  ⟨lists_1, trivial, launch0.admits_env _ _ _, launch0.least_env, fairChoices_fair.cas, fairChoices_fair.clock, w_frames, w_args, w_heap, w_applies, trivial, trivial, w_case⟩
end start1
theorem witness_1 : WitnessClaimed_1 := ⟨start1.p0, start1.e0, start1.about1, start1.theMethod, start1.args0, start1.below0, start1.atStart⟩
end Jvm.Pilot.@@N@@
