import JvmDerived
import JvmDerived.Pilot.@@N@@Statement
import JvmDerived.Pilot.@@N@@Code
set_option linter.unusedVariables false
set_option linter.unusedSimpArgs false
namespace Jvm.Pilot.@@N@@
open Jvm Jvm.ClassFile Sem Op Lib Jvm.Free Jvm.Stand Jvm.LawKit Jvm.RoadKit Bundle Jvm.Pilot.@@N@@.Jvm.D
section Own
variable {p : Program} {l : Launch} {e : Env} {R : Room} {s : State} {m : MethodId} {args : Array Value} {below : List Frame} {meth : Method} {c : Code} {T T' : State} {locs : List Loc} {cells slots : Nat}
/-- from the frame g over the state T the body comes to its end, as Q says -/
def own_E (p : Program) (e : Env) (below : List Frame) (s : State) (Q : Option Value → Heap → List Loc → Prop) (k n : Nat) (T : State) (g : JFrame) : Prop :=
  ∃ U o, Steps p.tables e below (T.setTop g) U ∧ U.status = .running ∧ Ended U below o ∧ ∃ v L, o = Outcome.returned v ∧ Q v U.heap L ∧ FrameEnd s o U L k n
variable {Q : Option Value → Heap → List Loc → Prop} {k n : Nat} {g g' : JFrame}
theorem own_via (st : ∀ t, Steps p.tables e below (T'.setTop g') t → Steps p.tables e below (T.setTop g) t) (h : own_E p e below s Q k n T' g') : own_E p e below s Q k n T g := by
  obtain ⟨U, o, h1, r⟩ := h
  exact ⟨U, o, st U h1, r⟩
theorem own_thru (st : Steps p.tables e below (T.setTop g) (T'.setTop g')) (h : own_E p e below s Q k n T' g') : own_E p e below s Q k n T g := own_via (fun _ k => st.trans k) h
theorem own_retN (X : Stand p l e R s m args below meth c T locs cells slots) (hx : p.tables.exec = Jvm.exec) (hlk : meth.locks = false) {pc : Nat} {Ls : Array Slot} {z : Int32} {t : FieldType} {rest : List Value} (hret : meth.sig.returnType = some t) (ht : t = .boolean ∨ t = .byte ∨ t = .char ∨ t = .short)
    (hd : decode c.code pc = .ok (.ireturn, 1)) (hk : cells ≤ k) (hn : slots ≤ n) (hQ : Q (some (.int (nar t z))) T.heap locs) : own_E p e below s Q k n T (mkF m pc Ls (.int z :: rest)) := by
  obtain ⟨fs, hr, hrun, hended, hW, hsame⟩ := X.leave (v := some (.int (nar t z))) (fun h => by rw [hret] at h; cases h) hlk
  exact ⟨_, _, retN X hx hret ht hd hr, hrun, hended, _, _, rfl, hQ, ⟨_, rfl⟩, hW, hsame.mono hk hn⟩
theorem own_ret (X : Stand p l e R s m args below meth c T locs cells slots) (hx : p.tables.exec = Jvm.exec) (hlk : meth.locks = false) {pc : Nat} {Ls : Array Slot} {w : Value} {t : FieldType} {i : Instr} {rest : List Value} (hret : meth.sig.returnType = some t) (hnr : narrow t w = w)
    (hi : (i = .ireturn ∧ (t = .int ∨ t = .boolean ∨ t = .byte ∨ t = .char ∨ t = .short) ∧ ∃ z, w = .int z) ∨ (i = .lreturn ∧ t = .long ∧ ∃ z, w = .long z) ∨ (i = .dreturn ∧ t = .double ∧ ∃ z, w = .double z) ∨ (i = .freturn ∧ t = .float ∧ ∃ z, w = .float z) ∨ (i = .areturn ∧ t.isReference = true ∧ w.isRef = true))
    (hd : decode c.code pc = .ok (i, 1)) (hk : cells ≤ k) (hn : slots ≤ n) (hQ : Q (some w) T.heap locs) : own_E p e below s Q k n T (mkF m pc Ls (w :: rest)) := by
  obtain ⟨fs, hr, hrun, hended, hW, hsame⟩ := X.leave (v := some w) (fun h => by rw [hret] at h; cases h) hlk
  exact ⟨_, _, retOut X hx hret hnr hi hd hr, hrun, hended, _, _, rfl, hQ, ⟨_, rfl⟩, hW, hsame.mono hk hn⟩
theorem own_retV (X : Stand p l e R s m args below meth c T locs cells slots) (hx : p.tables.exec = Jvm.exec) (hlk : meth.locks = false) {pc : Nat} {Ls : Array Slot} (hret : meth.sig.returnType = none)
    (hd : decode c.code pc = .ok (.return_, 1)) (hk : cells ≤ k) (hn : slots ≤ n) (hQ : Q none T.heap locs) : own_E p e below s Q k n T (mkF m pc Ls []) := by
  obtain ⟨fs, hr, hrun, hended, hW, hsame⟩ := X.leave (v := none) (fun _ => rfl) hlk
  exact ⟨_, _, X.returnOut hx hret hd hr, hrun, hended, _, _, rfl, hQ, ⟨_, rfl⟩, hW, hsame.mono hk hn⟩
end Own
def own_ushr (x y : Int32) : Int32 := (x.toUInt32 >>> (y &&& 31).toUInt32).toInt32
def own_ushrL (x : Int64) (y : Int32) : Int64 := (x.toUInt64 >>> (y &&& 0x3f).toInt64.toUInt64).toInt64
/-- a field of an old object, said by the case to hold an int -/
theorem own_fldI {Z : State} {args : Array Value} {t : Term} {C n d : String} {a : Addr} {k : Int32} (ev : t.eval args Z none [] Z = some (.ref a)) (h : (Cond.eq (.field t C n d) (.int k)).value args Z none Z [] = some true) : Fld Z Z.heap a C n d (.int k) := by
  obtain ⟨x, y, h1, h2, k1, k2⟩ := cmp_v (Or.inl h)
  obtain rfl : y = .int k := (Option.some.inj h2).symm
  obtain ⟨z, rfl⟩ : ∃ z, x = .int z := k2
  have e := gotT (Cond.eq_ints h1 h2) h
  subst e
  rw [fld_at ev] at h1
  exact Fld.start h1
theorem d1_0 : decode prog_74_method_6_code 0 = .ok (.iload_n 1, 1) := by decide +kernel
theorem d1_1 : decode prog_74_method_6_code 1 = .ok (.aload_n 0, 1) := by decide +kernel
theorem d1_2 : decode prog_74_method_6_code 2 = .ok (.getfield 42, 3) := by decide +kernel
theorem d1_5 : decode prog_74_method_6_code 5 = .ok (.if_icmp .lt 15, 3) := by decide +kernel
theorem d1_8 : decode prog_74_method_6_code 8 = .ok (.iload_n 1, 1) := by decide +kernel
theorem d1_9 : decode prog_74_method_6_code 9 = .ok (.aload_n 0, 1) := by decide +kernel
theorem d1_10 : decode prog_74_method_6_code 10 = .ok (.getfield 46, 3) := by decide +kernel
theorem d1_13 : decode prog_74_method_6_code 13 = .ok (.if_icmp .gt 7, 3) := by decide +kernel
theorem d1_16 : decode prog_74_method_6_code 16 = .ok (.iconst 1, 1) := by decide +kernel
theorem d1_17 : decode prog_74_method_6_code 17 = .ok (.goto 4, 3) := by decide +kernel
theorem d1_20 : decode prog_74_method_6_code 20 = .ok (.iconst 0, 1) := by decide +kernel
theorem d1_21 : decode prog_74_method_6_code 21 = .ok (.ireturn, 1) := by decide +kernel
theorem pn_1 : plainName "com/example/strategos/strategos/lang/Function" = true := by first | (simp [plainName, overriddenIn]; done) | decide +kernel
theorem ef_1 (m : MethodId) (x0 : Addr) (x1 : Int32) : entryFrame m #[(.ref x0), (.int x1)] 2 = mkF m 0 #[.val (.ref x0), .val (.int x1)] [] := by first | (simp [entryFrame, mkF, argsToLocals, Value.category]; done) | rfl
theorem pd_1 : parseMethodDescriptor "(I)Z" = some ⟨[.int], some .boolean⟩ := by decide +kernel
def own_tk (c f m : Int32) : Int32 := if c < f then 0 else if m < c then 0 else 1
def Q1 (a1 : Addr) (p2 w3 w5 : Int32) (h0 : Heap) (n0 : Nat) (v : Option Value) (h : Heap) (L : List Loc) : Prop := v = some (.int (own_tk p2 w3 w5)) ∧ Fr n0 L ∧ h = h0
set_option maxRecDepth 65536 in
set_option maxHeartbeats 40000000 in
theorem rm1 (l : Launch) (Z : State) (a0 : Array Value) (hw : ∀ d ∈ tables_1, d.before a0 Z = true) (ws : List Jvm.Cond) (a1 : Addr) (p2 w3 w5 : Int32) (h0 : Heap) (n0 : Nat) (Z0 : n0 ≤ h0.size) (F3 : Fld Z h0 a1 "com/example/strategos/strategos/lang/Function" "fewest" "I" (.int w3)) (F5 : Fld Z h0 a1 "com/example/strategos/strategos/lang/Function" "most" "I" (.int w5)) :
    MetFree l (⟨"com/example/strategos/strategos/lang/Function", "takes", "(I)Z"⟩ : MethodName) (head1 (Jvm.Cond.code (⟨"com/example/strategos/strategos/lang/Function", "takes", "(I)Z"⟩ : MethodName) prog_74_method_6_code 2 (some .boolean) :: ws) ({ frames := 0, cells := 0, slots := 0, locals := 0 } : Room)) (fun a U => a = #[(.ref a1), (.int p2)] ∧ Z.Warmed39 U.vm ∧ U.heap = h0) (fun _ _ _ _ _ => True) (fun _ U o U' => ∃ v L, o = .returned v ∧ Q1 a1 p2 w3 w5 h0 n0 v U'.heap L ∧ FrameEnd U o U' L ({ frames := 0, cells := 0, slots := 0, locals := 0 } : Room).cells ({ frames := 0, cells := 0, slots := 0, locals := 0 } : Room).slots) := by
  refine MetFree.of_bodySF (plainFor_of_name pn_1) hisR ?_
  intro p e s m args below meth c s₁ Bd hml0 hP hK
  obtain ⟨rfl, hZ, hh⟩ := hP
  have hx := Bd.exec
  have hby := Bd.bytes
  have hlk := Bd.notSynchronized
  have hml : c.maxLocals = 2 := hml0
  have hown : s.vm.findClass "com/example/strategos/strategos/lang/Function" = some m.cls := findClass_of_methodNamed Bd.named
  have hnm := (name_of_methodNamed Bd.named Bd.method).1
  have X0 : Stand p l e ({ frames := 0, cells := 0, slots := 0, locals := 0 } : Room) s m #[(.ref a1), (.int p2)] below meth c s₁ [] 0 0 := Stand.of_body Bd
  have e0 : s₁.heap = h0 := by rw [← hh, Bd.state]; rfl
  have N0 := Fr.nil n0
  show own_E p e below s (Q1 a1 p2 w3 w5 h0 n0) _ _ s₁ (entryFrame m #[(.ref a1), (.int p2)] 2)
  rw [ef_1]
  show own_E _ _ _ _ _ _ _ s₁ (mkF m 0 #[.val (.ref a1), .val (.int p2)] [])
  refine own_via (fun t => XS.iloadN X0.here hx rfl (hb hby d1_0) rfl) ?_
  show own_E _ _ _ _ _ _ _ s₁ (mkF m 1 #[.val (.ref a1), .val (.int p2)] [(.int p2)])
  refine own_via (fun t => XS.aloadN X0.here hx rfl (hb hby d1_1) rfl rfl) ?_
  show own_E _ _ _ _ _ _ _ s₁ (mkF m 2 #[.val (.ref a1), .val (.int p2)] [(.ref a1), (.int p2)])
  obtain ⟨T1, X1, e1, st1⟩ := getF X0 hx hZ hown (host := "") (Or.inl (hw _ (List.mem_of_getElem? (i := 9) rfl))) Via.refl e0 F3 (g := (mkF m 2 #[.val (.ref a1), .val (.int p2)] [(.ref a1), (.int p2)])) rfl rfl (hb hby d1_2)
  refine own_via st1 ?_
  show own_E _ _ _ _ _ _ _ T1 (mkF m 5 #[.val (.ref a1), .val (.int p2)] [(.int w3), (.int p2)])
  by_cases c5_2 : p2 < w3
  · refine own_via (fun t => XS.icmpYes X1.here hx rfl (pc0 := 5) (pc' := 20) rfl (hb hby d1_5) rfl (tlt c5_2).1 (by decide) (by decide)) ?_
    show own_E _ _ _ _ _ _ _ T1 (mkF m 20 #[.val (.ref a1), .val (.int p2)] [])
    refine own_via (fun t => XS.iconst X1.here hx rfl (hb hby d1_20)) ?_
    show own_E _ _ _ _ _ _ _ T1 (mkF m 21 #[.val (.ref a1), .val (.int p2)] [(.int (0 : Int32))])
    refine own_retN X1 hx hlk Bd.returns (Or.inl rfl) (hb hby d1_21) (Nat.le_refl _) (Nat.le_refl _) ⟨by simp only [own_tk, if_pos c5_2]; rfl, N0, e1⟩
  · refine own_via (fun t => XS.icmpNo X1.here hx rfl (hb hby d1_5) rfl (flt c5_2).1) ?_
    show own_E _ _ _ _ _ _ _ T1 (mkF m 8 #[.val (.ref a1), .val (.int p2)] [])
    refine own_via (fun t => XS.iloadN X1.here hx rfl (hb hby d1_8) rfl) ?_
    show own_E _ _ _ _ _ _ _ T1 (mkF m 9 #[.val (.ref a1), .val (.int p2)] [(.int p2)])
    refine own_via (fun t => XS.aloadN X1.here hx rfl (hb hby d1_9) rfl rfl) ?_
    show own_E _ _ _ _ _ _ _ T1 (mkF m 10 #[.val (.ref a1), .val (.int p2)] [(.ref a1), (.int p2)])
    obtain ⟨T3, X3, e3, st3⟩ := getF X1 hx hZ hown (host := "") (Or.inl (hw _ (List.mem_of_getElem? (i := 11) rfl))) Via.refl e1 F5 (g := (mkF m 10 #[.val (.ref a1), .val (.int p2)] [(.ref a1), (.int p2)])) rfl rfl (hb hby d1_10)
    refine own_via st3 ?_
    show own_E _ _ _ _ _ _ _ T3 (mkF m 13 #[.val (.ref a1), .val (.int p2)] [(.int w5), (.int p2)])
    by_cases c13_4 : w5 < p2
    · refine own_via (fun t => XS.icmpYes X3.here hx rfl (pc0 := 13) (pc' := 20) rfl (hb hby d1_13) rfl (tlt c13_4).2.2.1 (by decide) (by decide)) ?_
      show own_E _ _ _ _ _ _ _ T3 (mkF m 20 #[.val (.ref a1), .val (.int p2)] [])
      refine own_via (fun t => XS.iconst X3.here hx rfl (hb hby d1_20)) ?_
      show own_E _ _ _ _ _ _ _ T3 (mkF m 21 #[.val (.ref a1), .val (.int p2)] [(.int (0 : Int32))])
      refine own_retN X3 hx hlk Bd.returns (Or.inl rfl) (hb hby d1_21) (Nat.le_refl _) (Nat.le_refl _) ⟨by simp only [own_tk, if_neg c5_2, if_pos c13_4]; rfl, N0, e3⟩
    · refine own_via (fun t => XS.icmpNo X3.here hx rfl (hb hby d1_13) rfl (flt c13_4).2.2.1) ?_
      show own_E _ _ _ _ _ _ _ T3 (mkF m 16 #[.val (.ref a1), .val (.int p2)] [])
      refine own_via (fun t => XS.iconst X3.here hx rfl (hb hby d1_16)) ?_
      show own_E _ _ _ _ _ _ _ T3 (mkF m 17 #[.val (.ref a1), .val (.int p2)] [(.int (1 : Int32))])
      refine own_via (fun t => XS.goto X3.here hx rfl (pc0 := 17) (pc' := 21) rfl (hb hby d1_17) (by decide) (by decide)) ?_
      show own_E _ _ _ _ _ _ _ T3 (mkF m 21 #[.val (.ref a1), .val (.int p2)] [(.int (1 : Int32))])
      refine own_retN X3 hx hlk Bd.returns (Or.inl rfl) (hb hby d1_21) (Nat.le_refl _) (Nat.le_refl _) ⟨by simp only [own_tk, if_neg c5_2, if_neg c13_4]; rfl, N0, e3⟩
theorem pn_0 : plainName "com/example/strategos/strategos/lang/FunctionTakesPinLaw" = true := by first | (simp [plainName, overriddenIn]; done) | decide +kernel
theorem ef_0 (m : MethodId) (x0 : Int32) (x1 : Int32) : entryFrame m #[(.int x0), (.int x1)] maxLocals = mkF m 0 #[.val (.int x0), .val (.int x1), .unset, .unset, .unset] [] := by first | (simp [entryFrame, mkF, argsToLocals, Value.category, maxLocals]; done) | rfl
theorem own_min {c : Int32} (h : ¬ c < 2) : own_tk c 2 2147483647 = 1 := by
  have h2 : ¬ (2147483647 : Int32) < c := by
    rw [Int32.lt_iff_toInt_lt]; have := (rng32 c).2; have e : (2147483647 : Int32).toInt = 2147483647 := by decide
    omega
  simp only [own_tk, if_neg h, if_neg h2]
theorem own_min0 {c f m : Int32} (h : c < f) : own_tk c f m = 0 := by simp only [own_tk, if_pos h]
theorem own_same {c k : Int32} (h : c = k) : own_tk c k k = 1 := by
  subst h
  have h2 : ¬ c < c := by rw [Int32.lt_iff_toInt_lt]; omega
  simp only [own_tk, if_neg h2]
theorem own_diff {c k : Int32} (h : ¬ c = k) : own_tk c k k = 0 := by
  by_cases h1 : c < k
  · simp only [own_tk, if_pos h1]
  · have h2 : k < c := by
      rw [Int32.lt_iff_toInt_lt] at *; rw [← Int32.toInt_inj] at h; omega
    simp only [own_tk, if_neg h1, if_pos h2]
def Q0 (n0 : Nat) (v : Option Value) (h : Heap) (L : List Loc) : Prop := v = some (.int 1) ∧ Fr n0 L
set_option maxRecDepth 65536 in
set_option maxHeartbeats 40000000 in
theorem rm0 (l : Launch) (Z : State) (a0 : Array Value) (hw : ∀ d ∈ tables_1, d.before a0 Z = true) (ws : List Jvm.Cond) (p1 p2 : Int32) (bMIN bMAX bPOW bFLOOR bCEIL : Addr) (h0 : Heap) (n0 : Nat) (Z0 : n0 ≤ h0.size) (S_MIN : Sta Z h0 "com/example/strategos/strategos/lang/Function" "MIN" "Lcom/example/strategos/strategos/lang/Function;" (.ref bMIN)) (E_MIN : Exa Z h0 bMIN "com/example/strategos/strategos/lang/Function") (F_MIN : Fld Z h0 bMIN "com/example/strategos/strategos/lang/Function" "fewest" "I" (.int 2)) (G_MIN : Fld Z h0 bMIN "com/example/strategos/strategos/lang/Function" "most" "I" (.int 2147483647)) (S_MAX : Sta Z h0 "com/example/strategos/strategos/lang/Function" "MAX" "Lcom/example/strategos/strategos/lang/Function;" (.ref bMAX)) (E_MAX : Exa Z h0 bMAX "com/example/strategos/strategos/lang/Function") (F_MAX : Fld Z h0 bMAX "com/example/strategos/strategos/lang/Function" "fewest" "I" (.int 2)) (G_MAX : Fld Z h0 bMAX "com/example/strategos/strategos/lang/Function" "most" "I" (.int 2147483647)) (S_POW : Sta Z h0 "com/example/strategos/strategos/lang/Function" "POW" "Lcom/example/strategos/strategos/lang/Function;" (.ref bPOW)) (E_POW : Exa Z h0 bPOW "com/example/strategos/strategos/lang/Function") (F_POW : Fld Z h0 bPOW "com/example/strategos/strategos/lang/Function" "fewest" "I" (.int 2)) (G_POW : Fld Z h0 bPOW "com/example/strategos/strategos/lang/Function" "most" "I" (.int 2)) (S_FLOOR : Sta Z h0 "com/example/strategos/strategos/lang/Function" "FLOOR" "Lcom/example/strategos/strategos/lang/Function;" (.ref bFLOOR)) (E_FLOOR : Exa Z h0 bFLOOR "com/example/strategos/strategos/lang/Function") (F_FLOOR : Fld Z h0 bFLOOR "com/example/strategos/strategos/lang/Function" "fewest" "I" (.int 1)) (G_FLOOR : Fld Z h0 bFLOOR "com/example/strategos/strategos/lang/Function" "most" "I" (.int 1)) (S_CEIL : Sta Z h0 "com/example/strategos/strategos/lang/Function" "CEIL" "Lcom/example/strategos/strategos/lang/Function;" (.ref bCEIL)) (E_CEIL : Exa Z h0 bCEIL "com/example/strategos/strategos/lang/Function") (F_CEIL : Fld Z h0 bCEIL "com/example/strategos/strategos/lang/Function" "fewest" "I" (.int 1)) (G_CEIL : Fld Z h0 bCEIL "com/example/strategos/strategos/lang/Function" "most" "I" (.int 1)) :
    MetFree l x (head1 (Jvm.Cond.code x code maxLocals ret :: ws) room_1) (fun a U => a = #[(.int p1), (.int p2)] ∧ Z.Warmed39 U.vm ∧ U.heap = h0) (fun _ _ _ _ _ => True) (fun _ U o U' => ∃ v L, o = .returned v ∧ Q0 n0 v U'.heap L ∧ FrameEnd U o U' L 0 0) := by
  refine MetFree.of_bodySF (plainFor_of_name pn_0) hisR ?_
  intro p e s m args below meth c s₁ Bd hml0 hP hK
  obtain ⟨rfl, hZ, hh⟩ := hP
  have hx := Bd.exec
  have hby := Bd.bytes
  have hlk := Bd.notSynchronized
  have hml : c.maxLocals = 5 := hml0
  have hown : s.vm.findClass "com/example/strategos/strategos/lang/FunctionTakesPinLaw" = some m.cls := findClass_of_methodNamed Bd.named
  have hnm := (name_of_methodNamed Bd.named Bd.method).1
  have X0 : Stand p l e room_1 s m #[(.int p1), (.int p2)] below meth c s₁ [] 0 0 := Stand.of_body Bd
  have e0 : s₁.heap = h0 := by rw [← hh, Bd.state]; rfl
  have N0 := Fr.nil n0
  show own_E p e below s (Q0 n0) _ _ s₁ (entryFrame m #[(.int p1), (.int p2)] maxLocals)
  rw [ef_0]
  show own_E _ _ _ _ _ _ _ s₁ (mkF m 0 #[.val (.int p1), .val (.int p2), .unset, .unset, .unset] [])
  refine own_via (fun t => XS.iloadN X0.here hx rfl (hb hby at_0) rfl) ?_
  show own_E _ _ _ _ _ _ _ s₁ (mkF m 1 #[.val (.int p1), .val (.int p2), .unset, .unset, .unset] [(.int p1)])
  refine own_via (X0.ldcInt hx hown (mvT hZ (hw _ (List.mem_of_getElem? (i := 0) rfl))) (g := (mkF m 1 #[.val (.int p1), .val (.int p2), .unset, .unset, .unset] [(.int p1)])) rfl (hb hby at_1)) ?_
  show own_E _ _ _ _ _ _ _ s₁ (mkF m 3 #[.val (.int p1), .val (.int p2), .unset, .unset, .unset] [(.int (2147483647 : Int32)), (.int p1)])
  refine own_via (fun t => XS.iand X0.here hx rfl (hb hby at_3) rfl) ?_
  show own_E _ _ _ _ _ _ _ s₁ (mkF m 4 #[.val (.int p1), .val (.int p2), .unset, .unset, .unset] [(.int (p1 &&& (2147483647 : Int32)))])
  refine own_via (fun t => XS.iconst X0.here hx rfl (hb hby at_4)) ?_
  show own_E _ _ _ _ _ _ _ s₁ (mkF m 5 #[.val (.int p1), .val (.int p2), .unset, .unset, .unset] [(.int (5 : Int32)), (.int (p1 &&& (2147483647 : Int32)))])
  refine own_via (fun t => iremM X0 hx rfl (hb hby at_5) rfl (by decide)) ?_
  show own_E _ _ _ _ _ _ _ s₁ (mkF m 6 #[.val (.int p1), .val (.int p2), .unset, .unset, .unset] [(.int ((p1 &&& (2147483647 : Int32)) % (5 : Int32)))])
  generalize (p1 &&& (2147483647 : Int32)) % (5 : Int32) = kk
  show own_E _ _ _ _ _ _ _ s₁ (mkF m 6 #[.val (.int p1), .val (.int p2), .unset, .unset, .unset] [(.int kk)])
  refine own_via (fun t => XS.istoreN X0.here hx rfl (hb hby at_6) rfl (l' := #[.val (.int p1), .val (.int p2), .val (.int kk), .unset, .unset]) rfl) ?_
  show own_E _ _ _ _ _ _ _ s₁ (mkF m 7 #[.val (.int p1), .val (.int p2), .val (.int kk), .unset, .unset] [])
  refine own_via (fun t => XS.iloadN X0.here hx rfl (hb hby at_7) rfl) ?_
  show own_E _ _ _ _ _ _ _ s₁ (mkF m 8 #[.val (.int p1), .val (.int p2), .val (.int kk), .unset, .unset] [(.int kk)])
  by_cases c8_5 : kk = (0 : Int32)
  · refine own_via (fun t => XS.ifNo X0.here hx rfl (hb hby at_8) rfl ((if0 _ _).trans (teq c8_5).2)) ?_
    show own_E _ _ _ _ _ _ _ s₁ (mkF m 11 #[.val (.int p1), .val (.int p2), .val (.int kk), .unset, .unset] [])
    obtain ⟨T6, X6, e6, st6⟩ := getS (host := "") X0 hx hZ hown (hw _ (List.mem_of_getElem? (i := 1) rfl)) Via.refl e0 S_MIN (g := (mkF m 11 #[.val (.int p1), .val (.int p2), .val (.int kk), .unset, .unset] [])) rfl (hb hby at_11)
    refine own_via st6 ?_
    show own_E _ _ _ _ _ _ _ T6 (mkF m 14 #[.val (.int p1), .val (.int p2), .val (.int kk), .unset, .unset] [(.ref bMIN)])
    refine own_via (fun t => XS.astoreN X6.here hx rfl (hb hby at_14) rfl rfl (l' := #[.val (.int p1), .val (.int p2), .val (.int kk), .val (.ref bMIN), .unset]) rfl) ?_
    show own_E _ _ _ _ _ _ _ T6 (mkF m 15 #[.val (.int p1), .val (.int p2), .val (.int kk), .val (.ref bMIN), .unset] [])
    refine own_via (fun t => XS.iloadN X6.here hx rfl (hb hby at_15) rfl) ?_
    show own_E _ _ _ _ _ _ _ T6 (mkF m 16 #[.val (.int p1), .val (.int p2), .val (.int kk), .val (.ref bMIN), .unset] [(.int p2)])
    refine own_via (fun t => XS.iconst X6.here hx rfl (hb hby at_16)) ?_
    show own_E _ _ _ _ _ _ _ T6 (mkF m 17 #[.val (.int p1), .val (.int p2), .val (.int kk), .val (.ref bMIN), .unset] [(.int (2 : Int32)), (.int p2)])
    by_cases c17_7 : p2 < (2 : Int32)
    · refine own_via (fun t => XS.icmpYes X6.here hx rfl (pc0 := 17) (pc' := 24) rfl (hb hby at_17) rfl (tlt c17_7).1 (by decide) (by decide)) ?_
      show own_E _ _ _ _ _ _ _ T6 (mkF m 24 #[.val (.int p1), .val (.int p2), .val (.int kk), .val (.ref bMIN), .unset] [])
      refine own_via (fun t => XS.iconst X6.here hx rfl (hb hby at_24)) ?_
      show own_E _ _ _ _ _ _ _ T6 (mkF m 25 #[.val (.int p1), .val (.int p2), .val (.int kk), .val (.ref bMIN), .unset] [(.int (0 : Int32))])
      refine own_via (fun t => XS.istore X6.here hx rfl (hb hby at_25) rfl (l' := #[.val (.int p1), .val (.int p2), .val (.int kk), .val (.ref bMIN), .val (.int (0 : Int32))]) rfl) ?_
      show own_E _ _ _ _ _ _ _ T6 (mkF m 27 #[.val (.int p1), .val (.int p2), .val (.int kk), .val (.ref bMIN), .val (.int (0 : Int32))] [])
      refine own_via (fun t => XS.goto X6.here hx rfl (pc0 := 27) (pc' := 118) rfl (hb hby at_27) (by decide) (by decide)) ?_
      show own_E _ _ _ _ _ _ _ T6 (mkF m 118 #[.val (.int p1), .val (.int p2), .val (.int kk), .val (.ref bMIN), .val (.int (0 : Int32))] [])
      refine own_via (fun t => XS.aloadN X6.here hx rfl (hb hby at_118) rfl rfl) ?_
      show own_E _ _ _ _ _ _ _ T6 (mkF m 119 #[.val (.int p1), .val (.int p2), .val (.int kk), .val (.ref bMIN), .val (.int (0 : Int32))] [(.ref bMIN)])
      refine own_via (fun t => XS.iloadN X6.here hx rfl (hb hby at_119) rfl) ?_
      show own_E _ _ _ _ _ _ _ T6 (mkF m 120 #[.val (.int p1), .val (.int p2), .val (.int kk), .val (.ref bMIN), .val (.int (0 : Int32))] [(.int p2), (.ref bMIN)])
      obtain ⟨cq8, kq8, q8a, q8b, q8c⟩ := isOf hZ e6 E_MIN
      obtain ⟨_, _, ⟨T8, L8, k8, n8⟩, -, X8, ⟨Lc8, hQ8, l8, y8, z8⟩, st8⟩ := X6.virtualBack hx (y := (⟨"com/example/strategos/strategos/lang/Function", "takes", "(I)Z"⟩ : MethodName)) (z := (⟨"com/example/strategos/strategos/lang/Function", "takes", "(I)Z"⟩ : MethodName)) hown (mvT hZ (hw _ (List.mem_of_getElem? (i := 4) rfl))) (mvT hZ (hw _ (List.mem_of_getElem? (i := 5) rfl))) (notFace_of_selects (args := #[]) (mvT hZ (hw _ (List.mem_of_getElem? (i := 7) rfl)))) (mvT hZ (hw _ (List.mem_of_getElem? (i := 7) rfl))) (mvT hZ (hw _ (List.mem_of_getElem? (i := 6) rfl))) (by decide) (backOf (W := 0) (rm1 l Z a0 hw [] bMIN p2 2 2147483647 h0 n0 Z0 F_MIN G_MIN) hZ (hw _ (List.mem_of_getElem? (i := 8) rfl)) (hw _ (List.mem_of_getElem? (i := 2) rfl)) (by decide) (by decide)) q8a q8c (g := (mkF m 120 #[.val (.int p1), .val (.int p2), .val (.int kk), .val (.ref bMIN), .val (.int (0 : Int32))] [(.int p2), (.ref bMIN)])) rfl (by rw [hml]; rfl) (Steps.refl _) (argsL := [(.int p2)]) (rest := []) (lenOf pd_1 rfl) rfl (by show 2 * 0 + _ ≤ _; exact Nat.le_of_eq rfl) (hb hby at_120) (fun _ _ => ⟨rfl, e6, (by decide : 0 ≤ _), (by decide : 0 ≤ _)⟩)
      dsimp only [Pt.U, Pt.locs, Pt.cells, Pt.slots] at X8 l8 y8 z8 st8 hQ8
      subst l8 y8 z8
      obtain ⟨rfl, N8, e8⟩ := hQ8
      refine own_thru st8 ?_
      show own_E _ _ _ _ _ _ _ T8 (mkF m 123 #[.val (.int p1), .val (.int p2), .val (.int kk), .val (.ref bMIN), .val (.int (0 : Int32))] [(.int (own_tk p2 (2 : Int32) (2147483647 : Int32)))])
      rw [own_min0 c17_7]
      show own_E _ _ _ _ _ _ _ T8 (mkF m 123 #[.val (.int p1), .val (.int p2), .val (.int kk), .val (.ref bMIN), .val (.int (0 : Int32))] [(.int (0 : Int32))])
      refine own_via (fun t => XS.iload X8.here hx rfl (hb hby at_123) rfl) ?_
      show own_E _ _ _ _ _ _ _ T8 (mkF m 125 #[.val (.int p1), .val (.int p2), .val (.int kk), .val (.ref bMIN), .val (.int (0 : Int32))] [(.int (0 : Int32)), (.int (0 : Int32))])
      refine own_via (fun t => XS.icmpNo X8.here hx rfl (hb hby at_125) rfl (teq (by decide : (0 : Int32) = (0 : Int32))).2) ?_
      show own_E _ _ _ _ _ _ _ T8 (mkF m 128 #[.val (.int p1), .val (.int p2), .val (.int kk), .val (.ref bMIN), .val (.int (0 : Int32))] [])
      refine own_via (fun t => XS.iconst X8.here hx rfl (hb hby at_128)) ?_
      show own_E _ _ _ _ _ _ _ T8 (mkF m 129 #[.val (.int p1), .val (.int p2), .val (.int kk), .val (.ref bMIN), .val (.int (0 : Int32))] [(.int (1 : Int32))])
      refine own_via (fun t => XS.goto X8.here hx rfl (pc0 := 129) (pc' := 133) rfl (hb hby at_129) (by decide) (by decide)) ?_
      show own_E _ _ _ _ _ _ _ T8 (mkF m 133 #[.val (.int p1), .val (.int p2), .val (.int kk), .val (.ref bMIN), .val (.int (0 : Int32))] [(.int (1 : Int32))])
      refine own_retN X8 hx hlk Bd.returns (Or.inl rfl) (hb hby at_133) (Nat.le_refl _) (Nat.le_refl _) ⟨rfl, Fr.app N0 N8⟩
    · refine own_via (fun t => XS.icmpNo X6.here hx rfl (hb hby at_17) rfl (flt c17_7).1) ?_
      show own_E _ _ _ _ _ _ _ T6 (mkF m 20 #[.val (.int p1), .val (.int p2), .val (.int kk), .val (.ref bMIN), .unset] [])
      refine own_via (fun t => XS.iconst X6.here hx rfl (hb hby at_20)) ?_
      show own_E _ _ _ _ _ _ _ T6 (mkF m 21 #[.val (.int p1), .val (.int p2), .val (.int kk), .val (.ref bMIN), .unset] [(.int (1 : Int32))])
      refine own_via (fun t => XS.goto X6.here hx rfl (pc0 := 21) (pc' := 25) rfl (hb hby at_21) (by decide) (by decide)) ?_
      show own_E _ _ _ _ _ _ _ T6 (mkF m 25 #[.val (.int p1), .val (.int p2), .val (.int kk), .val (.ref bMIN), .unset] [(.int (1 : Int32))])
      refine own_via (fun t => XS.istore X6.here hx rfl (hb hby at_25) rfl (l' := #[.val (.int p1), .val (.int p2), .val (.int kk), .val (.ref bMIN), .val (.int (1 : Int32))]) rfl) ?_
      show own_E _ _ _ _ _ _ _ T6 (mkF m 27 #[.val (.int p1), .val (.int p2), .val (.int kk), .val (.ref bMIN), .val (.int (1 : Int32))] [])
      refine own_via (fun t => XS.goto X6.here hx rfl (pc0 := 27) (pc' := 118) rfl (hb hby at_27) (by decide) (by decide)) ?_
      show own_E _ _ _ _ _ _ _ T6 (mkF m 118 #[.val (.int p1), .val (.int p2), .val (.int kk), .val (.ref bMIN), .val (.int (1 : Int32))] [])
      refine own_via (fun t => XS.aloadN X6.here hx rfl (hb hby at_118) rfl rfl) ?_
      show own_E _ _ _ _ _ _ _ T6 (mkF m 119 #[.val (.int p1), .val (.int p2), .val (.int kk), .val (.ref bMIN), .val (.int (1 : Int32))] [(.ref bMIN)])
      refine own_via (fun t => XS.iloadN X6.here hx rfl (hb hby at_119) rfl) ?_
      show own_E _ _ _ _ _ _ _ T6 (mkF m 120 #[.val (.int p1), .val (.int p2), .val (.int kk), .val (.ref bMIN), .val (.int (1 : Int32))] [(.int p2), (.ref bMIN)])
      obtain ⟨cq9, kq9, q9a, q9b, q9c⟩ := isOf hZ e6 E_MIN
      obtain ⟨_, _, ⟨T9, L9, k9, n9⟩, -, X9, ⟨Lc9, hQ9, l9, y9, z9⟩, st9⟩ := X6.virtualBack hx (y := (⟨"com/example/strategos/strategos/lang/Function", "takes", "(I)Z"⟩ : MethodName)) (z := (⟨"com/example/strategos/strategos/lang/Function", "takes", "(I)Z"⟩ : MethodName)) hown (mvT hZ (hw _ (List.mem_of_getElem? (i := 4) rfl))) (mvT hZ (hw _ (List.mem_of_getElem? (i := 5) rfl))) (notFace_of_selects (args := #[]) (mvT hZ (hw _ (List.mem_of_getElem? (i := 7) rfl)))) (mvT hZ (hw _ (List.mem_of_getElem? (i := 7) rfl))) (mvT hZ (hw _ (List.mem_of_getElem? (i := 6) rfl))) (by decide) (backOf (W := 0) (rm1 l Z a0 hw [] bMIN p2 2 2147483647 h0 n0 Z0 F_MIN G_MIN) hZ (hw _ (List.mem_of_getElem? (i := 8) rfl)) (hw _ (List.mem_of_getElem? (i := 2) rfl)) (by decide) (by decide)) q9a q9c (g := (mkF m 120 #[.val (.int p1), .val (.int p2), .val (.int kk), .val (.ref bMIN), .val (.int (1 : Int32))] [(.int p2), (.ref bMIN)])) rfl (by rw [hml]; rfl) (Steps.refl _) (argsL := [(.int p2)]) (rest := []) (lenOf pd_1 rfl) rfl (by show 2 * 0 + _ ≤ _; exact Nat.le_of_eq rfl) (hb hby at_120) (fun _ _ => ⟨rfl, e6, (by decide : 0 ≤ _), (by decide : 0 ≤ _)⟩)
      dsimp only [Pt.U, Pt.locs, Pt.cells, Pt.slots] at X9 l9 y9 z9 st9 hQ9
      subst l9 y9 z9
      obtain ⟨rfl, N9, e9⟩ := hQ9
      refine own_thru st9 ?_
      show own_E _ _ _ _ _ _ _ T9 (mkF m 123 #[.val (.int p1), .val (.int p2), .val (.int kk), .val (.ref bMIN), .val (.int (1 : Int32))] [(.int (own_tk p2 (2 : Int32) (2147483647 : Int32)))])
      rw [own_min c17_7]
      show own_E _ _ _ _ _ _ _ T9 (mkF m 123 #[.val (.int p1), .val (.int p2), .val (.int kk), .val (.ref bMIN), .val (.int (1 : Int32))] [(.int (1 : Int32))])
      refine own_via (fun t => XS.iload X9.here hx rfl (hb hby at_123) rfl) ?_
      show own_E _ _ _ _ _ _ _ T9 (mkF m 125 #[.val (.int p1), .val (.int p2), .val (.int kk), .val (.ref bMIN), .val (.int (1 : Int32))] [(.int (1 : Int32)), (.int (1 : Int32))])
      refine own_via (fun t => XS.icmpNo X9.here hx rfl (hb hby at_125) rfl (teq (by decide : (1 : Int32) = (1 : Int32))).2) ?_
      show own_E _ _ _ _ _ _ _ T9 (mkF m 128 #[.val (.int p1), .val (.int p2), .val (.int kk), .val (.ref bMIN), .val (.int (1 : Int32))] [])
      refine own_via (fun t => XS.iconst X9.here hx rfl (hb hby at_128)) ?_
      show own_E _ _ _ _ _ _ _ T9 (mkF m 129 #[.val (.int p1), .val (.int p2), .val (.int kk), .val (.ref bMIN), .val (.int (1 : Int32))] [(.int (1 : Int32))])
      refine own_via (fun t => XS.goto X9.here hx rfl (pc0 := 129) (pc' := 133) rfl (hb hby at_129) (by decide) (by decide)) ?_
      show own_E _ _ _ _ _ _ _ T9 (mkF m 133 #[.val (.int p1), .val (.int p2), .val (.int kk), .val (.ref bMIN), .val (.int (1 : Int32))] [(.int (1 : Int32))])
      refine own_retN X9 hx hlk Bd.returns (Or.inl rfl) (hb hby at_133) (Nat.le_refl _) (Nat.le_refl _) ⟨rfl, Fr.app N0 N9⟩
  · refine own_via (fun t => XS.ifYes X0.here hx rfl (pc0 := 8) (pc' := 30) rfl (hb hby at_8) rfl ((if0 _ _).trans (feq c8_5).2) (by decide) (by decide)) ?_
    show own_E _ _ _ _ _ _ _ s₁ (mkF m 30 #[.val (.int p1), .val (.int p2), .val (.int kk), .unset, .unset] [])
    refine own_via (fun t => XS.iloadN X0.here hx rfl (hb hby at_30) rfl) ?_
    show own_E _ _ _ _ _ _ _ s₁ (mkF m 31 #[.val (.int p1), .val (.int p2), .val (.int kk), .unset, .unset] [(.int kk)])
    refine own_via (fun t => XS.iconst X0.here hx rfl (hb hby at_31)) ?_
    show own_E _ _ _ _ _ _ _ s₁ (mkF m 32 #[.val (.int p1), .val (.int p2), .val (.int kk), .unset, .unset] [(.int (1 : Int32)), (.int kk)])
    by_cases c32_10 : kk = (1 : Int32)
    · refine own_via (fun t => XS.icmpNo X0.here hx rfl (hb hby at_32) rfl (teq c32_10).2) ?_
      show own_E _ _ _ _ _ _ _ s₁ (mkF m 35 #[.val (.int p1), .val (.int p2), .val (.int kk), .unset, .unset] [])
      obtain ⟨T11, X11, e11, st11⟩ := getS (host := "") X0 hx hZ hown (hw _ (List.mem_of_getElem? (i := 17) rfl)) Via.refl e0 S_MAX (g := (mkF m 35 #[.val (.int p1), .val (.int p2), .val (.int kk), .unset, .unset] [])) rfl (hb hby at_35)
      refine own_via st11 ?_
      show own_E _ _ _ _ _ _ _ T11 (mkF m 38 #[.val (.int p1), .val (.int p2), .val (.int kk), .unset, .unset] [(.ref bMAX)])
      refine own_via (fun t => XS.astoreN X11.here hx rfl (hb hby at_38) rfl rfl (l' := #[.val (.int p1), .val (.int p2), .val (.int kk), .val (.ref bMAX), .unset]) rfl) ?_
      show own_E _ _ _ _ _ _ _ T11 (mkF m 39 #[.val (.int p1), .val (.int p2), .val (.int kk), .val (.ref bMAX), .unset] [])
      refine own_via (fun t => XS.iloadN X11.here hx rfl (hb hby at_39) rfl) ?_
      show own_E _ _ _ _ _ _ _ T11 (mkF m 40 #[.val (.int p1), .val (.int p2), .val (.int kk), .val (.ref bMAX), .unset] [(.int p2)])
      refine own_via (fun t => XS.iconst X11.here hx rfl (hb hby at_40)) ?_
      show own_E _ _ _ _ _ _ _ T11 (mkF m 41 #[.val (.int p1), .val (.int p2), .val (.int kk), .val (.ref bMAX), .unset] [(.int (2 : Int32)), (.int p2)])
      by_cases c41_12 : p2 < (2 : Int32)
      · refine own_via (fun t => XS.icmpYes X11.here hx rfl (pc0 := 41) (pc' := 48) rfl (hb hby at_41) rfl (tlt c41_12).1 (by decide) (by decide)) ?_
        show own_E _ _ _ _ _ _ _ T11 (mkF m 48 #[.val (.int p1), .val (.int p2), .val (.int kk), .val (.ref bMAX), .unset] [])
        refine own_via (fun t => XS.iconst X11.here hx rfl (hb hby at_48)) ?_
        show own_E _ _ _ _ _ _ _ T11 (mkF m 49 #[.val (.int p1), .val (.int p2), .val (.int kk), .val (.ref bMAX), .unset] [(.int (0 : Int32))])
        refine own_via (fun t => XS.istore X11.here hx rfl (hb hby at_49) rfl (l' := #[.val (.int p1), .val (.int p2), .val (.int kk), .val (.ref bMAX), .val (.int (0 : Int32))]) rfl) ?_
        show own_E _ _ _ _ _ _ _ T11 (mkF m 51 #[.val (.int p1), .val (.int p2), .val (.int kk), .val (.ref bMAX), .val (.int (0 : Int32))] [])
        refine own_via (fun t => XS.goto X11.here hx rfl (pc0 := 51) (pc' := 118) rfl (hb hby at_51) (by decide) (by decide)) ?_
        show own_E _ _ _ _ _ _ _ T11 (mkF m 118 #[.val (.int p1), .val (.int p2), .val (.int kk), .val (.ref bMAX), .val (.int (0 : Int32))] [])
        refine own_via (fun t => XS.aloadN X11.here hx rfl (hb hby at_118) rfl rfl) ?_
        show own_E _ _ _ _ _ _ _ T11 (mkF m 119 #[.val (.int p1), .val (.int p2), .val (.int kk), .val (.ref bMAX), .val (.int (0 : Int32))] [(.ref bMAX)])
        refine own_via (fun t => XS.iloadN X11.here hx rfl (hb hby at_119) rfl) ?_
        show own_E _ _ _ _ _ _ _ T11 (mkF m 120 #[.val (.int p1), .val (.int p2), .val (.int kk), .val (.ref bMAX), .val (.int (0 : Int32))] [(.int p2), (.ref bMAX)])
        obtain ⟨cq13, kq13, q13a, q13b, q13c⟩ := isOf hZ e11 E_MAX
        obtain ⟨_, _, ⟨T13, L13, k13, n13⟩, -, X13, ⟨Lc13, hQ13, l13, y13, z13⟩, st13⟩ := X11.virtualBack hx (y := (⟨"com/example/strategos/strategos/lang/Function", "takes", "(I)Z"⟩ : MethodName)) (z := (⟨"com/example/strategos/strategos/lang/Function", "takes", "(I)Z"⟩ : MethodName)) hown (mvT hZ (hw _ (List.mem_of_getElem? (i := 4) rfl))) (mvT hZ (hw _ (List.mem_of_getElem? (i := 5) rfl))) (notFace_of_selects (args := #[]) (mvT hZ (hw _ (List.mem_of_getElem? (i := 7) rfl)))) (mvT hZ (hw _ (List.mem_of_getElem? (i := 7) rfl))) (mvT hZ (hw _ (List.mem_of_getElem? (i := 6) rfl))) (by decide) (backOf (W := 0) (rm1 l Z a0 hw [] bMAX p2 2 2147483647 h0 n0 Z0 F_MAX G_MAX) hZ (hw _ (List.mem_of_getElem? (i := 8) rfl)) (hw _ (List.mem_of_getElem? (i := 2) rfl)) (by decide) (by decide)) q13a q13c (g := (mkF m 120 #[.val (.int p1), .val (.int p2), .val (.int kk), .val (.ref bMAX), .val (.int (0 : Int32))] [(.int p2), (.ref bMAX)])) rfl (by rw [hml]; rfl) (Steps.refl _) (argsL := [(.int p2)]) (rest := []) (lenOf pd_1 rfl) rfl (by show 2 * 0 + _ ≤ _; exact Nat.le_of_eq rfl) (hb hby at_120) (fun _ _ => ⟨rfl, e11, (by decide : 0 ≤ _), (by decide : 0 ≤ _)⟩)
        dsimp only [Pt.U, Pt.locs, Pt.cells, Pt.slots] at X13 l13 y13 z13 st13 hQ13
        subst l13 y13 z13
        obtain ⟨rfl, N13, e13⟩ := hQ13
        refine own_thru st13 ?_
        show own_E _ _ _ _ _ _ _ T13 (mkF m 123 #[.val (.int p1), .val (.int p2), .val (.int kk), .val (.ref bMAX), .val (.int (0 : Int32))] [(.int (own_tk p2 (2 : Int32) (2147483647 : Int32)))])
        rw [own_min0 c41_12]
        show own_E _ _ _ _ _ _ _ T13 (mkF m 123 #[.val (.int p1), .val (.int p2), .val (.int kk), .val (.ref bMAX), .val (.int (0 : Int32))] [(.int (0 : Int32))])
        refine own_via (fun t => XS.iload X13.here hx rfl (hb hby at_123) rfl) ?_
        show own_E _ _ _ _ _ _ _ T13 (mkF m 125 #[.val (.int p1), .val (.int p2), .val (.int kk), .val (.ref bMAX), .val (.int (0 : Int32))] [(.int (0 : Int32)), (.int (0 : Int32))])
        refine own_via (fun t => XS.icmpNo X13.here hx rfl (hb hby at_125) rfl (teq (by decide : (0 : Int32) = (0 : Int32))).2) ?_
        show own_E _ _ _ _ _ _ _ T13 (mkF m 128 #[.val (.int p1), .val (.int p2), .val (.int kk), .val (.ref bMAX), .val (.int (0 : Int32))] [])
        refine own_via (fun t => XS.iconst X13.here hx rfl (hb hby at_128)) ?_
        show own_E _ _ _ _ _ _ _ T13 (mkF m 129 #[.val (.int p1), .val (.int p2), .val (.int kk), .val (.ref bMAX), .val (.int (0 : Int32))] [(.int (1 : Int32))])
        refine own_via (fun t => XS.goto X13.here hx rfl (pc0 := 129) (pc' := 133) rfl (hb hby at_129) (by decide) (by decide)) ?_
        show own_E _ _ _ _ _ _ _ T13 (mkF m 133 #[.val (.int p1), .val (.int p2), .val (.int kk), .val (.ref bMAX), .val (.int (0 : Int32))] [(.int (1 : Int32))])
        refine own_retN X13 hx hlk Bd.returns (Or.inl rfl) (hb hby at_133) (Nat.le_refl _) (Nat.le_refl _) ⟨rfl, Fr.app N0 N13⟩
      · refine own_via (fun t => XS.icmpNo X11.here hx rfl (hb hby at_41) rfl (flt c41_12).1) ?_
        show own_E _ _ _ _ _ _ _ T11 (mkF m 44 #[.val (.int p1), .val (.int p2), .val (.int kk), .val (.ref bMAX), .unset] [])
        refine own_via (fun t => XS.iconst X11.here hx rfl (hb hby at_44)) ?_
        show own_E _ _ _ _ _ _ _ T11 (mkF m 45 #[.val (.int p1), .val (.int p2), .val (.int kk), .val (.ref bMAX), .unset] [(.int (1 : Int32))])
        refine own_via (fun t => XS.goto X11.here hx rfl (pc0 := 45) (pc' := 49) rfl (hb hby at_45) (by decide) (by decide)) ?_
        show own_E _ _ _ _ _ _ _ T11 (mkF m 49 #[.val (.int p1), .val (.int p2), .val (.int kk), .val (.ref bMAX), .unset] [(.int (1 : Int32))])
        refine own_via (fun t => XS.istore X11.here hx rfl (hb hby at_49) rfl (l' := #[.val (.int p1), .val (.int p2), .val (.int kk), .val (.ref bMAX), .val (.int (1 : Int32))]) rfl) ?_
        show own_E _ _ _ _ _ _ _ T11 (mkF m 51 #[.val (.int p1), .val (.int p2), .val (.int kk), .val (.ref bMAX), .val (.int (1 : Int32))] [])
        refine own_via (fun t => XS.goto X11.here hx rfl (pc0 := 51) (pc' := 118) rfl (hb hby at_51) (by decide) (by decide)) ?_
        show own_E _ _ _ _ _ _ _ T11 (mkF m 118 #[.val (.int p1), .val (.int p2), .val (.int kk), .val (.ref bMAX), .val (.int (1 : Int32))] [])
        refine own_via (fun t => XS.aloadN X11.here hx rfl (hb hby at_118) rfl rfl) ?_
        show own_E _ _ _ _ _ _ _ T11 (mkF m 119 #[.val (.int p1), .val (.int p2), .val (.int kk), .val (.ref bMAX), .val (.int (1 : Int32))] [(.ref bMAX)])
        refine own_via (fun t => XS.iloadN X11.here hx rfl (hb hby at_119) rfl) ?_
        show own_E _ _ _ _ _ _ _ T11 (mkF m 120 #[.val (.int p1), .val (.int p2), .val (.int kk), .val (.ref bMAX), .val (.int (1 : Int32))] [(.int p2), (.ref bMAX)])
        obtain ⟨cq14, kq14, q14a, q14b, q14c⟩ := isOf hZ e11 E_MAX
        obtain ⟨_, _, ⟨T14, L14, k14, n14⟩, -, X14, ⟨Lc14, hQ14, l14, y14, z14⟩, st14⟩ := X11.virtualBack hx (y := (⟨"com/example/strategos/strategos/lang/Function", "takes", "(I)Z"⟩ : MethodName)) (z := (⟨"com/example/strategos/strategos/lang/Function", "takes", "(I)Z"⟩ : MethodName)) hown (mvT hZ (hw _ (List.mem_of_getElem? (i := 4) rfl))) (mvT hZ (hw _ (List.mem_of_getElem? (i := 5) rfl))) (notFace_of_selects (args := #[]) (mvT hZ (hw _ (List.mem_of_getElem? (i := 7) rfl)))) (mvT hZ (hw _ (List.mem_of_getElem? (i := 7) rfl))) (mvT hZ (hw _ (List.mem_of_getElem? (i := 6) rfl))) (by decide) (backOf (W := 0) (rm1 l Z a0 hw [] bMAX p2 2 2147483647 h0 n0 Z0 F_MAX G_MAX) hZ (hw _ (List.mem_of_getElem? (i := 8) rfl)) (hw _ (List.mem_of_getElem? (i := 2) rfl)) (by decide) (by decide)) q14a q14c (g := (mkF m 120 #[.val (.int p1), .val (.int p2), .val (.int kk), .val (.ref bMAX), .val (.int (1 : Int32))] [(.int p2), (.ref bMAX)])) rfl (by rw [hml]; rfl) (Steps.refl _) (argsL := [(.int p2)]) (rest := []) (lenOf pd_1 rfl) rfl (by show 2 * 0 + _ ≤ _; exact Nat.le_of_eq rfl) (hb hby at_120) (fun _ _ => ⟨rfl, e11, (by decide : 0 ≤ _), (by decide : 0 ≤ _)⟩)
        dsimp only [Pt.U, Pt.locs, Pt.cells, Pt.slots] at X14 l14 y14 z14 st14 hQ14
        subst l14 y14 z14
        obtain ⟨rfl, N14, e14⟩ := hQ14
        refine own_thru st14 ?_
        show own_E _ _ _ _ _ _ _ T14 (mkF m 123 #[.val (.int p1), .val (.int p2), .val (.int kk), .val (.ref bMAX), .val (.int (1 : Int32))] [(.int (own_tk p2 (2 : Int32) (2147483647 : Int32)))])
        rw [own_min c41_12]
        show own_E _ _ _ _ _ _ _ T14 (mkF m 123 #[.val (.int p1), .val (.int p2), .val (.int kk), .val (.ref bMAX), .val (.int (1 : Int32))] [(.int (1 : Int32))])
        refine own_via (fun t => XS.iload X14.here hx rfl (hb hby at_123) rfl) ?_
        show own_E _ _ _ _ _ _ _ T14 (mkF m 125 #[.val (.int p1), .val (.int p2), .val (.int kk), .val (.ref bMAX), .val (.int (1 : Int32))] [(.int (1 : Int32)), (.int (1 : Int32))])
        refine own_via (fun t => XS.icmpNo X14.here hx rfl (hb hby at_125) rfl (teq (by decide : (1 : Int32) = (1 : Int32))).2) ?_
        show own_E _ _ _ _ _ _ _ T14 (mkF m 128 #[.val (.int p1), .val (.int p2), .val (.int kk), .val (.ref bMAX), .val (.int (1 : Int32))] [])
        refine own_via (fun t => XS.iconst X14.here hx rfl (hb hby at_128)) ?_
        show own_E _ _ _ _ _ _ _ T14 (mkF m 129 #[.val (.int p1), .val (.int p2), .val (.int kk), .val (.ref bMAX), .val (.int (1 : Int32))] [(.int (1 : Int32))])
        refine own_via (fun t => XS.goto X14.here hx rfl (pc0 := 129) (pc' := 133) rfl (hb hby at_129) (by decide) (by decide)) ?_
        show own_E _ _ _ _ _ _ _ T14 (mkF m 133 #[.val (.int p1), .val (.int p2), .val (.int kk), .val (.ref bMAX), .val (.int (1 : Int32))] [(.int (1 : Int32))])
        refine own_retN X14 hx hlk Bd.returns (Or.inl rfl) (hb hby at_133) (Nat.le_refl _) (Nat.le_refl _) ⟨rfl, Fr.app N0 N14⟩
    · refine own_via (fun t => XS.icmpYes X0.here hx rfl (pc0 := 32) (pc' := 54) rfl (hb hby at_32) rfl (feq c32_10).2 (by decide) (by decide)) ?_
      show own_E _ _ _ _ _ _ _ s₁ (mkF m 54 #[.val (.int p1), .val (.int p2), .val (.int kk), .unset, .unset] [])
      refine own_via (fun t => XS.iloadN X0.here hx rfl (hb hby at_54) rfl) ?_
      show own_E _ _ _ _ _ _ _ s₁ (mkF m 55 #[.val (.int p1), .val (.int p2), .val (.int kk), .unset, .unset] [(.int kk)])
      refine own_via (fun t => XS.iconst X0.here hx rfl (hb hby at_55)) ?_
      show own_E _ _ _ _ _ _ _ s₁ (mkF m 56 #[.val (.int p1), .val (.int p2), .val (.int kk), .unset, .unset] [(.int (2 : Int32)), (.int kk)])
      by_cases c56_15 : kk = (2 : Int32)
      · refine own_via (fun t => XS.icmpNo X0.here hx rfl (hb hby at_56) rfl (teq c56_15).2) ?_
        show own_E _ _ _ _ _ _ _ s₁ (mkF m 59 #[.val (.int p1), .val (.int p2), .val (.int kk), .unset, .unset] [])
        obtain ⟨T16, X16, e16, st16⟩ := getS (host := "") X0 hx hZ hown (hw _ (List.mem_of_getElem? (i := 19) rfl)) Via.refl e0 S_POW (g := (mkF m 59 #[.val (.int p1), .val (.int p2), .val (.int kk), .unset, .unset] [])) rfl (hb hby at_59)
        refine own_via st16 ?_
        show own_E _ _ _ _ _ _ _ T16 (mkF m 62 #[.val (.int p1), .val (.int p2), .val (.int kk), .unset, .unset] [(.ref bPOW)])
        refine own_via (fun t => XS.astoreN X16.here hx rfl (hb hby at_62) rfl rfl (l' := #[.val (.int p1), .val (.int p2), .val (.int kk), .val (.ref bPOW), .unset]) rfl) ?_
        show own_E _ _ _ _ _ _ _ T16 (mkF m 63 #[.val (.int p1), .val (.int p2), .val (.int kk), .val (.ref bPOW), .unset] [])
        refine own_via (fun t => XS.iloadN X16.here hx rfl (hb hby at_63) rfl) ?_
        show own_E _ _ _ _ _ _ _ T16 (mkF m 64 #[.val (.int p1), .val (.int p2), .val (.int kk), .val (.ref bPOW), .unset] [(.int p2)])
        refine own_via (fun t => XS.iconst X16.here hx rfl (hb hby at_64)) ?_
        show own_E _ _ _ _ _ _ _ T16 (mkF m 65 #[.val (.int p1), .val (.int p2), .val (.int kk), .val (.ref bPOW), .unset] [(.int (2 : Int32)), (.int p2)])
        by_cases c65_17 : p2 = (2 : Int32)
        · refine own_via (fun t => XS.icmpNo X16.here hx rfl (hb hby at_65) rfl (teq c65_17).2) ?_
          show own_E _ _ _ _ _ _ _ T16 (mkF m 68 #[.val (.int p1), .val (.int p2), .val (.int kk), .val (.ref bPOW), .unset] [])
          refine own_via (fun t => XS.iconst X16.here hx rfl (hb hby at_68)) ?_
          show own_E _ _ _ _ _ _ _ T16 (mkF m 69 #[.val (.int p1), .val (.int p2), .val (.int kk), .val (.ref bPOW), .unset] [(.int (1 : Int32))])
          refine own_via (fun t => XS.goto X16.here hx rfl (pc0 := 69) (pc' := 73) rfl (hb hby at_69) (by decide) (by decide)) ?_
          show own_E _ _ _ _ _ _ _ T16 (mkF m 73 #[.val (.int p1), .val (.int p2), .val (.int kk), .val (.ref bPOW), .unset] [(.int (1 : Int32))])
          refine own_via (fun t => XS.istore X16.here hx rfl (hb hby at_73) rfl (l' := #[.val (.int p1), .val (.int p2), .val (.int kk), .val (.ref bPOW), .val (.int (1 : Int32))]) rfl) ?_
          show own_E _ _ _ _ _ _ _ T16 (mkF m 75 #[.val (.int p1), .val (.int p2), .val (.int kk), .val (.ref bPOW), .val (.int (1 : Int32))] [])
          refine own_via (fun t => XS.goto X16.here hx rfl (pc0 := 75) (pc' := 118) rfl (hb hby at_75) (by decide) (by decide)) ?_
          show own_E _ _ _ _ _ _ _ T16 (mkF m 118 #[.val (.int p1), .val (.int p2), .val (.int kk), .val (.ref bPOW), .val (.int (1 : Int32))] [])
          refine own_via (fun t => XS.aloadN X16.here hx rfl (hb hby at_118) rfl rfl) ?_
          show own_E _ _ _ _ _ _ _ T16 (mkF m 119 #[.val (.int p1), .val (.int p2), .val (.int kk), .val (.ref bPOW), .val (.int (1 : Int32))] [(.ref bPOW)])
          refine own_via (fun t => XS.iloadN X16.here hx rfl (hb hby at_119) rfl) ?_
          show own_E _ _ _ _ _ _ _ T16 (mkF m 120 #[.val (.int p1), .val (.int p2), .val (.int kk), .val (.ref bPOW), .val (.int (1 : Int32))] [(.int p2), (.ref bPOW)])
          obtain ⟨cq18, kq18, q18a, q18b, q18c⟩ := isOf hZ e16 E_POW
          obtain ⟨_, _, ⟨T18, L18, k18, n18⟩, -, X18, ⟨Lc18, hQ18, l18, y18, z18⟩, st18⟩ := X16.virtualBack hx (y := (⟨"com/example/strategos/strategos/lang/Function", "takes", "(I)Z"⟩ : MethodName)) (z := (⟨"com/example/strategos/strategos/lang/Function", "takes", "(I)Z"⟩ : MethodName)) hown (mvT hZ (hw _ (List.mem_of_getElem? (i := 4) rfl))) (mvT hZ (hw _ (List.mem_of_getElem? (i := 5) rfl))) (notFace_of_selects (args := #[]) (mvT hZ (hw _ (List.mem_of_getElem? (i := 7) rfl)))) (mvT hZ (hw _ (List.mem_of_getElem? (i := 7) rfl))) (mvT hZ (hw _ (List.mem_of_getElem? (i := 6) rfl))) (by decide) (backOf (W := 0) (rm1 l Z a0 hw [] bPOW p2 2 2 h0 n0 Z0 F_POW G_POW) hZ (hw _ (List.mem_of_getElem? (i := 8) rfl)) (hw _ (List.mem_of_getElem? (i := 2) rfl)) (by decide) (by decide)) q18a q18c (g := (mkF m 120 #[.val (.int p1), .val (.int p2), .val (.int kk), .val (.ref bPOW), .val (.int (1 : Int32))] [(.int p2), (.ref bPOW)])) rfl (by rw [hml]; rfl) (Steps.refl _) (argsL := [(.int p2)]) (rest := []) (lenOf pd_1 rfl) rfl (by show 2 * 0 + _ ≤ _; exact Nat.le_of_eq rfl) (hb hby at_120) (fun _ _ => ⟨rfl, e16, (by decide : 0 ≤ _), (by decide : 0 ≤ _)⟩)
          dsimp only [Pt.U, Pt.locs, Pt.cells, Pt.slots] at X18 l18 y18 z18 st18 hQ18
          subst l18 y18 z18
          obtain ⟨rfl, N18, e18⟩ := hQ18
          refine own_thru st18 ?_
          show own_E _ _ _ _ _ _ _ T18 (mkF m 123 #[.val (.int p1), .val (.int p2), .val (.int kk), .val (.ref bPOW), .val (.int (1 : Int32))] [(.int (own_tk p2 (2 : Int32) (2 : Int32)))])
          rw [own_same c65_17]
          show own_E _ _ _ _ _ _ _ T18 (mkF m 123 #[.val (.int p1), .val (.int p2), .val (.int kk), .val (.ref bPOW), .val (.int (1 : Int32))] [(.int (1 : Int32))])
          refine own_via (fun t => XS.iload X18.here hx rfl (hb hby at_123) rfl) ?_
          show own_E _ _ _ _ _ _ _ T18 (mkF m 125 #[.val (.int p1), .val (.int p2), .val (.int kk), .val (.ref bPOW), .val (.int (1 : Int32))] [(.int (1 : Int32)), (.int (1 : Int32))])
          refine own_via (fun t => XS.icmpNo X18.here hx rfl (hb hby at_125) rfl (teq (by decide : (1 : Int32) = (1 : Int32))).2) ?_
          show own_E _ _ _ _ _ _ _ T18 (mkF m 128 #[.val (.int p1), .val (.int p2), .val (.int kk), .val (.ref bPOW), .val (.int (1 : Int32))] [])
          refine own_via (fun t => XS.iconst X18.here hx rfl (hb hby at_128)) ?_
          show own_E _ _ _ _ _ _ _ T18 (mkF m 129 #[.val (.int p1), .val (.int p2), .val (.int kk), .val (.ref bPOW), .val (.int (1 : Int32))] [(.int (1 : Int32))])
          refine own_via (fun t => XS.goto X18.here hx rfl (pc0 := 129) (pc' := 133) rfl (hb hby at_129) (by decide) (by decide)) ?_
          show own_E _ _ _ _ _ _ _ T18 (mkF m 133 #[.val (.int p1), .val (.int p2), .val (.int kk), .val (.ref bPOW), .val (.int (1 : Int32))] [(.int (1 : Int32))])
          refine own_retN X18 hx hlk Bd.returns (Or.inl rfl) (hb hby at_133) (Nat.le_refl _) (Nat.le_refl _) ⟨rfl, Fr.app N0 N18⟩
        · refine own_via (fun t => XS.icmpYes X16.here hx rfl (pc0 := 65) (pc' := 72) rfl (hb hby at_65) rfl (feq c65_17).2 (by decide) (by decide)) ?_
          show own_E _ _ _ _ _ _ _ T16 (mkF m 72 #[.val (.int p1), .val (.int p2), .val (.int kk), .val (.ref bPOW), .unset] [])
          refine own_via (fun t => XS.iconst X16.here hx rfl (hb hby at_72)) ?_
          show own_E _ _ _ _ _ _ _ T16 (mkF m 73 #[.val (.int p1), .val (.int p2), .val (.int kk), .val (.ref bPOW), .unset] [(.int (0 : Int32))])
          refine own_via (fun t => XS.istore X16.here hx rfl (hb hby at_73) rfl (l' := #[.val (.int p1), .val (.int p2), .val (.int kk), .val (.ref bPOW), .val (.int (0 : Int32))]) rfl) ?_
          show own_E _ _ _ _ _ _ _ T16 (mkF m 75 #[.val (.int p1), .val (.int p2), .val (.int kk), .val (.ref bPOW), .val (.int (0 : Int32))] [])
          refine own_via (fun t => XS.goto X16.here hx rfl (pc0 := 75) (pc' := 118) rfl (hb hby at_75) (by decide) (by decide)) ?_
          show own_E _ _ _ _ _ _ _ T16 (mkF m 118 #[.val (.int p1), .val (.int p2), .val (.int kk), .val (.ref bPOW), .val (.int (0 : Int32))] [])
          refine own_via (fun t => XS.aloadN X16.here hx rfl (hb hby at_118) rfl rfl) ?_
          show own_E _ _ _ _ _ _ _ T16 (mkF m 119 #[.val (.int p1), .val (.int p2), .val (.int kk), .val (.ref bPOW), .val (.int (0 : Int32))] [(.ref bPOW)])
          refine own_via (fun t => XS.iloadN X16.here hx rfl (hb hby at_119) rfl) ?_
          show own_E _ _ _ _ _ _ _ T16 (mkF m 120 #[.val (.int p1), .val (.int p2), .val (.int kk), .val (.ref bPOW), .val (.int (0 : Int32))] [(.int p2), (.ref bPOW)])
          obtain ⟨cq19, kq19, q19a, q19b, q19c⟩ := isOf hZ e16 E_POW
          obtain ⟨_, _, ⟨T19, L19, k19, n19⟩, -, X19, ⟨Lc19, hQ19, l19, y19, z19⟩, st19⟩ := X16.virtualBack hx (y := (⟨"com/example/strategos/strategos/lang/Function", "takes", "(I)Z"⟩ : MethodName)) (z := (⟨"com/example/strategos/strategos/lang/Function", "takes", "(I)Z"⟩ : MethodName)) hown (mvT hZ (hw _ (List.mem_of_getElem? (i := 4) rfl))) (mvT hZ (hw _ (List.mem_of_getElem? (i := 5) rfl))) (notFace_of_selects (args := #[]) (mvT hZ (hw _ (List.mem_of_getElem? (i := 7) rfl)))) (mvT hZ (hw _ (List.mem_of_getElem? (i := 7) rfl))) (mvT hZ (hw _ (List.mem_of_getElem? (i := 6) rfl))) (by decide) (backOf (W := 0) (rm1 l Z a0 hw [] bPOW p2 2 2 h0 n0 Z0 F_POW G_POW) hZ (hw _ (List.mem_of_getElem? (i := 8) rfl)) (hw _ (List.mem_of_getElem? (i := 2) rfl)) (by decide) (by decide)) q19a q19c (g := (mkF m 120 #[.val (.int p1), .val (.int p2), .val (.int kk), .val (.ref bPOW), .val (.int (0 : Int32))] [(.int p2), (.ref bPOW)])) rfl (by rw [hml]; rfl) (Steps.refl _) (argsL := [(.int p2)]) (rest := []) (lenOf pd_1 rfl) rfl (by show 2 * 0 + _ ≤ _; exact Nat.le_of_eq rfl) (hb hby at_120) (fun _ _ => ⟨rfl, e16, (by decide : 0 ≤ _), (by decide : 0 ≤ _)⟩)
          dsimp only [Pt.U, Pt.locs, Pt.cells, Pt.slots] at X19 l19 y19 z19 st19 hQ19
          subst l19 y19 z19
          obtain ⟨rfl, N19, e19⟩ := hQ19
          refine own_thru st19 ?_
          show own_E _ _ _ _ _ _ _ T19 (mkF m 123 #[.val (.int p1), .val (.int p2), .val (.int kk), .val (.ref bPOW), .val (.int (0 : Int32))] [(.int (own_tk p2 (2 : Int32) (2 : Int32)))])
          rw [own_diff c65_17]
          show own_E _ _ _ _ _ _ _ T19 (mkF m 123 #[.val (.int p1), .val (.int p2), .val (.int kk), .val (.ref bPOW), .val (.int (0 : Int32))] [(.int (0 : Int32))])
          refine own_via (fun t => XS.iload X19.here hx rfl (hb hby at_123) rfl) ?_
          show own_E _ _ _ _ _ _ _ T19 (mkF m 125 #[.val (.int p1), .val (.int p2), .val (.int kk), .val (.ref bPOW), .val (.int (0 : Int32))] [(.int (0 : Int32)), (.int (0 : Int32))])
          refine own_via (fun t => XS.icmpNo X19.here hx rfl (hb hby at_125) rfl (teq (by decide : (0 : Int32) = (0 : Int32))).2) ?_
          show own_E _ _ _ _ _ _ _ T19 (mkF m 128 #[.val (.int p1), .val (.int p2), .val (.int kk), .val (.ref bPOW), .val (.int (0 : Int32))] [])
          refine own_via (fun t => XS.iconst X19.here hx rfl (hb hby at_128)) ?_
          show own_E _ _ _ _ _ _ _ T19 (mkF m 129 #[.val (.int p1), .val (.int p2), .val (.int kk), .val (.ref bPOW), .val (.int (0 : Int32))] [(.int (1 : Int32))])
          refine own_via (fun t => XS.goto X19.here hx rfl (pc0 := 129) (pc' := 133) rfl (hb hby at_129) (by decide) (by decide)) ?_
          show own_E _ _ _ _ _ _ _ T19 (mkF m 133 #[.val (.int p1), .val (.int p2), .val (.int kk), .val (.ref bPOW), .val (.int (0 : Int32))] [(.int (1 : Int32))])
          refine own_retN X19 hx hlk Bd.returns (Or.inl rfl) (hb hby at_133) (Nat.le_refl _) (Nat.le_refl _) ⟨rfl, Fr.app N0 N19⟩
      · refine own_via (fun t => XS.icmpYes X0.here hx rfl (pc0 := 56) (pc' := 78) rfl (hb hby at_56) rfl (feq c56_15).2 (by decide) (by decide)) ?_
        show own_E _ _ _ _ _ _ _ s₁ (mkF m 78 #[.val (.int p1), .val (.int p2), .val (.int kk), .unset, .unset] [])
        refine own_via (fun t => XS.iloadN X0.here hx rfl (hb hby at_78) rfl) ?_
        show own_E _ _ _ _ _ _ _ s₁ (mkF m 79 #[.val (.int p1), .val (.int p2), .val (.int kk), .unset, .unset] [(.int kk)])
        refine own_via (fun t => XS.iconst X0.here hx rfl (hb hby at_79)) ?_
        show own_E _ _ _ _ _ _ _ s₁ (mkF m 80 #[.val (.int p1), .val (.int p2), .val (.int kk), .unset, .unset] [(.int (3 : Int32)), (.int kk)])
        by_cases c80_20 : kk = (3 : Int32)
        · refine own_via (fun t => XS.icmpNo X0.here hx rfl (hb hby at_80) rfl (teq c80_20).2) ?_
          show own_E _ _ _ _ _ _ _ s₁ (mkF m 83 #[.val (.int p1), .val (.int p2), .val (.int kk), .unset, .unset] [])
          obtain ⟨T21, X21, e21, st21⟩ := getS (host := "") X0 hx hZ hown (hw _ (List.mem_of_getElem? (i := 15) rfl)) Via.refl e0 S_FLOOR (g := (mkF m 83 #[.val (.int p1), .val (.int p2), .val (.int kk), .unset, .unset] [])) rfl (hb hby at_83)
          refine own_via st21 ?_
          show own_E _ _ _ _ _ _ _ T21 (mkF m 86 #[.val (.int p1), .val (.int p2), .val (.int kk), .unset, .unset] [(.ref bFLOOR)])
          refine own_via (fun t => XS.astoreN X21.here hx rfl (hb hby at_86) rfl rfl (l' := #[.val (.int p1), .val (.int p2), .val (.int kk), .val (.ref bFLOOR), .unset]) rfl) ?_
          show own_E _ _ _ _ _ _ _ T21 (mkF m 87 #[.val (.int p1), .val (.int p2), .val (.int kk), .val (.ref bFLOOR), .unset] [])
          refine own_via (fun t => XS.iloadN X21.here hx rfl (hb hby at_87) rfl) ?_
          show own_E _ _ _ _ _ _ _ T21 (mkF m 88 #[.val (.int p1), .val (.int p2), .val (.int kk), .val (.ref bFLOOR), .unset] [(.int p2)])
          refine own_via (fun t => XS.iconst X21.here hx rfl (hb hby at_88)) ?_
          show own_E _ _ _ _ _ _ _ T21 (mkF m 89 #[.val (.int p1), .val (.int p2), .val (.int kk), .val (.ref bFLOOR), .unset] [(.int (1 : Int32)), (.int p2)])
          by_cases c89_22 : p2 = (1 : Int32)
          · refine own_via (fun t => XS.icmpNo X21.here hx rfl (hb hby at_89) rfl (teq c89_22).2) ?_
            show own_E _ _ _ _ _ _ _ T21 (mkF m 92 #[.val (.int p1), .val (.int p2), .val (.int kk), .val (.ref bFLOOR), .unset] [])
            refine own_via (fun t => XS.iconst X21.here hx rfl (hb hby at_92)) ?_
            show own_E _ _ _ _ _ _ _ T21 (mkF m 93 #[.val (.int p1), .val (.int p2), .val (.int kk), .val (.ref bFLOOR), .unset] [(.int (1 : Int32))])
            refine own_via (fun t => XS.goto X21.here hx rfl (pc0 := 93) (pc' := 97) rfl (hb hby at_93) (by decide) (by decide)) ?_
            show own_E _ _ _ _ _ _ _ T21 (mkF m 97 #[.val (.int p1), .val (.int p2), .val (.int kk), .val (.ref bFLOOR), .unset] [(.int (1 : Int32))])
            refine own_via (fun t => XS.istore X21.here hx rfl (hb hby at_97) rfl (l' := #[.val (.int p1), .val (.int p2), .val (.int kk), .val (.ref bFLOOR), .val (.int (1 : Int32))]) rfl) ?_
            show own_E _ _ _ _ _ _ _ T21 (mkF m 99 #[.val (.int p1), .val (.int p2), .val (.int kk), .val (.ref bFLOOR), .val (.int (1 : Int32))] [])
            refine own_via (fun t => XS.goto X21.here hx rfl (pc0 := 99) (pc' := 118) rfl (hb hby at_99) (by decide) (by decide)) ?_
            show own_E _ _ _ _ _ _ _ T21 (mkF m 118 #[.val (.int p1), .val (.int p2), .val (.int kk), .val (.ref bFLOOR), .val (.int (1 : Int32))] [])
            refine own_via (fun t => XS.aloadN X21.here hx rfl (hb hby at_118) rfl rfl) ?_
            show own_E _ _ _ _ _ _ _ T21 (mkF m 119 #[.val (.int p1), .val (.int p2), .val (.int kk), .val (.ref bFLOOR), .val (.int (1 : Int32))] [(.ref bFLOOR)])
            refine own_via (fun t => XS.iloadN X21.here hx rfl (hb hby at_119) rfl) ?_
            show own_E _ _ _ _ _ _ _ T21 (mkF m 120 #[.val (.int p1), .val (.int p2), .val (.int kk), .val (.ref bFLOOR), .val (.int (1 : Int32))] [(.int p2), (.ref bFLOOR)])
            obtain ⟨cq23, kq23, q23a, q23b, q23c⟩ := isOf hZ e21 E_FLOOR
            obtain ⟨_, _, ⟨T23, L23, k23, n23⟩, -, X23, ⟨Lc23, hQ23, l23, y23, z23⟩, st23⟩ := X21.virtualBack hx (y := (⟨"com/example/strategos/strategos/lang/Function", "takes", "(I)Z"⟩ : MethodName)) (z := (⟨"com/example/strategos/strategos/lang/Function", "takes", "(I)Z"⟩ : MethodName)) hown (mvT hZ (hw _ (List.mem_of_getElem? (i := 4) rfl))) (mvT hZ (hw _ (List.mem_of_getElem? (i := 5) rfl))) (notFace_of_selects (args := #[]) (mvT hZ (hw _ (List.mem_of_getElem? (i := 7) rfl)))) (mvT hZ (hw _ (List.mem_of_getElem? (i := 7) rfl))) (mvT hZ (hw _ (List.mem_of_getElem? (i := 6) rfl))) (by decide) (backOf (W := 0) (rm1 l Z a0 hw [] bFLOOR p2 1 1 h0 n0 Z0 F_FLOOR G_FLOOR) hZ (hw _ (List.mem_of_getElem? (i := 8) rfl)) (hw _ (List.mem_of_getElem? (i := 2) rfl)) (by decide) (by decide)) q23a q23c (g := (mkF m 120 #[.val (.int p1), .val (.int p2), .val (.int kk), .val (.ref bFLOOR), .val (.int (1 : Int32))] [(.int p2), (.ref bFLOOR)])) rfl (by rw [hml]; rfl) (Steps.refl _) (argsL := [(.int p2)]) (rest := []) (lenOf pd_1 rfl) rfl (by show 2 * 0 + _ ≤ _; exact Nat.le_of_eq rfl) (hb hby at_120) (fun _ _ => ⟨rfl, e21, (by decide : 0 ≤ _), (by decide : 0 ≤ _)⟩)
            dsimp only [Pt.U, Pt.locs, Pt.cells, Pt.slots] at X23 l23 y23 z23 st23 hQ23
            subst l23 y23 z23
            obtain ⟨rfl, N23, e23⟩ := hQ23
            refine own_thru st23 ?_
            show own_E _ _ _ _ _ _ _ T23 (mkF m 123 #[.val (.int p1), .val (.int p2), .val (.int kk), .val (.ref bFLOOR), .val (.int (1 : Int32))] [(.int (own_tk p2 (1 : Int32) (1 : Int32)))])
            rw [own_same c89_22]
            show own_E _ _ _ _ _ _ _ T23 (mkF m 123 #[.val (.int p1), .val (.int p2), .val (.int kk), .val (.ref bFLOOR), .val (.int (1 : Int32))] [(.int (1 : Int32))])
            refine own_via (fun t => XS.iload X23.here hx rfl (hb hby at_123) rfl) ?_
            show own_E _ _ _ _ _ _ _ T23 (mkF m 125 #[.val (.int p1), .val (.int p2), .val (.int kk), .val (.ref bFLOOR), .val (.int (1 : Int32))] [(.int (1 : Int32)), (.int (1 : Int32))])
            refine own_via (fun t => XS.icmpNo X23.here hx rfl (hb hby at_125) rfl (teq (by decide : (1 : Int32) = (1 : Int32))).2) ?_
            show own_E _ _ _ _ _ _ _ T23 (mkF m 128 #[.val (.int p1), .val (.int p2), .val (.int kk), .val (.ref bFLOOR), .val (.int (1 : Int32))] [])
            refine own_via (fun t => XS.iconst X23.here hx rfl (hb hby at_128)) ?_
            show own_E _ _ _ _ _ _ _ T23 (mkF m 129 #[.val (.int p1), .val (.int p2), .val (.int kk), .val (.ref bFLOOR), .val (.int (1 : Int32))] [(.int (1 : Int32))])
            refine own_via (fun t => XS.goto X23.here hx rfl (pc0 := 129) (pc' := 133) rfl (hb hby at_129) (by decide) (by decide)) ?_
            show own_E _ _ _ _ _ _ _ T23 (mkF m 133 #[.val (.int p1), .val (.int p2), .val (.int kk), .val (.ref bFLOOR), .val (.int (1 : Int32))] [(.int (1 : Int32))])
            refine own_retN X23 hx hlk Bd.returns (Or.inl rfl) (hb hby at_133) (Nat.le_refl _) (Nat.le_refl _) ⟨rfl, Fr.app N0 N23⟩
          · refine own_via (fun t => XS.icmpYes X21.here hx rfl (pc0 := 89) (pc' := 96) rfl (hb hby at_89) rfl (feq c89_22).2 (by decide) (by decide)) ?_
            show own_E _ _ _ _ _ _ _ T21 (mkF m 96 #[.val (.int p1), .val (.int p2), .val (.int kk), .val (.ref bFLOOR), .unset] [])
            refine own_via (fun t => XS.iconst X21.here hx rfl (hb hby at_96)) ?_
            show own_E _ _ _ _ _ _ _ T21 (mkF m 97 #[.val (.int p1), .val (.int p2), .val (.int kk), .val (.ref bFLOOR), .unset] [(.int (0 : Int32))])
            refine own_via (fun t => XS.istore X21.here hx rfl (hb hby at_97) rfl (l' := #[.val (.int p1), .val (.int p2), .val (.int kk), .val (.ref bFLOOR), .val (.int (0 : Int32))]) rfl) ?_
            show own_E _ _ _ _ _ _ _ T21 (mkF m 99 #[.val (.int p1), .val (.int p2), .val (.int kk), .val (.ref bFLOOR), .val (.int (0 : Int32))] [])
            refine own_via (fun t => XS.goto X21.here hx rfl (pc0 := 99) (pc' := 118) rfl (hb hby at_99) (by decide) (by decide)) ?_
            show own_E _ _ _ _ _ _ _ T21 (mkF m 118 #[.val (.int p1), .val (.int p2), .val (.int kk), .val (.ref bFLOOR), .val (.int (0 : Int32))] [])
            refine own_via (fun t => XS.aloadN X21.here hx rfl (hb hby at_118) rfl rfl) ?_
            show own_E _ _ _ _ _ _ _ T21 (mkF m 119 #[.val (.int p1), .val (.int p2), .val (.int kk), .val (.ref bFLOOR), .val (.int (0 : Int32))] [(.ref bFLOOR)])
            refine own_via (fun t => XS.iloadN X21.here hx rfl (hb hby at_119) rfl) ?_
            show own_E _ _ _ _ _ _ _ T21 (mkF m 120 #[.val (.int p1), .val (.int p2), .val (.int kk), .val (.ref bFLOOR), .val (.int (0 : Int32))] [(.int p2), (.ref bFLOOR)])
            obtain ⟨cq24, kq24, q24a, q24b, q24c⟩ := isOf hZ e21 E_FLOOR
            obtain ⟨_, _, ⟨T24, L24, k24, n24⟩, -, X24, ⟨Lc24, hQ24, l24, y24, z24⟩, st24⟩ := X21.virtualBack hx (y := (⟨"com/example/strategos/strategos/lang/Function", "takes", "(I)Z"⟩ : MethodName)) (z := (⟨"com/example/strategos/strategos/lang/Function", "takes", "(I)Z"⟩ : MethodName)) hown (mvT hZ (hw _ (List.mem_of_getElem? (i := 4) rfl))) (mvT hZ (hw _ (List.mem_of_getElem? (i := 5) rfl))) (notFace_of_selects (args := #[]) (mvT hZ (hw _ (List.mem_of_getElem? (i := 7) rfl)))) (mvT hZ (hw _ (List.mem_of_getElem? (i := 7) rfl))) (mvT hZ (hw _ (List.mem_of_getElem? (i := 6) rfl))) (by decide) (backOf (W := 0) (rm1 l Z a0 hw [] bFLOOR p2 1 1 h0 n0 Z0 F_FLOOR G_FLOOR) hZ (hw _ (List.mem_of_getElem? (i := 8) rfl)) (hw _ (List.mem_of_getElem? (i := 2) rfl)) (by decide) (by decide)) q24a q24c (g := (mkF m 120 #[.val (.int p1), .val (.int p2), .val (.int kk), .val (.ref bFLOOR), .val (.int (0 : Int32))] [(.int p2), (.ref bFLOOR)])) rfl (by rw [hml]; rfl) (Steps.refl _) (argsL := [(.int p2)]) (rest := []) (lenOf pd_1 rfl) rfl (by show 2 * 0 + _ ≤ _; exact Nat.le_of_eq rfl) (hb hby at_120) (fun _ _ => ⟨rfl, e21, (by decide : 0 ≤ _), (by decide : 0 ≤ _)⟩)
            dsimp only [Pt.U, Pt.locs, Pt.cells, Pt.slots] at X24 l24 y24 z24 st24 hQ24
            subst l24 y24 z24
            obtain ⟨rfl, N24, e24⟩ := hQ24
            refine own_thru st24 ?_
            show own_E _ _ _ _ _ _ _ T24 (mkF m 123 #[.val (.int p1), .val (.int p2), .val (.int kk), .val (.ref bFLOOR), .val (.int (0 : Int32))] [(.int (own_tk p2 (1 : Int32) (1 : Int32)))])
            rw [own_diff c89_22]
            show own_E _ _ _ _ _ _ _ T24 (mkF m 123 #[.val (.int p1), .val (.int p2), .val (.int kk), .val (.ref bFLOOR), .val (.int (0 : Int32))] [(.int (0 : Int32))])
            refine own_via (fun t => XS.iload X24.here hx rfl (hb hby at_123) rfl) ?_
            show own_E _ _ _ _ _ _ _ T24 (mkF m 125 #[.val (.int p1), .val (.int p2), .val (.int kk), .val (.ref bFLOOR), .val (.int (0 : Int32))] [(.int (0 : Int32)), (.int (0 : Int32))])
            refine own_via (fun t => XS.icmpNo X24.here hx rfl (hb hby at_125) rfl (teq (by decide : (0 : Int32) = (0 : Int32))).2) ?_
            show own_E _ _ _ _ _ _ _ T24 (mkF m 128 #[.val (.int p1), .val (.int p2), .val (.int kk), .val (.ref bFLOOR), .val (.int (0 : Int32))] [])
            refine own_via (fun t => XS.iconst X24.here hx rfl (hb hby at_128)) ?_
            show own_E _ _ _ _ _ _ _ T24 (mkF m 129 #[.val (.int p1), .val (.int p2), .val (.int kk), .val (.ref bFLOOR), .val (.int (0 : Int32))] [(.int (1 : Int32))])
            refine own_via (fun t => XS.goto X24.here hx rfl (pc0 := 129) (pc' := 133) rfl (hb hby at_129) (by decide) (by decide)) ?_
            show own_E _ _ _ _ _ _ _ T24 (mkF m 133 #[.val (.int p1), .val (.int p2), .val (.int kk), .val (.ref bFLOOR), .val (.int (0 : Int32))] [(.int (1 : Int32))])
            refine own_retN X24 hx hlk Bd.returns (Or.inl rfl) (hb hby at_133) (Nat.le_refl _) (Nat.le_refl _) ⟨rfl, Fr.app N0 N24⟩
        · refine own_via (fun t => XS.icmpYes X0.here hx rfl (pc0 := 80) (pc' := 102) rfl (hb hby at_80) rfl (feq c80_20).2 (by decide) (by decide)) ?_
          show own_E _ _ _ _ _ _ _ s₁ (mkF m 102 #[.val (.int p1), .val (.int p2), .val (.int kk), .unset, .unset] [])
          obtain ⟨T25, X25, e25, st25⟩ := getS (host := "") X0 hx hZ hown (hw _ (List.mem_of_getElem? (i := 13) rfl)) Via.refl e0 S_CEIL (g := (mkF m 102 #[.val (.int p1), .val (.int p2), .val (.int kk), .unset, .unset] [])) rfl (hb hby at_102)
          refine own_via st25 ?_
          show own_E _ _ _ _ _ _ _ T25 (mkF m 105 #[.val (.int p1), .val (.int p2), .val (.int kk), .unset, .unset] [(.ref bCEIL)])
          refine own_via (fun t => XS.astoreN X25.here hx rfl (hb hby at_105) rfl rfl (l' := #[.val (.int p1), .val (.int p2), .val (.int kk), .val (.ref bCEIL), .unset]) rfl) ?_
          show own_E _ _ _ _ _ _ _ T25 (mkF m 106 #[.val (.int p1), .val (.int p2), .val (.int kk), .val (.ref bCEIL), .unset] [])
          refine own_via (fun t => XS.iloadN X25.here hx rfl (hb hby at_106) rfl) ?_
          show own_E _ _ _ _ _ _ _ T25 (mkF m 107 #[.val (.int p1), .val (.int p2), .val (.int kk), .val (.ref bCEIL), .unset] [(.int p2)])
          refine own_via (fun t => XS.iconst X25.here hx rfl (hb hby at_107)) ?_
          show own_E _ _ _ _ _ _ _ T25 (mkF m 108 #[.val (.int p1), .val (.int p2), .val (.int kk), .val (.ref bCEIL), .unset] [(.int (1 : Int32)), (.int p2)])
          by_cases c108_26 : p2 = (1 : Int32)
          · refine own_via (fun t => XS.icmpNo X25.here hx rfl (hb hby at_108) rfl (teq c108_26).2) ?_
            show own_E _ _ _ _ _ _ _ T25 (mkF m 111 #[.val (.int p1), .val (.int p2), .val (.int kk), .val (.ref bCEIL), .unset] [])
            refine own_via (fun t => XS.iconst X25.here hx rfl (hb hby at_111)) ?_
            show own_E _ _ _ _ _ _ _ T25 (mkF m 112 #[.val (.int p1), .val (.int p2), .val (.int kk), .val (.ref bCEIL), .unset] [(.int (1 : Int32))])
            refine own_via (fun t => XS.goto X25.here hx rfl (pc0 := 112) (pc' := 116) rfl (hb hby at_112) (by decide) (by decide)) ?_
            show own_E _ _ _ _ _ _ _ T25 (mkF m 116 #[.val (.int p1), .val (.int p2), .val (.int kk), .val (.ref bCEIL), .unset] [(.int (1 : Int32))])
            refine own_via (fun t => XS.istore X25.here hx rfl (hb hby at_116) rfl (l' := #[.val (.int p1), .val (.int p2), .val (.int kk), .val (.ref bCEIL), .val (.int (1 : Int32))]) rfl) ?_
            show own_E _ _ _ _ _ _ _ T25 (mkF m 118 #[.val (.int p1), .val (.int p2), .val (.int kk), .val (.ref bCEIL), .val (.int (1 : Int32))] [])
            refine own_via (fun t => XS.aloadN X25.here hx rfl (hb hby at_118) rfl rfl) ?_
            show own_E _ _ _ _ _ _ _ T25 (mkF m 119 #[.val (.int p1), .val (.int p2), .val (.int kk), .val (.ref bCEIL), .val (.int (1 : Int32))] [(.ref bCEIL)])
            refine own_via (fun t => XS.iloadN X25.here hx rfl (hb hby at_119) rfl) ?_
            show own_E _ _ _ _ _ _ _ T25 (mkF m 120 #[.val (.int p1), .val (.int p2), .val (.int kk), .val (.ref bCEIL), .val (.int (1 : Int32))] [(.int p2), (.ref bCEIL)])
            obtain ⟨cq27, kq27, q27a, q27b, q27c⟩ := isOf hZ e25 E_CEIL
            obtain ⟨_, _, ⟨T27, L27, k27, n27⟩, -, X27, ⟨Lc27, hQ27, l27, y27, z27⟩, st27⟩ := X25.virtualBack hx (y := (⟨"com/example/strategos/strategos/lang/Function", "takes", "(I)Z"⟩ : MethodName)) (z := (⟨"com/example/strategos/strategos/lang/Function", "takes", "(I)Z"⟩ : MethodName)) hown (mvT hZ (hw _ (List.mem_of_getElem? (i := 4) rfl))) (mvT hZ (hw _ (List.mem_of_getElem? (i := 5) rfl))) (notFace_of_selects (args := #[]) (mvT hZ (hw _ (List.mem_of_getElem? (i := 7) rfl)))) (mvT hZ (hw _ (List.mem_of_getElem? (i := 7) rfl))) (mvT hZ (hw _ (List.mem_of_getElem? (i := 6) rfl))) (by decide) (backOf (W := 0) (rm1 l Z a0 hw [] bCEIL p2 1 1 h0 n0 Z0 F_CEIL G_CEIL) hZ (hw _ (List.mem_of_getElem? (i := 8) rfl)) (hw _ (List.mem_of_getElem? (i := 2) rfl)) (by decide) (by decide)) q27a q27c (g := (mkF m 120 #[.val (.int p1), .val (.int p2), .val (.int kk), .val (.ref bCEIL), .val (.int (1 : Int32))] [(.int p2), (.ref bCEIL)])) rfl (by rw [hml]; rfl) (Steps.refl _) (argsL := [(.int p2)]) (rest := []) (lenOf pd_1 rfl) rfl (by show 2 * 0 + _ ≤ _; exact Nat.le_of_eq rfl) (hb hby at_120) (fun _ _ => ⟨rfl, e25, (by decide : 0 ≤ _), (by decide : 0 ≤ _)⟩)
            dsimp only [Pt.U, Pt.locs, Pt.cells, Pt.slots] at X27 l27 y27 z27 st27 hQ27
            subst l27 y27 z27
            obtain ⟨rfl, N27, e27⟩ := hQ27
            refine own_thru st27 ?_
            show own_E _ _ _ _ _ _ _ T27 (mkF m 123 #[.val (.int p1), .val (.int p2), .val (.int kk), .val (.ref bCEIL), .val (.int (1 : Int32))] [(.int (own_tk p2 (1 : Int32) (1 : Int32)))])
            rw [own_same c108_26]
            show own_E _ _ _ _ _ _ _ T27 (mkF m 123 #[.val (.int p1), .val (.int p2), .val (.int kk), .val (.ref bCEIL), .val (.int (1 : Int32))] [(.int (1 : Int32))])
            refine own_via (fun t => XS.iload X27.here hx rfl (hb hby at_123) rfl) ?_
            show own_E _ _ _ _ _ _ _ T27 (mkF m 125 #[.val (.int p1), .val (.int p2), .val (.int kk), .val (.ref bCEIL), .val (.int (1 : Int32))] [(.int (1 : Int32)), (.int (1 : Int32))])
            refine own_via (fun t => XS.icmpNo X27.here hx rfl (hb hby at_125) rfl (teq (by decide : (1 : Int32) = (1 : Int32))).2) ?_
            show own_E _ _ _ _ _ _ _ T27 (mkF m 128 #[.val (.int p1), .val (.int p2), .val (.int kk), .val (.ref bCEIL), .val (.int (1 : Int32))] [])
            refine own_via (fun t => XS.iconst X27.here hx rfl (hb hby at_128)) ?_
            show own_E _ _ _ _ _ _ _ T27 (mkF m 129 #[.val (.int p1), .val (.int p2), .val (.int kk), .val (.ref bCEIL), .val (.int (1 : Int32))] [(.int (1 : Int32))])
            refine own_via (fun t => XS.goto X27.here hx rfl (pc0 := 129) (pc' := 133) rfl (hb hby at_129) (by decide) (by decide)) ?_
            show own_E _ _ _ _ _ _ _ T27 (mkF m 133 #[.val (.int p1), .val (.int p2), .val (.int kk), .val (.ref bCEIL), .val (.int (1 : Int32))] [(.int (1 : Int32))])
            refine own_retN X27 hx hlk Bd.returns (Or.inl rfl) (hb hby at_133) (Nat.le_refl _) (Nat.le_refl _) ⟨rfl, Fr.app N0 N27⟩
          · refine own_via (fun t => XS.icmpYes X25.here hx rfl (pc0 := 108) (pc' := 115) rfl (hb hby at_108) rfl (feq c108_26).2 (by decide) (by decide)) ?_
            show own_E _ _ _ _ _ _ _ T25 (mkF m 115 #[.val (.int p1), .val (.int p2), .val (.int kk), .val (.ref bCEIL), .unset] [])
            refine own_via (fun t => XS.iconst X25.here hx rfl (hb hby at_115)) ?_
            show own_E _ _ _ _ _ _ _ T25 (mkF m 116 #[.val (.int p1), .val (.int p2), .val (.int kk), .val (.ref bCEIL), .unset] [(.int (0 : Int32))])
            refine own_via (fun t => XS.istore X25.here hx rfl (hb hby at_116) rfl (l' := #[.val (.int p1), .val (.int p2), .val (.int kk), .val (.ref bCEIL), .val (.int (0 : Int32))]) rfl) ?_
            show own_E _ _ _ _ _ _ _ T25 (mkF m 118 #[.val (.int p1), .val (.int p2), .val (.int kk), .val (.ref bCEIL), .val (.int (0 : Int32))] [])
            refine own_via (fun t => XS.aloadN X25.here hx rfl (hb hby at_118) rfl rfl) ?_
            show own_E _ _ _ _ _ _ _ T25 (mkF m 119 #[.val (.int p1), .val (.int p2), .val (.int kk), .val (.ref bCEIL), .val (.int (0 : Int32))] [(.ref bCEIL)])
            refine own_via (fun t => XS.iloadN X25.here hx rfl (hb hby at_119) rfl) ?_
            show own_E _ _ _ _ _ _ _ T25 (mkF m 120 #[.val (.int p1), .val (.int p2), .val (.int kk), .val (.ref bCEIL), .val (.int (0 : Int32))] [(.int p2), (.ref bCEIL)])
            obtain ⟨cq28, kq28, q28a, q28b, q28c⟩ := isOf hZ e25 E_CEIL
            obtain ⟨_, _, ⟨T28, L28, k28, n28⟩, -, X28, ⟨Lc28, hQ28, l28, y28, z28⟩, st28⟩ := X25.virtualBack hx (y := (⟨"com/example/strategos/strategos/lang/Function", "takes", "(I)Z"⟩ : MethodName)) (z := (⟨"com/example/strategos/strategos/lang/Function", "takes", "(I)Z"⟩ : MethodName)) hown (mvT hZ (hw _ (List.mem_of_getElem? (i := 4) rfl))) (mvT hZ (hw _ (List.mem_of_getElem? (i := 5) rfl))) (notFace_of_selects (args := #[]) (mvT hZ (hw _ (List.mem_of_getElem? (i := 7) rfl)))) (mvT hZ (hw _ (List.mem_of_getElem? (i := 7) rfl))) (mvT hZ (hw _ (List.mem_of_getElem? (i := 6) rfl))) (by decide) (backOf (W := 0) (rm1 l Z a0 hw [] bCEIL p2 1 1 h0 n0 Z0 F_CEIL G_CEIL) hZ (hw _ (List.mem_of_getElem? (i := 8) rfl)) (hw _ (List.mem_of_getElem? (i := 2) rfl)) (by decide) (by decide)) q28a q28c (g := (mkF m 120 #[.val (.int p1), .val (.int p2), .val (.int kk), .val (.ref bCEIL), .val (.int (0 : Int32))] [(.int p2), (.ref bCEIL)])) rfl (by rw [hml]; rfl) (Steps.refl _) (argsL := [(.int p2)]) (rest := []) (lenOf pd_1 rfl) rfl (by show 2 * 0 + _ ≤ _; exact Nat.le_of_eq rfl) (hb hby at_120) (fun _ _ => ⟨rfl, e25, (by decide : 0 ≤ _), (by decide : 0 ≤ _)⟩)
            dsimp only [Pt.U, Pt.locs, Pt.cells, Pt.slots] at X28 l28 y28 z28 st28 hQ28
            subst l28 y28 z28
            obtain ⟨rfl, N28, e28⟩ := hQ28
            refine own_thru st28 ?_
            show own_E _ _ _ _ _ _ _ T28 (mkF m 123 #[.val (.int p1), .val (.int p2), .val (.int kk), .val (.ref bCEIL), .val (.int (0 : Int32))] [(.int (own_tk p2 (1 : Int32) (1 : Int32)))])
            rw [own_diff c108_26]
            show own_E _ _ _ _ _ _ _ T28 (mkF m 123 #[.val (.int p1), .val (.int p2), .val (.int kk), .val (.ref bCEIL), .val (.int (0 : Int32))] [(.int (0 : Int32))])
            refine own_via (fun t => XS.iload X28.here hx rfl (hb hby at_123) rfl) ?_
            show own_E _ _ _ _ _ _ _ T28 (mkF m 125 #[.val (.int p1), .val (.int p2), .val (.int kk), .val (.ref bCEIL), .val (.int (0 : Int32))] [(.int (0 : Int32)), (.int (0 : Int32))])
            refine own_via (fun t => XS.icmpNo X28.here hx rfl (hb hby at_125) rfl (teq (by decide : (0 : Int32) = (0 : Int32))).2) ?_
            show own_E _ _ _ _ _ _ _ T28 (mkF m 128 #[.val (.int p1), .val (.int p2), .val (.int kk), .val (.ref bCEIL), .val (.int (0 : Int32))] [])
            refine own_via (fun t => XS.iconst X28.here hx rfl (hb hby at_128)) ?_
            show own_E _ _ _ _ _ _ _ T28 (mkF m 129 #[.val (.int p1), .val (.int p2), .val (.int kk), .val (.ref bCEIL), .val (.int (0 : Int32))] [(.int (1 : Int32))])
            refine own_via (fun t => XS.goto X28.here hx rfl (pc0 := 129) (pc' := 133) rfl (hb hby at_129) (by decide) (by decide)) ?_
            show own_E _ _ _ _ _ _ _ T28 (mkF m 133 #[.val (.int p1), .val (.int p2), .val (.int kk), .val (.ref bCEIL), .val (.int (0 : Int32))] [(.int (1 : Int32))])
            refine own_retN X28 hx hlk Bd.returns (Or.inl rfl) (hb hby at_133) (Nat.le_refl _) (Nat.le_refl _) ⟨rfl, Fr.app N0 N28⟩
set_option maxRecDepth 65536 in
set_option maxHeartbeats 40000000 in
theorem comes_1 {Post : Tables → Env → Array Value → State → Outcome → State → Prop} (hpost : ∀ tb e args s v u, (limb_1_1.after args s (.returned v) u = true ∧ limb_1_2.after args s (.returned v) u = true ∧ True) → FrameEnd s (.returned v) u (Jvm.fieldLocs frame_1_writes args s ++ Jvm.arrayLocs frame_1_arrays args s ++ Jvm.staticLocs frame_1_statics s) 0 0 → Post tb e args s (.returned v) u) :
    ArmFor flags0 classFile x code maxLocals ret World_1 tables_1 room_1 Calls_1 rest_1 Pre_1 Post := by
  intro l hfl _ _ p e ha hc hk s m args below hf hA hF happ hP
  obtain ⟨hcalls, hrest, hpre⟩ := hP
  obtain ⟨-, -, -, hnamed, -, -, -, hat⟩ := (Spec.applies_iff hf).mp happ
  obtain ⟨hg, hn⟩ := and_e (Cond.before_iff.mp (show (Jvm.Cond.and given_1 narrow_1).before args s = true from hpre))
  obtain ⟨hcount, hg0⟩ := and_e hg
  obtain ⟨hi0, hg1⟩ := and_e hg0
  have hi1 := hg1
  obtain ⟨w0, w1, rfl⟩ : ∃ w0 w1 : Value, args = #[w0, w1] := by
    have hs : args.size = 2 := by simpa [Cond.value, given_1] using hcount
    obtain ⟨L⟩ := args
    match L, hs with
    | [w0, w1], _ => exact ⟨w0, w1, rfl⟩
  have hw := fun d (hd : d ∈ tables_1) => atoms_spec (ws := Jvm.Cond.code x code maxLocals ret :: tables_1) hat d (List.mem_cons_of_mem _ hd)
  have hfit : Fit s := fun {y c} hc i hi => by
    obtain ⟨ha, rfl⟩ := Array.getElem?_eq_some_iff.mp hc
    have q := List.all_eq_true.mp ((Array.all_eq_true_iff_forall_mem.mp hF) _ (Array.getElem_mem ha)) i (List.mem_range.mpr hi)
    simpa [Array.getElem?_eq_getElem hi] using q
  obtain ⟨i0, ei0⟩ := is_v hi0
  obtain rfl : w0 = (.int i0) := Option.some.inj ei0
  obtain ⟨i1, ei1⟩ := is_v hi1
  obtain rfl : w1 = (.int i1) := Option.some.inj ei1
  obtain ⟨ux_MIN, v0⟩ := and_e hn
  obtain ⟨uf_MIN, v1⟩ := and_e v0
  obtain ⟨um_MIN, v2⟩ := and_e v1
  obtain ⟨ux_CEIL, v3⟩ := and_e v2
  obtain ⟨uf_CEIL, v4⟩ := and_e v3
  obtain ⟨um_CEIL, v5⟩ := and_e v4
  obtain ⟨ux_FLOOR, v6⟩ := and_e v5
  obtain ⟨uf_FLOOR, v7⟩ := and_e v6
  obtain ⟨um_FLOOR, v8⟩ := and_e v7
  obtain ⟨ux_MAX, v9⟩ := and_e v8
  obtain ⟨uf_MAX, v10⟩ := and_e v9
  obtain ⟨ux_POW, v11⟩ := and_e v10
  obtain ⟨uf_POW, v12⟩ := and_e v11
  obtain ⟨um_POW, v13⟩ := and_e v12
  have um_MAX := v13
  obtain ⟨bMIN, evMIN⟩ := exa_v ux_MIN
  have S_MIN := Sta.start evMIN (Or.inr ⟨hw _ (List.mem_of_getElem? (i := 2) rfl), hw _ (List.mem_of_getElem? (i := 3) rfl)⟩)
  have E_MIN := Exa.start evMIN ux_MIN
  have F_MIN := own_fldI evMIN uf_MIN
  have G_MIN := own_fldI evMIN um_MIN
  obtain ⟨bCEIL, evCEIL⟩ := exa_v ux_CEIL
  have S_CEIL := Sta.start evCEIL (Or.inr ⟨hw _ (List.mem_of_getElem? (i := 2) rfl), hw _ (List.mem_of_getElem? (i := 14) rfl)⟩)
  have E_CEIL := Exa.start evCEIL ux_CEIL
  have F_CEIL := own_fldI evCEIL uf_CEIL
  have G_CEIL := own_fldI evCEIL um_CEIL
  obtain ⟨bFLOOR, evFLOOR⟩ := exa_v ux_FLOOR
  have S_FLOOR := Sta.start evFLOOR (Or.inr ⟨hw _ (List.mem_of_getElem? (i := 2) rfl), hw _ (List.mem_of_getElem? (i := 16) rfl)⟩)
  have E_FLOOR := Exa.start evFLOOR ux_FLOOR
  have F_FLOOR := own_fldI evFLOOR uf_FLOOR
  have G_FLOOR := own_fldI evFLOOR um_FLOOR
  obtain ⟨bMAX, evMAX⟩ := exa_v ux_MAX
  have S_MAX := Sta.start evMAX (Or.inr ⟨hw _ (List.mem_of_getElem? (i := 2) rfl), hw _ (List.mem_of_getElem? (i := 18) rfl)⟩)
  have E_MAX := Exa.start evMAX ux_MAX
  have F_MAX := own_fldI evMAX uf_MAX
  have G_MAX := own_fldI evMAX um_MAX
  obtain ⟨bPOW, evPOW⟩ := exa_v ux_POW
  have S_POW := Sta.start evPOW (Or.inr ⟨hw _ (List.mem_of_getElem? (i := 2) rfl), hw _ (List.mem_of_getElem? (i := 20) rfl)⟩)
  have E_POW := Exa.start evPOW ux_POW
  have F_POW := own_fldI evPOW uf_POW
  have G_POW := own_fldI evPOW um_POW
  obtain ⟨n, o, h1, h2, h3, _, L, rfl, ⟨rfl, N⟩, hq⟩ := rm0 l s _ hw tables_1 i0 i1 bMIN bMAX bPOW bFLOOR bCEIL s.heap s.heap.size (Nat.le_refl _) S_MIN E_MIN F_MIN G_MIN S_MAX E_MAX F_MAX G_MAX S_POW E_POW F_POW G_POW S_FLOOR E_FLOOR F_FLOOR G_FLOOR S_CEIL E_CEIL F_CEIL G_CEIL p e ha hc hk s m _ below hf ((Spec.applies_iff_loose hf).mp happ).1 ⟨rfl, State.Warmed39.refl s, rfl⟩ trivial
  refine ⟨n, _, h1, h2, h3, hpost _ _ _ _ _ _ ⟨Cond.after_iff.mpr rfl, Cond.after_iff.mpr (eq_i res_at (Term.int_eval (1)) rfl), trivial⟩ ⟨hq.1, hq.2.1, (hq.2.2.sift fun y hy => Or.inr (N y hy)).mono (by decide) (by decide)⟩⟩
theorem main_1_1 : Claimed_1_1 := comes_1 fun _ _ _ _ _ _ h hF => ⟨h.1, hF⟩
theorem main_1_2 : Claimed_1_2 := comes_1 fun _ _ _ _ _ _ h hF => ⟨h.2.1, hF⟩
end Jvm.Pilot.@@N@@
namespace Jvm.Pilot.@@N@@
open Jvm Jvm.ClassFile Sem Op Lib Jvm.Free Jvm.Stand Jvm.Pilot.@@N@@.Jvm.D
/-! MADE BY PROGRAM (witnessworld.py) out of the Statement's table words and the real class files: 10 classes; the members and pool entries that the words name. The judged class is class 1, her method 1. -/
namespace start1
open Jvm.ClassFile
def u (s : String) : CpInfo := .utf8 (stringToUtf16 s)
/-- a pool by its gaps: so many unusable entries, then the entry; so many at the end -/
def gap : Nat → List CpInfo → List CpInfo
  | 0, r => r
  | n + 1, r => .unusable :: gap n r
def poolList (es : List (Nat × CpInfo)) (last : Nat) : List CpInfo := es.foldr (fun e r => gap e.1 (e.2 :: r)) (gap last [])
def pool (es : List (Nat × CpInfo)) (last : Nat) : Array CpInfo := ⟨poolList es last⟩
def fileOf (pool : Array CpInfo) (this : Nat) (attrs : Array Attribute := #[]) (ms : Array MethodInfo := #[]) (fl : Nat := 33) (sup : Nat := 0) (ifs : Array Nat := #[]) (fds : Array FieldInfo := #[]) : ClassFile where
  minorVersion := 0
  majorVersion := 65
  constantPool := pool
  accessFlags := fl
  thisClass := this
  superClass := sup
  interfaces := ifs
  fields := fds
  methods := ms
  attributes := attrs
def plain (name : String) (sup : Option ClassId) : Class where
  name := name
  kind := .ordinary
  loader := none
  accessFlags := 33
  super := sup
  interfaces := #[]
  cf := none
  fields := #[]
  methods := #[]
  instanceTypes := #[]
  staticTypes := #[]
  resolved := #[]
  callSites := []
  init := .initialized
  statics := none
  mirror := none

def pool0 : Array CpInfo := pool [(5, u "<init>"), (0, u "()V"), (1, .class_ 10), (1, u "java/lang/Object")] 113

def k0m0 : Method := { name := "<init>", desc := "()V", sig := { parameters := [], returnType := none }, accessFlags := 1, code := none }
/-- java/lang/Object -/
def k0 : Class := { plain "java/lang/Object" none with
  accessFlags := 33
  interfaces := #[]
  cf := some (fileOf pool0 8 #[] #[{ accessFlags := 1, nameIndex := 5, descriptorIndex := 6, attributes := #[] }] 33 0 #[] #[])
  fields := #[]
  methods := #[k0m0]
  instanceTypes := #[]
  staticTypes := #[]
  resolved := Array.replicate 124 none
  statics := none }

def pool1 : Array CpInfo := pool [(2, .class_ 4), (1, u "java/lang/Object"), (0, u "<init>"), (0, u "()V"), (0, .integer 2147483647), (0, .fieldref 9 10), (0, .class_ 11), (0, .nameAndType 12 13), (0, u "com/example/strategos/strategos/lang/Function"), (0, u "MIN"), (0, u "Lcom/example/strategos/strategos/lang/Function;"), (0, .fieldref 9 15), (0, .nameAndType 16 13), (0, u "MAX"), (0, .fieldref 9 18), (0, .nameAndType 19 13), (0, u "POW"), (0, .fieldref 9 21), (0, .nameAndType 22 13), (0, u "FLOOR"), (0, .fieldref 9 24), (0, .nameAndType 25 13), (0, u "CEIL"), (0, .methodref 9 27), (0, .nameAndType 28 29), (0, u "takes"), (0, u "(I)Z"), (0, .class_ 31), (0, u "com/example/strategos/strategos/lang/FunctionTakesPinLaw"), (2, u "law"), (0, u "(II)Z")] 3

def k1m0 : Method := { name := "<init>", desc := "()V", sig := { parameters := [], returnType := none }, accessFlags := 2, code := none }
def k1c1 : Code := { maxStack := 2, maxLocals := 5, code := code, exceptionTable := #[], attributes := #[] }
def k1m1 : Method := { name := "law", desc := "(II)Z", sig := { parameters := [.int, .int], returnType := some .boolean }, accessFlags := 9, code := some k1c1 }
/-- com/example/strategos/strategos/lang/FunctionTakesPinLaw -/
def k1 : Class := { plain "com/example/strategos/strategos/lang/FunctionTakesPinLaw" (some 0) with
  accessFlags := 49
  interfaces := #[]
  cf := some (fileOf pool1 30 #[] #[{ accessFlags := 2, nameIndex := 5, descriptorIndex := 6, attributes := #[] }, { accessFlags := 9, nameIndex := 34, descriptorIndex := 35, attributes := #[] }] 49 2 #[] #[])
  fields := #[]
  methods := #[k1m0, k1m1]
  instanceTypes := #[]
  staticTypes := #[]
  resolved := Array.replicate 39 none
  statics := none }

def pool2 : Array CpInfo := pool [(1, .class_ 2), (0, u "java/lang/constant/Constable"), (0, .class_ 4), (0, u "java/lang/Object")] 6

/-- java/lang/constant/Constable -/
def k2 : Class := { plain "java/lang/constant/Constable" (some 0) with
  accessFlags := 1537
  interfaces := #[]
  cf := some (fileOf pool2 1 #[] #[] 1537 3 #[] #[])
  fields := #[]
  methods := #[]
  instanceTypes := #[]
  staticTypes := #[]
  resolved := Array.replicate 11 none
  statics := none }

def pool3 : Array CpInfo := pool [(1, .class_ 2), (0, u "java/lang/Comparable"), (0, .class_ 4), (0, u "java/lang/Object")] 7

/-- java/lang/Comparable -/
def k3 : Class := { plain "java/lang/Comparable" (some 0) with
  accessFlags := 1537
  interfaces := #[]
  cf := some (fileOf pool3 1 #[] #[] 1537 3 #[] #[])
  fields := #[]
  methods := #[]
  instanceTypes := #[]
  staticTypes := #[]
  resolved := Array.replicate 12 none
  statics := none }

def pool4 : Array CpInfo := pool [(1, .class_ 2), (0, u "java/io/Serializable"), (0, .class_ 4), (0, u "java/lang/Object")] 2

/-- java/io/Serializable -/
def k4 : Class := { plain "java/io/Serializable" (some 0) with
  accessFlags := 1537
  interfaces := #[]
  cf := some (fileOf pool4 1 #[] #[] 1537 3 #[] #[])
  fields := #[]
  methods := #[]
  instanceTypes := #[]
  staticTypes := #[]
  resolved := Array.replicate 7 none
  statics := none }

def pool5 : Array CpInfo := pool [(2, .class_ 4), (1, u "java/lang/Enum"), (0, u "name"), (0, u "Ljava/lang/String;"), (2, u "ordinal"), (0, u "I"), (1, .class_ 14), (1, u "java/lang/Object"), (4, u "hash"), (86, .class_ 108), (1, u "java/lang/Enum$EnumDesc"), (2, .class_ 112), (0, u "java/lang/constant/Constable"), (0, .class_ 114), (0, u "java/lang/Comparable"), (0, .class_ 116), (0, u "java/io/Serializable")] 87

/-- java/lang/Enum -/
def k5 : Class := { plain "java/lang/Enum" (some 0) with
  accessFlags := 1057
  interfaces := #[2, 3, 4]
  cf := some (fileOf pool5 2 #[.nestMembers #[106]] #[] 1057 12 #[111, 113, 115] #[{ accessFlags := 18, nameIndex := 5, descriptorIndex := 6, attributes := #[] }, { accessFlags := 18, nameIndex := 9, descriptorIndex := 10, attributes := #[] }, { accessFlags := 2, nameIndex := 19, descriptorIndex := 10, attributes := #[] }])
  fields := #[{ name := "name", type := (.object "java/lang/String"), accessFlags := 18, slot := 0, constantValue := 0 }, { name := "ordinal", type := .int, accessFlags := 18, slot := 1, constantValue := 0 }, { name := "hash", type := .int, accessFlags := 2, slot := 2, constantValue := 0 }]
  methods := #[]
  instanceTypes := #[(.object "java/lang/String"), .int, .int]
  staticTypes := #[]
  resolved := Array.replicate 204 none
  statics := none }

def pool6 : Array CpInfo := pool [(1, .class_ 2), (0, u "com/example/strategos/strategos/lang/Function"), (2, u "MIN"), (0, u "Lcom/example/strategos/strategos/lang/Function;"), (2, u "MAX"), (2, u "POW"), (2, u "FLOOR"), (2, u "CEIL"), (2, u "$VALUES"), (0, u "[Lcom/example/strategos/strategos/lang/Function;"), (6, .class_ 31), (1, u "java/lang/Enum"), (8, u "word"), (0, u "Ljava/lang/String;"), (0, .fieldref 1 43), (0, .nameAndType 44 45), (0, u "fewest"), (0, u "I"), (0, .fieldref 1 47), (0, .nameAndType 48 45), (0, u "most"), (2, u "operation"), (0, u "Lcom/example/strategos/strategos/dd/Operation;"), (2, u "rounding"), (0, u "Lcom/example/strategos/strategos/dd/UnaryOperation;"), (49, u "NO_REAL_POWER"), (3, u "NEGATIVE_INTEGER_EXPONENT"), (11, u "takes"), (0, u "(I)Z")] 28

def k6c0 : Code := { maxStack := 2, maxLocals := 2, code := prog_74_method_6_code, exceptionTable := #[], attributes := #[] }
def k6m0 : Method := { name := "takes", desc := "(I)Z", sig := { parameters := [.int], returnType := some .boolean }, accessFlags := 0, code := some k6c0 }
/-- com/example/strategos/strategos/lang/Function -/
def k6 : Class := { plain "com/example/strategos/strategos/lang/Function" (some 5) with
  accessFlags := 16433
  interfaces := #[]
  cf := some (fileOf pool6 1 #[] #[{ accessFlags := 0, nameIndex := 122, descriptorIndex := 123, attributes := #[] }] 16433 29 #[] #[{ accessFlags := 16409, nameIndex := 5, descriptorIndex := 6, attributes := #[] }, { accessFlags := 16409, nameIndex := 9, descriptorIndex := 6, attributes := #[] }, { accessFlags := 16409, nameIndex := 12, descriptorIndex := 6, attributes := #[] }, { accessFlags := 16409, nameIndex := 15, descriptorIndex := 6, attributes := #[] }, { accessFlags := 16409, nameIndex := 18, descriptorIndex := 6, attributes := #[] }, { accessFlags := 25, nameIndex := 106, descriptorIndex := 41, attributes := #[] }, { accessFlags := 25, nameIndex := 110, descriptorIndex := 41, attributes := #[] }, { accessFlags := 18, nameIndex := 40, descriptorIndex := 41, attributes := #[] }, { accessFlags := 18, nameIndex := 44, descriptorIndex := 45, attributes := #[] }, { accessFlags := 18, nameIndex := 48, descriptorIndex := 45, attributes := #[] }, { accessFlags := 18, nameIndex := 51, descriptorIndex := 52, attributes := #[] }, { accessFlags := 18, nameIndex := 55, descriptorIndex := 56, attributes := #[] }, { accessFlags := 4122, nameIndex := 21, descriptorIndex := 22, attributes := #[] }])
  fields := #[{ name := "MIN", type := (.object "com/example/strategos/strategos/lang/Function"), accessFlags := 16409, slot := 0, constantValue := 0 }, { name := "MAX", type := (.object "com/example/strategos/strategos/lang/Function"), accessFlags := 16409, slot := 1, constantValue := 0 }, { name := "POW", type := (.object "com/example/strategos/strategos/lang/Function"), accessFlags := 16409, slot := 2, constantValue := 0 }, { name := "FLOOR", type := (.object "com/example/strategos/strategos/lang/Function"), accessFlags := 16409, slot := 3, constantValue := 0 }, { name := "CEIL", type := (.object "com/example/strategos/strategos/lang/Function"), accessFlags := 16409, slot := 4, constantValue := 0 }, { name := "NO_REAL_POWER", type := (.object "java/lang/String"), accessFlags := 25, slot := 5, constantValue := 0 }, { name := "NEGATIVE_INTEGER_EXPONENT", type := (.object "java/lang/String"), accessFlags := 25, slot := 6, constantValue := 0 }, { name := "word", type := (.object "java/lang/String"), accessFlags := 18, slot := 3, constantValue := 0 }, { name := "fewest", type := .int, accessFlags := 18, slot := 4, constantValue := 0 }, { name := "most", type := .int, accessFlags := 18, slot := 5, constantValue := 0 }, { name := "operation", type := (.object "com/example/strategos/strategos/dd/Operation"), accessFlags := 18, slot := 6, constantValue := 0 }, { name := "rounding", type := (.object "com/example/strategos/strategos/dd/UnaryOperation"), accessFlags := 18, slot := 7, constantValue := 0 }, { name := "$VALUES", type := (.array (.object "com/example/strategos/strategos/lang/Function")), accessFlags := 4122, slot := 7, constantValue := 0 }]
  methods := #[k6m0]
  instanceTypes := #[(.object "java/lang/String"), .int, .int, (.object "java/lang/String"), .int, .int, (.object "com/example/strategos/strategos/dd/Operation"), (.object "com/example/strategos/strategos/dd/UnaryOperation")]
  staticTypes := #[(.object "com/example/strategos/strategos/lang/Function"), (.object "com/example/strategos/strategos/lang/Function"), (.object "com/example/strategos/strategos/lang/Function"), (.object "com/example/strategos/strategos/lang/Function"), (.object "com/example/strategos/strategos/lang/Function"), (.object "java/lang/String"), (.object "java/lang/String"), (.array (.object "com/example/strategos/strategos/lang/Function"))]
  resolved := Array.replicate 152 none
  statics := some 0 }

def pool7 : Array CpInfo := pool [(1, u "java/lang/Cloneable"), (0, .class_ 1), (0, u "java/lang/Object"), (0, .class_ 3)] 3

/-- java/lang/Cloneable -/
def k7 : Class := { plain "java/lang/Cloneable" (some 0) with
  accessFlags := 1537
  interfaces := #[]
  cf := some (fileOf pool7 2 #[] #[] 1537 4 #[] #[])
  fields := #[]
  methods := #[]
  instanceTypes := #[]
  staticTypes := #[]
  resolved := Array.replicate 8 none
  statics := none }

/-- the primitive byte -/
def k8 : Class := { plain "byte" none with kind := .primitive 'B', accessFlags := 0x411 }
/-- [B -/
def k9 : Class := { plain "[B" (some 0) with kind := .array 8 .byte, interfaces := #[7, 4], accessFlags := 1041 }

def heap : Heap := #[{ cls := 6, slots := #[.ref 1, .ref 2, .ref 3, .ref 4, .ref 5, .null, .null, .null], vm := .statics 6 },
  { cls := 6, slots := #[.null, .int 0, .int 0, .null, .int 2, .int 2147483647, .null, .null], vm := .none },
  { cls := 6, slots := #[.null, .int 1, .int 0, .null, .int 2, .int 2147483647, .null, .null], vm := .none },
  { cls := 6, slots := #[.null, .int 2, .int 0, .null, .int 2, .int 2, .null, .null], vm := .none },
  { cls := 6, slots := #[.null, .int 3, .int 0, .null, .int 1, .int 1, .null, .null], vm := .none },
  { cls := 6, slots := #[.null, .int 4, .int 0, .null, .int 1, .int 1, .null, .null], vm := .none }]
def classes : Array Class := #[k0, k1, k2, k3, k4, k5, k6, k7, k8, k9]
def interned : List (Array UInt16 × Addr) := []
def slotsUsed : Nat := 48
def theMethod : MethodId := ⟨1, 1⟩
def args0 : Array Value := #[.int 5, .int 3]
def aboutOver (below : List Frame) : State where
  vm := { classes := classes, interned := interned.toArray }
  heap := heap
  slotsUsed := slotsUsed
  threads := #[{ frames := .invoking theMethod args0 :: below }]
def below0 : List Frame := [.native { method := ⟨0, 0⟩, args := #[] }]
def about1 : State := aboutOver below0
def p0 : Program := .bare "" "" ""
def e0 : Env := launch0.env 0 0 0
theorem w_frames : about1.frames = Frame.invoking theMethod args0 :: below0 := rfl
set_option maxRecDepth 65536 in
theorem w_args : argsFit about1.vm theMethod args0 = true := by decide +kernel
set_option maxRecDepth 65536 in
theorem w_heap : heapFits about1 = true := by decide +kernel
set_option maxRecDepth 65536 in
theorem w_runnable : about1.curStatus? = some .runnable := by decide +kernel
set_option maxRecDepth 65536 in
theorem w_alone : about1.alone = true := by decide +kernel
set_option maxRecDepth 65536 in
theorem w_named : about1.methodNamed? x = some theMethod := by decide +kernel
set_option maxRecDepth 65536 in
theorem w_hears : about1.hears theMethod below0 = true := by decide +kernel
set_option maxRecDepth 65536 in
theorem w_ripe : about1.ripe theMethod args0 below0 = true := by decide +kernel
theorem w_running : about1.status = .running := rfl
set_option maxRecDepth 65536 in
theorem w_room : about1.hasRoom e0.platform room_1 = true :=
  launch0.hasRoom_least _ room_1 (by decide +kernel) (by decide +kernel) (by decide +kernel) (by decide +kernel) (by decide +kernel) (by decide +kernel)
theorem allAtoms_all (ts : List Jvm.Cond) (a : Array Jvm.Value) (st : Jvm.State) : (allAtoms ts).before a st = ts.all (fun c => c.before a st) := by
  induction ts with
  | nil => rfl
  | cons c t ih =>
    show (Jvm.Cond.and c (allAtoms t)).before a st = _
    rw [Jvm.Cond.before_and, ih, List.all_cons]
def words1 : List Jvm.Cond := Jvm.Cond.code x code maxLocals ret :: tables_1
/-- a 'code' word, met by the world's own term for the bytes: nothing is compared byte by byte -/
theorem code_word {y : MethodName} {bytes : ByteArray} {mx : Nat} {rt : Option FieldType} {a : Array Value} {s : State} {m : MethodId} {meth : Method} {c : Code} (h1 : s.methodNamed? y = some m) (h2 : s.vm.method? m = some meth) (h3 : meth.code = some c) (h4 : c.code = bytes)
    (h5 : (c.maxLocals == mx && c.exceptionTable.isEmpty && decide (c.maxStack ≤ mostOperands) && decide (meth.sig.returnType = rt) && !meth.locks && decide (parseMethodDescriptor y.desc = some meth.sig)) = true) : (Jvm.Cond.code y bytes mx rt).before a s = true := by
  simp only [Bool.and_eq_true, beq_iff_eq, Bool.not_eq_true', decide_eq_true_eq] at h5
  obtain ⟨⟨⟨⟨⟨g1, g2⟩, g3⟩, g4⟩, g5⟩, g6⟩ := h5
  simp [Cond.before, Cond.holds, Cond.value, h1, h2, h3, h4, g1, g2, g3, g4, g5, g6]
def isCode : Jvm.Cond → Bool
  | .code _ _ _ _ => true
  | _ => false
theorem all_split {L : List Jvm.Cond} {P : Jvm.Cond → Bool} (h1 : L.all (fun c => isCode c || P c) = true) (h2 : ∀ c ∈ L.filter isCode, P c = true) : L.all P = true := by
  refine List.all_eq_true.mpr fun c hc => ?_
  have h := List.all_eq_true.mp h1 c hc
  rcases Bool.eq_false_or_eq_true (isCode c) with hi | hi
  · exact h2 c (List.mem_filter.mpr ⟨hc, hi⟩)
  · simpa [hi] using h
set_option maxRecDepth 65536 in
theorem w_c0 : (Jvm.Cond.code x code maxLocals ret).before args0 about1 = true := code_word (m := ⟨1, 1⟩) (meth := k1m1) (c := k1c1) (by decide +kernel) rfl rfl rfl (by decide +kernel)
set_option maxRecDepth 65536 in
theorem w_c1 : (Jvm.Cond.code ({ cls := "com/example/strategos/strategos/lang/Function", name := "takes", desc := "(I)Z" } : Jvm.MethodName) prog_74_method_6_code (2 : Nat) (Option.some Jvm.ClassFile.FieldType.boolean)).before args0 about1 = true := code_word (m := ⟨6, 0⟩) (meth := k6m0) (c := k6c0) (by decide +kernel) rfl rfl rfl (by decide +kernel)
def codes1 : List Jvm.Cond := [Jvm.Cond.code x code maxLocals ret, Jvm.Cond.code ({ cls := "com/example/strategos/strategos/lang/Function", name := "takes", desc := "(I)Z" } : Jvm.MethodName) prog_74_method_6_code (2 : Nat) (Option.some Jvm.ClassFile.FieldType.boolean)]
set_option maxRecDepth 65536 in
theorem codes_eq : words1.filter isCode = codes1 := rfl
theorem w_codes : ∀ c ∈ words1.filter isCode, c.before args0 about1 = true := by
  rw [codes_eq]
  intro c hc
  simp only [codes1, List.mem_cons, List.not_mem_nil, or_false] at hc
  rcases hc with rfl | rfl
  · exact w_c0
  · exact w_c1
set_option maxRecDepth 65536 in
theorem w_t1 : words1.all (fun c => isCode c || c.before args0 about1) = true := by decide +kernel
theorem w_tables : (allAtoms (Jvm.Cond.code x code maxLocals ret :: tables_1)).before args0 about1 = true := by
  rw [allAtoms_all]
  show words1.all (fun c => c.before args0 about1) = true
  refine all_split ?_ w_codes
  rw [w_t1]
set_option maxRecDepth 65536 in
theorem w_case : (Jvm.Cond.and given_1 narrow_1).before args0 about1 = true := by decide +kernel
theorem w_applies : (headSpec (Jvm.Cond.code x code maxLocals ret :: tables_1) room_1).applies x e0.platform about1 = true :=
  (Spec.applies_iff w_frames).mpr ⟨w_running, w_runnable, w_alone, w_named, w_hears, w_ripe, w_room, w_tables⟩
theorem atStart : AtStart classFile x code maxLocals ret World_1 tables_1 room_1 Calls_1 rest_1 Pre_1 launch0 p0 e0 about1 theMethod args0 below0 :=
  ⟨lists_1, trivial, launch0.admits_env _ _ _, launch0.least_env, fairChoices_fair.cas, fairChoices_fair.clock, w_frames, w_args, w_heap, w_applies, trivial, trivial, w_case⟩
end start1
theorem witness_1 : WitnessClaimed_1 := ⟨start1.p0, start1.e0, start1.about1, start1.theMethod, start1.args0, start1.below0, start1.atStart⟩
end Jvm.Pilot.@@N@@
