import JvmDerived
import JvmDerived.Pilot.@@N@@Statement
import JvmDerived.Pilot.@@N@@Code
set_option linter.unusedVariables false
set_option linter.unusedSimpArgs false
namespace Jvm.Pilot.@@N@@
open Jvm Jvm.ClassFile Sem Op Lib Jvm.Free Jvm.Stand Jvm.LawKit Jvm.RoadKit Bundle Jvm.Pilot.@@N@@.Jvm.D
section Own
variable {p : Program} {l : Launch} {e : Env} {R : Room} {s : State} {m : MethodId} {args : Array Value} {below : List Frame} {meth : Method} {c : Code} {T T' : State} {locs : List Loc} {cells slots : Nat}
/-- from the frame g over the state T the body comes to its end, as Q says -/
def own_E (p : Program) (e : Env) (below : List Frame) (s : State) (Q : Option Value → Heap → List Loc → Prop) (k n : Nat) (T : State) (g : JFrame) : Prop :=
  ∃ U o, Steps p.tables e below (T.setTop g) U ∧ U.status = .running ∧ Ended U below o ∧ ∃ v L, o = Outcome.returned v ∧ Q v U.heap L ∧ FrameEnd s o U L k n
variable {Q : Option Value → Heap → List Loc → Prop} {k n : Nat} {g g' : JFrame}
theorem own_via (st : ∀ t, Steps p.tables e below (T'.setTop g') t → Steps p.tables e below (T.setTop g) t) (h : own_E p e below s Q k n T' g') : own_E p e below s Q k n T g := by
  obtain ⟨U, o, h1, r⟩ := h
  exact ⟨U, o, st U h1, r⟩
theorem own_thru (st : Steps p.tables e below (T.setTop g) (T'.setTop g')) (h : own_E p e below s Q k n T' g') : own_E p e below s Q k n T g := own_via (fun _ k => st.trans k) h
theorem own_retN (X : Stand p l e R s m args below meth c T locs cells slots) (hx : p.tables.exec = Jvm.exec) (hlk : meth.locks = false) {pc : Nat} {Ls : Array Slot} {z : Int32} {t : FieldType} {rest : List Value} (hret : meth.sig.returnType = some t) (ht : t = .boolean ∨ t = .byte ∨ t = .char ∨ t = .short)
    (hd : decode c.code pc = .ok (.ireturn, 1)) (hk : cells ≤ k) (hn : slots ≤ n) (hQ : Q (some (.int (nar t z))) T.heap locs) : own_E p e below s Q k n T (mkF m pc Ls (.int z :: rest)) := by
  obtain ⟨fs, hr, hrun, hended, hW, hsame⟩ := X.leave (v := some (.int (nar t z))) (fun h => by rw [hret] at h; cases h) hlk
  exact ⟨_, _, retN X hx hret ht hd hr, hrun, hended, _, _, rfl, hQ, ⟨_, rfl⟩, hW, hsame.mono hk hn⟩
theorem own_ret (X : Stand p l e R s m args below meth c T locs cells slots) (hx : p.tables.exec = Jvm.exec) (hlk : meth.locks = false) {pc : Nat} {Ls : Array Slot} {w : Value} {t : FieldType} {i : Instr} {rest : List Value} (hret : meth.sig.returnType = some t) (hnr : narrow t w = w)
    (hi : (i = .ireturn ∧ (t = .int ∨ t = .boolean ∨ t = .byte ∨ t = .char ∨ t = .short) ∧ ∃ z, w = .int z) ∨ (i = .lreturn ∧ t = .long ∧ ∃ z, w = .long z) ∨ (i = .dreturn ∧ t = .double ∧ ∃ z, w = .double z) ∨ (i = .freturn ∧ t = .float ∧ ∃ z, w = .float z) ∨ (i = .areturn ∧ t.isReference = true ∧ w.isRef = true))
    (hd : decode c.code pc = .ok (i, 1)) (hk : cells ≤ k) (hn : slots ≤ n) (hQ : Q (some w) T.heap locs) : own_E p e below s Q k n T (mkF m pc Ls (w :: rest)) := by
  obtain ⟨fs, hr, hrun, hended, hW, hsame⟩ := X.leave (v := some w) (fun h => by rw [hret] at h; cases h) hlk
  exact ⟨_, _, retOut X hx hret hnr hi hd hr, hrun, hended, _, _, rfl, hQ, ⟨_, rfl⟩, hW, hsame.mono hk hn⟩
theorem own_retV (X : Stand p l e R s m args below meth c T locs cells slots) (hx : p.tables.exec = Jvm.exec) (hlk : meth.locks = false) {pc : Nat} {Ls : Array Slot} (hret : meth.sig.returnType = none)
    (hd : decode c.code pc = .ok (.return_, 1)) (hk : cells ≤ k) (hn : slots ≤ n) (hQ : Q none T.heap locs) : own_E p e below s Q k n T (mkF m pc Ls []) := by
  obtain ⟨fs, hr, hrun, hended, hW, hsame⟩ := X.leave (v := none) (fun _ => rfl) hlk
  exact ⟨_, _, X.returnOut hx hret hd hr, hrun, hended, _, _, rfl, hQ, ⟨_, rfl⟩, hW, hsame.mono hk hn⟩
end Own
def own_ushr (x y : Int32) : Int32 := (x.toUInt32 >>> (y &&& 31).toUInt32).toInt32
def own_ushrL (x : Int64) (y : Int32) : Int64 := (x.toUInt64 >>> (y &&& 0x3f).toInt64.toUInt64).toInt64
/-- a field of an old object, said by the case to hold an int -/
theorem own_fldI {Z : State} {args : Array Value} {t : Term} {C n d : String} {a : Addr} {k : Int32} (ev : t.eval args Z none [] Z = some (.ref a)) (h : (Cond.eq (.field t C n d) (.int k)).value args Z none Z [] = some true) : Fld Z Z.heap a C n d (.int k) := by
  obtain ⟨x, y, h1, h2, k1, k2⟩ := cmp_v (Or.inl h)
  obtain rfl : y = .int k := (Option.some.inj h2).symm
  obtain ⟨z, rfl⟩ : ∃ z, x = .int z := k2
  have e := gotT (Cond.eq_ints h1 h2) h
  subst e
  rw [fld_at ev] at h1
  exact Fld.start h1
theorem d1_0 : decode prog_6_method_1_code 0 = .ok (.aload_n 0, 1) := by decide +kernel
theorem d1_1 : decode prog_6_method_1_code 1 = .ok (.invokespecial 1, 3) := by decide +kernel
theorem d1_4 : decode prog_6_method_1_code 4 = .ok (.aload_n 0, 1) := by decide +kernel
theorem d1_5 : decode prog_6_method_1_code 5 = .ok (.dload_n 1, 1) := by decide +kernel
theorem d1_6 : decode prog_6_method_1_code 6 = .ok (.putfield 7, 3) := by decide +kernel
theorem d1_9 : decode prog_6_method_1_code 9 = .ok (.aload_n 0, 1) := by decide +kernel
theorem d1_10 : decode prog_6_method_1_code 10 = .ok (.dload_n 3, 1) := by decide +kernel
theorem d1_11 : decode prog_6_method_1_code 11 = .ok (.putfield 13, 3) := by decide +kernel
theorem d1_14 : decode prog_6_method_1_code 14 = .ok (.aload_n 0, 1) := by decide +kernel
theorem d1_15 : decode prog_6_method_1_code 15 = .ok (.iload 5, 2) := by decide +kernel
theorem d1_17 : decode prog_6_method_1_code 17 = .ok (.putfield 16, 3) := by decide +kernel
theorem d1_20 : decode prog_6_method_1_code 20 = .ok (.return_, 1) := by decide +kernel
theorem pn_1 : plainName "com/example/strategos/strategos/Result" = true := by first | (simp [plainName, overriddenIn]; done) | decide +kernel
theorem ef_1 (m : MethodId) (x0 : Addr) (x1 : UInt64) (x2 : UInt64) (x3 : Int32) : entryFrame m #[(.ref x0), (.double x1), (.double x2), (.int x3)] 6 = mkF m 0 #[.val (.ref x0), .val (.double x1), .second, .val (.double x2), .second, .val (.int x3)] [] := by first | (simp [entryFrame, mkF, argsToLocals, Value.category]; done) | rfl
theorem pd_1 : parseMethodDescriptor "(DDZ)V" = some ⟨[.double, .double, .boolean], none⟩ := by decide +kernel
def Q1 (Z : State) (a1 : Addr) (x y : UInt64) (h0 : Heap) (n0 : Nat) (v : Option Value) (h : Heap) (L : List Loc) : Prop := v = none ∧ Fr n0 L ∧ Keep h0 h [a1] ∧ Exa Z h a1 "com/example/strategos/strategos/Result" ∧ Fld Z h a1 "com/example/strategos/strategos/Result" "min" "D" (.double x) ∧ Fld Z h a1 "com/example/strategos/strategos/Result" "max" "D" (.double y)
set_option maxRecDepth 65536 in
set_option maxHeartbeats 40000000 in
theorem rm1 (l : Launch) (Z : State) (a0 : Array Value) (hw : ∀ d ∈ tables_1, d.before a0 Z = true) (ws : List Jvm.Cond) (a1 : Addr) (x y : UInt64) (b : Int32) (hb1 : narrow .boolean (.int b) = .int b) (hb2 : fits .boolean (.int b) = true) (h0 : Heap) (n0 : Nat) (Z0 : n0 ≤ h0.size) (E1 : Exa Z h0 a1 "com/example/strategos/strategos/Result") (F1 : Fld Z h0 a1 "com/example/strategos/strategos/Result" "min" "D" (.double 0)) (F2 : Fld Z h0 a1 "com/example/strategos/strategos/Result" "max" "D" (.double 0)) (F3 : Fld Z h0 a1 "com/example/strategos/strategos/Result" "number" "Z" (.int 0)) (g_a1 : n0 ≤ a1) :
    MetFree l (⟨"com/example/strategos/strategos/Result", "<init>", "(DDZ)V"⟩ : MethodName) (head1 (Jvm.Cond.code (⟨"com/example/strategos/strategos/Result", "<init>", "(DDZ)V"⟩ : MethodName) prog_6_method_1_code 6 none :: ws) ({ frames := 1, cells := 0, slots := 0, locals := 12 } : Room)) (fun a U => a = #[(.ref a1), (.double x), (.double y), (.int b)] ∧ Z.Warmed39 U.vm ∧ U.heap = h0) (fun _ _ _ _ _ => True) (fun _ U o U' => ∃ v L, o = .returned v ∧ Q1 Z a1 x y h0 n0 v U'.heap L ∧ FrameEnd U o U' L ({ frames := 1, cells := 0, slots := 0, locals := 12 } : Room).cells ({ frames := 1, cells := 0, slots := 0, locals := 12 } : Room).slots) := by
  refine MetFree.of_bodySF (plainFor_of_name pn_1) hisR ?_
  intro p e s m args below meth c s₁ Bd hml0 hP hK
  obtain ⟨rfl, hZ, hh⟩ := hP
  have hx := Bd.exec
  have hby := Bd.bytes
  have hlk := Bd.notSynchronized
  have hml : c.maxLocals = 6 := hml0
  have hown : s.vm.findClass "com/example/strategos/strategos/Result" = some m.cls := findClass_of_methodNamed Bd.named
  have hnm := (name_of_methodNamed Bd.named Bd.method).1
  have X0 : Stand p l e ({ frames := 1, cells := 0, slots := 0, locals := 12 } : Room) s m #[(.ref a1), (.double x), (.double y), (.int b)] below meth c s₁ [] 0 0 := Stand.of_body Bd
  have e0 : s₁.heap = h0 := by rw [← hh, Bd.state]; rfl
  have N0 := Fr.nil n0
  show own_E p e below s (Q1 Z a1 x y h0 n0) _ _ s₁ (entryFrame m #[(.ref a1), (.double x), (.double y), (.int b)] 6)
  rw [ef_1]
  show own_E _ _ _ _ _ _ _ s₁ (mkF m 0 #[.val (.ref a1), .val (.double x), .second, .val (.double y), .second, .val (.int b)] [])
  refine own_via (fun t => XS.aloadN X0.here hx rfl (hb hby d1_0) rfl rfl) ?_
  show own_E _ _ _ _ _ _ _ s₁ (mkF m 1 #[.val (.ref a1), .val (.double x), .second, .val (.double y), .second, .val (.int b)] [(.ref a1)])
  obtain ⟨T1, X1, e1, st1⟩ := initO X0 hx hZ hown (hw _ (List.mem_of_getElem? (i := 6) rfl)) (hw _ (List.mem_of_getElem? (i := 7) rfl)) (hw _ (List.mem_of_getElem? (i := 8) rfl)) e0 (g := (mkF m 1 #[.val (.ref a1), .val (.double x), .second, .val (.double y), .second, .val (.int b)] [(.ref a1)])) rfl (by rw [hml]; rfl) rfl (hb hby d1_1) (by decide) (W := 0) (by show 2 * 0 + _ ≤ _; exact Nat.le_of_eq rfl) (by decide)
  refine own_via st1 ?_
  show own_E _ _ _ _ _ _ _ T1 (mkF m 4 #[.val (.ref a1), .val (.double x), .second, .val (.double y), .second, .val (.int b)] [])
  refine own_via (fun t => XS.aloadN X1.here hx rfl (hb hby d1_4) rfl rfl) ?_
  show own_E _ _ _ _ _ _ _ T1 (mkF m 5 #[.val (.ref a1), .val (.double x), .second, .val (.double y), .second, .val (.int b)] [(.ref a1)])
  refine own_via (fun t => XS.dloadN X1.here hx rfl (hb hby d1_5) rfl) ?_
  show own_E _ _ _ _ _ _ _ T1 (mkF m 6 #[.val (.ref a1), .val (.double x), .second, .val (.double y), .second, .val (.int b)] [(.double x), (.ref a1)])
  obtain ⟨T2, h2, X2, e2, W2, st2⟩ := putF X1 hx hZ hown (host := "") (Or.inl (hw _ (List.mem_of_getElem? (i := 9) rfl))) Via.refl e1 F1 E1 (Or.inr ⟨(hw _ (List.mem_of_getElem? (i := 10) rfl)), rfl, hnm⟩) (hw _ (List.mem_of_getElem? (i := 1) rfl)) (ty := .double) (by decide) rfl rfl (g := (mkF m 6 #[.val (.ref a1), .val (.double x), .second, .val (.double y), .second, .val (.int b)] [(.double x), (.ref a1)])) rfl rfl (hb hby d1_6)
  have N2 := Fr.snoc X2 N0 g_a1
  refine own_via st2 ?_
  show own_E _ _ _ _ _ _ _ T2 (mkF m 9 #[.val (.ref a1), .val (.double x), .second, .val (.double y), .second, .val (.int b)] [])
  have K2 : Keep h0 h2 [a1] := (Keep.refl _ _).wr W2 (Or.inl (List.mem_of_getElem? (i := 0) rfl))
  have E2 := E1.wr W2
  have Fa := F1.same W2
  have F2a := F2.other W2 (Or.inr (slot_ne (Or.inr (hw _ (List.mem_of_getElem? (i := 12) rfl))) (Or.inr (hw _ (List.mem_of_getElem? (i := 10) rfl))) (by decide) (t := .double) (t' := .double) (by decide) (by decide)))
  have F3a := F3.other W2 (Or.inr (slot_ne (Or.inr (hw _ (List.mem_of_getElem? (i := 14) rfl))) (Or.inr (hw _ (List.mem_of_getElem? (i := 10) rfl))) (by decide) (t := .boolean) (t' := .double) (by decide) (by decide)))
  refine own_via (fun t => XS.aloadN X2.here hx rfl (hb hby d1_9) rfl rfl) ?_
  show own_E _ _ _ _ _ _ _ T2 (mkF m 10 #[.val (.ref a1), .val (.double x), .second, .val (.double y), .second, .val (.int b)] [(.ref a1)])
  refine own_via (fun t => XS.dloadN X2.here hx rfl (hb hby d1_10) rfl) ?_
  show own_E _ _ _ _ _ _ _ T2 (mkF m 11 #[.val (.ref a1), .val (.double x), .second, .val (.double y), .second, .val (.int b)] [(.double y), (.ref a1)])
  obtain ⟨T3, h3, X3, e3, W3, st3⟩ := putF X2 hx hZ hown (host := "") (Or.inl (hw _ (List.mem_of_getElem? (i := 11) rfl))) Via.refl e2 F2a E2 (Or.inr ⟨(hw _ (List.mem_of_getElem? (i := 12) rfl)), rfl, hnm⟩) (hw _ (List.mem_of_getElem? (i := 1) rfl)) (ty := .double) (by decide) rfl rfl (g := (mkF m 11 #[.val (.ref a1), .val (.double x), .second, .val (.double y), .second, .val (.int b)] [(.double y), (.ref a1)])) rfl rfl (hb hby d1_11)
  have N3 := Fr.snoc X3 N2 g_a1
  refine own_via st3 ?_
  show own_E _ _ _ _ _ _ _ T3 (mkF m 14 #[.val (.ref a1), .val (.double x), .second, .val (.double y), .second, .val (.int b)] [])
  have K3 := K2.wr W3 (Or.inl (List.mem_of_getElem? (i := 0) rfl))
  have E3 := E2.wr W3
  have Fb := F2a.same W3
  have Fa2 := Fa.other W3 (Or.inr (slot_ne (Or.inr (hw _ (List.mem_of_getElem? (i := 10) rfl))) (Or.inr (hw _ (List.mem_of_getElem? (i := 12) rfl))) (by decide) (t := .double) (t' := .double) (by decide) (by decide)))
  have F3b := F3a.other W3 (Or.inr (slot_ne (Or.inr (hw _ (List.mem_of_getElem? (i := 14) rfl))) (Or.inr (hw _ (List.mem_of_getElem? (i := 12) rfl))) (by decide) (t := .boolean) (t' := .double) (by decide) (by decide)))
  refine own_via (fun t => XS.aloadN X3.here hx rfl (hb hby d1_14) rfl rfl) ?_
  show own_E _ _ _ _ _ _ _ T3 (mkF m 15 #[.val (.ref a1), .val (.double x), .second, .val (.double y), .second, .val (.int b)] [(.ref a1)])
  refine own_via (fun t => XS.iload X3.here hx rfl (hb hby d1_15) rfl) ?_
  show own_E _ _ _ _ _ _ _ T3 (mkF m 17 #[.val (.ref a1), .val (.double x), .second, .val (.double y), .second, .val (.int b)] [(.int b), (.ref a1)])
  obtain ⟨T4, h4, X4, e4, W4, st4⟩ := putF X3 hx hZ hown (host := "") (Or.inl (hw _ (List.mem_of_getElem? (i := 13) rfl))) Via.refl e3 F3b E3 (Or.inr ⟨(hw _ (List.mem_of_getElem? (i := 14) rfl)), rfl, hnm⟩) (hw _ (List.mem_of_getElem? (i := 1) rfl)) (ty := .boolean) (by decide) hb1 hb2 (g := (mkF m 17 #[.val (.ref a1), .val (.double x), .second, .val (.double y), .second, .val (.int b)] [(.int b), (.ref a1)])) rfl rfl (hb hby d1_17)
  have N4 := Fr.snoc X4 N3 g_a1
  refine own_via st4 ?_
  show own_E _ _ _ _ _ _ _ T4 (mkF m 20 #[.val (.ref a1), .val (.double x), .second, .val (.double y), .second, .val (.int b)] [])
  have K4 := K3.wr W4 (Or.inl (List.mem_of_getElem? (i := 0) rfl))
  refine own_retV X4 hx hlk Bd.returns (hb hby d1_20) (Nat.le_refl _) (Nat.le_refl _) ?_
  rw [e4]
  exact ⟨rfl, N4, K4, E3.wr W4, Fa2.other W4 (Or.inr (slot_ne (Or.inr (hw _ (List.mem_of_getElem? (i := 10) rfl))) (Or.inr (hw _ (List.mem_of_getElem? (i := 14) rfl))) (by decide) (t := .double) (t' := .boolean) (by decide) (by decide))), Fb.other W4 (Or.inr (slot_ne (Or.inr (hw _ (List.mem_of_getElem? (i := 12) rfl))) (Or.inr (hw _ (List.mem_of_getElem? (i := 14) rfl))) (by decide) (t := .double) (t' := .boolean) (by decide) (by decide)))⟩
theorem d2_0 : decode prog_6_method_5_code 0 = .ok (.aload_n 0, 1) := by decide +kernel
theorem d2_1 : decode prog_6_method_5_code 1 = .ok (.getfield 7, 3) := by decide +kernel
theorem d2_4 : decode prog_6_method_5_code 4 = .ok (.aload_n 0, 1) := by decide +kernel
theorem d2_5 : decode prog_6_method_5_code 5 = .ok (.getfield 13, 3) := by decide +kernel
theorem d2_8 : decode prog_6_method_5_code 8 = .ok (.dcmp .l, 1) := by decide +kernel
theorem d2_9 : decode prog_6_method_5_code 9 = .ok (.ifCond .ne 7, 3) := by decide +kernel
theorem d2_12 : decode prog_6_method_5_code 12 = .ok (.iconst 1, 1) := by decide +kernel
theorem d2_13 : decode prog_6_method_5_code 13 = .ok (.goto 4, 3) := by decide +kernel
theorem d2_16 : decode prog_6_method_5_code 16 = .ok (.iconst 0, 1) := by decide +kernel
theorem d2_17 : decode prog_6_method_5_code 17 = .ok (.ireturn, 1) := by decide +kernel
theorem pn_2 : plainName "com/example/strategos/strategos/Result" = true := by first | (simp [plainName, overriddenIn]; done) | decide +kernel
theorem ef_2 (m : MethodId) (x0 : Addr) : entryFrame m #[(.ref x0)] 1 = mkF m 0 #[.val (.ref x0)] [] := by first | (simp [entryFrame, mkF, argsToLocals, Value.category]; done) | rfl
theorem pd_2 : parseMethodDescriptor "()Z" = some ⟨[], some .boolean⟩ := by decide +kernel
def own_sg (x y : Int32) : Int32 := if x = y then 1 else 0
theorem own_b53 (x : Int32) : B53 x.toInt64 := by
  have h := rng32 x
  have e := c_i2l x
  exact ⟨by omega, by omega⟩
theorem own_cmp (x y : Int32) : (cmpValue (FP.dcmp (FP.l2d x.toInt64) (FP.l2d y.toInt64)) .l = 0) ↔ x = y := by
  rw [dcmpV_w (own_b53 x) (own_b53 y), lw_eq, ← Int64.toInt_inj, c_i2l, c_i2l, Int32.toInt_inj]
def Q2 (x y : Int32) (h0 : Heap) (n0 : Nat) (v : Option Value) (h : Heap) (L : List Loc) : Prop := v = some (.int (own_sg x y)) ∧ Fr n0 L ∧ h = h0
set_option maxRecDepth 65536 in
set_option maxHeartbeats 40000000 in
theorem rm2 (l : Launch) (Z : State) (a0 : Array Value) (hw : ∀ d ∈ tables_1, d.before a0 Z = true) (ws : List Jvm.Cond) (a1 : Addr) (x y : Int32) (h0 : Heap) (n0 : Nat) (Z0 : n0 ≤ h0.size) (F1 : Fld Z h0 a1 "com/example/strategos/strategos/Result" "min" "D" (.double (FP.l2d x.toInt64))) (F2 : Fld Z h0 a1 "com/example/strategos/strategos/Result" "max" "D" (.double (FP.l2d y.toInt64))) :
    MetFree l (⟨"com/example/strategos/strategos/Result", "isSingle", "()Z"⟩ : MethodName) (head1 (Jvm.Cond.code (⟨"com/example/strategos/strategos/Result", "isSingle", "()Z"⟩ : MethodName) prog_6_method_5_code 1 (some .boolean) :: ws) ({ frames := 0, cells := 0, slots := 0, locals := 0 } : Room)) (fun a U => a = #[(.ref a1)] ∧ Z.Warmed39 U.vm ∧ U.heap = h0) (fun _ _ _ _ _ => True) (fun _ U o U' => ∃ v L, o = .returned v ∧ Q2 x y h0 n0 v U'.heap L ∧ FrameEnd U o U' L ({ frames := 0, cells := 0, slots := 0, locals := 0 } : Room).cells ({ frames := 0, cells := 0, slots := 0, locals := 0 } : Room).slots) := by
  refine MetFree.of_bodySF (plainFor_of_name pn_2) hisR ?_
  intro p e s m args below meth c s₁ Bd hml0 hP hK
  obtain ⟨rfl, hZ, hh⟩ := hP
  have hx := Bd.exec
  have hby := Bd.bytes
  have hlk := Bd.notSynchronized
  have hml : c.maxLocals = 1 := hml0
  have hown : s.vm.findClass "com/example/strategos/strategos/Result" = some m.cls := findClass_of_methodNamed Bd.named
  have hnm := (name_of_methodNamed Bd.named Bd.method).1
  have X0 : Stand p l e ({ frames := 0, cells := 0, slots := 0, locals := 0 } : Room) s m #[(.ref a1)] below meth c s₁ [] 0 0 := Stand.of_body Bd
  have e0 : s₁.heap = h0 := by rw [← hh, Bd.state]; rfl
  have N0 := Fr.nil n0
  show own_E p e below s (Q2 x y h0 n0) _ _ s₁ (entryFrame m #[(.ref a1)] 1)
  rw [ef_2]
  show own_E _ _ _ _ _ _ _ s₁ (mkF m 0 #[.val (.ref a1)] [])
  refine own_via (fun t => XS.aloadN X0.here hx rfl (hb hby d2_0) rfl rfl) ?_
  show own_E _ _ _ _ _ _ _ s₁ (mkF m 1 #[.val (.ref a1)] [(.ref a1)])
  obtain ⟨T5, X5, e5, st5⟩ := getF X0 hx hZ hown (host := "") (Or.inl (hw _ (List.mem_of_getElem? (i := 9) rfl))) Via.refl e0 F1 (g := (mkF m 1 #[.val (.ref a1)] [(.ref a1)])) rfl rfl (hb hby d2_1)
  refine own_via st5 ?_
  show own_E _ _ _ _ _ _ _ T5 (mkF m 4 #[.val (.ref a1)] [(.double (FP.l2d x.toInt64))])
  refine own_via (fun t => XS.aloadN X5.here hx rfl (hb hby d2_4) rfl rfl) ?_
  show own_E _ _ _ _ _ _ _ T5 (mkF m 5 #[.val (.ref a1)] [(.ref a1), (.double (FP.l2d x.toInt64))])
  obtain ⟨T6, X6, e6, st6⟩ := getF X5 hx hZ hown (host := "") (Or.inl (hw _ (List.mem_of_getElem? (i := 11) rfl))) Via.refl e5 F2 (g := (mkF m 5 #[.val (.ref a1)] [(.ref a1), (.double (FP.l2d x.toInt64))])) rfl rfl (hb hby d2_5)
  refine own_via st6 ?_
  show own_E _ _ _ _ _ _ _ T6 (mkF m 8 #[.val (.ref a1)] [(.double (FP.l2d y.toInt64)), (.double (FP.l2d x.toInt64))])
  refine own_via (fun t => XS.dcmpS X6.here hx rfl (hb hby d2_8) rfl rfl) ?_
  show own_E _ _ _ _ _ _ _ T6 (mkF m 9 #[.val (.ref a1)] [(.int (cmpValue (FP.dcmp (FP.l2d x.toInt64) (FP.l2d y.toInt64)) .l))])
  by_cases c9_7 : (cmpValue (FP.dcmp (FP.l2d x.toInt64) (FP.l2d y.toInt64)) .l) = (0 : Int32)
  · refine own_via (fun t => XS.ifNo X6.here hx rfl (hb hby d2_9) rfl ((if0 _ _).trans (teq c9_7).2)) ?_
    show own_E _ _ _ _ _ _ _ T6 (mkF m 12 #[.val (.ref a1)] [])
    refine own_via (fun t => XS.iconst X6.here hx rfl (hb hby d2_12)) ?_
    show own_E _ _ _ _ _ _ _ T6 (mkF m 13 #[.val (.ref a1)] [(.int (1 : Int32))])
    refine own_via (fun t => XS.goto X6.here hx rfl (pc0 := 13) (pc' := 17) rfl (hb hby d2_13) (by decide) (by decide)) ?_
    show own_E _ _ _ _ _ _ _ T6 (mkF m 17 #[.val (.ref a1)] [(.int (1 : Int32))])
    refine own_retN X6 hx hlk Bd.returns (Or.inl rfl) (hb hby d2_17) (Nat.le_refl _) (Nat.le_refl _) ⟨by rw [own_cmp] at c9_7; simp only [own_sg, if_pos c9_7]; rfl, N0, e6⟩
  · refine own_via (fun t => XS.ifYes X6.here hx rfl (pc0 := 9) (pc' := 16) rfl (hb hby d2_9) rfl ((if0 _ _).trans (feq c9_7).2) (by decide) (by decide)) ?_
    show own_E _ _ _ _ _ _ _ T6 (mkF m 16 #[.val (.ref a1)] [])
    refine own_via (fun t => XS.iconst X6.here hx rfl (hb hby d2_16)) ?_
    show own_E _ _ _ _ _ _ _ T6 (mkF m 17 #[.val (.ref a1)] [(.int (0 : Int32))])
    refine own_retN X6 hx hlk Bd.returns (Or.inl rfl) (hb hby d2_17) (Nat.le_refl _) (Nat.le_refl _) ⟨by rw [own_cmp] at c9_7; simp only [own_sg, if_neg c9_7]; rfl, N0, e6⟩
theorem pn_0 : plainName "com/example/strategos/strategos/ResultIsSinglePinLaw" = true := by first | (simp [plainName, overriddenIn]; done) | decide +kernel
theorem ef_0 (m : MethodId) (x0 : Int32) (x1 : Int32) (x2 : Int32) : entryFrame m #[(.int x0), (.int x1), (.int x2)] maxLocals = mkF m 0 #[.val (.int x0), .val (.int x1), .val (.int x2), .unset, .unset, .unset, .unset] [] := by first | (simp [entryFrame, mkF, argsToLocals, Value.category, maxLocals]; done) | rfl
def Q0 (n0 : Nat) (v : Option Value) (h : Heap) (L : List Loc) : Prop := v = some (.int 1) ∧ Fr n0 L
set_option maxRecDepth 65536 in
set_option maxHeartbeats 40000000 in
theorem rm0 (l : Launch) (Z : State) (a0 : Array Value) (hw : ∀ d ∈ tables_1, d.before a0 Z = true) (ws : List Jvm.Cond) (p1 p2 p3 : Int32) (h0 : Heap) (n0 : Nat) (Z0 : n0 ≤ h0.size) :
    MetFree l x (head1 (Jvm.Cond.code x code maxLocals ret :: ws) room_1) (fun a U => a = #[(.int p1), (.int p2), (.int p3)] ∧ Z.Warmed39 U.vm ∧ U.heap = h0) (fun _ _ _ _ _ => True) (fun _ U o U' => ∃ v L, o = .returned v ∧ Q0 n0 v U'.heap L ∧ FrameEnd U o U' L 16 128) := by
  refine MetFree.of_bodySF (plainFor_of_name pn_0) hisR ?_
  intro p e s m args below meth c s₁ Bd hml0 hP hK
  obtain ⟨rfl, hZ, hh⟩ := hP
  have hx := Bd.exec
  have hby := Bd.bytes
  have hlk := Bd.notSynchronized
  have hml : c.maxLocals = 7 := hml0
  have hown : s.vm.findClass "com/example/strategos/strategos/ResultIsSinglePinLaw" = some m.cls := findClass_of_methodNamed Bd.named
  have hnm := (name_of_methodNamed Bd.named Bd.method).1
  have X0 : Stand p l e room_1 s m #[(.int p1), (.int p2), (.int p3)] below meth c s₁ [] 0 0 := Stand.of_body Bd
  have e0 : s₁.heap = h0 := by rw [← hh, Bd.state]; rfl
  have N0 := Fr.nil n0
  show own_E p e below s (Q0 n0) _ _ s₁ (entryFrame m #[(.int p1), (.int p2), (.int p3)] maxLocals)
  rw [ef_0]
  show own_E _ _ _ _ _ _ _ s₁ (mkF m 0 #[.val (.int p1), .val (.int p2), .val (.int p3), .unset, .unset, .unset, .unset] [])
  refine own_via (fun t => XS.iloadN X0.here hx rfl (hb hby at_0) rfl) ?_
  show own_E _ _ _ _ _ _ _ s₁ (mkF m 1 #[.val (.int p1), .val (.int p2), .val (.int p3), .unset, .unset, .unset, .unset] [(.int p3)])
  refine own_via (fun t => XS.iconst X0.here hx rfl (hb hby at_1)) ?_
  show own_E _ _ _ _ _ _ _ s₁ (mkF m 2 #[.val (.int p1), .val (.int p2), .val (.int p3), .unset, .unset, .unset, .unset] [(.int (1 : Int32)), (.int p3)])
  refine own_via (fun t => XS.iand X0.here hx rfl (hb hby at_2) rfl) ?_
  show own_E _ _ _ _ _ _ _ s₁ (mkF m 3 #[.val (.int p1), .val (.int p2), .val (.int p3), .unset, .unset, .unset, .unset] [(.int (p3 &&& (1 : Int32)))])
  by_cases c3_8 : (p3 &&& (1 : Int32)) = (0 : Int32)
  · refine own_via (fun t => XS.ifYes X0.here hx rfl (pc0 := 3) (pc' := 10) rfl (hb hby at_3) rfl ((if0 _ _).trans (teq c3_8).1) (by decide) (by decide)) ?_
    show own_E _ _ _ _ _ _ _ s₁ (mkF m 10 #[.val (.int p1), .val (.int p2), .val (.int p3), .unset, .unset, .unset, .unset] [])
    refine own_via (fun t => XS.iconst X0.here hx rfl (hb hby at_10)) ?_
    show own_E _ _ _ _ _ _ _ s₁ (mkF m 11 #[.val (.int p1), .val (.int p2), .val (.int p3), .unset, .unset, .unset, .unset] [(.int (0 : Int32))])
    refine own_via (fun t => XS.istoreN X0.here hx rfl (hb hby at_11) rfl (l' := #[.val (.int p1), .val (.int p2), .val (.int p3), .val (.int (0 : Int32)), .unset, .unset, .unset]) rfl) ?_
    show own_E _ _ _ _ _ _ _ s₁ (mkF m 12 #[.val (.int p1), .val (.int p2), .val (.int p3), .val (.int (0 : Int32)), .unset, .unset, .unset] [])
    refine own_via (fun t => XS.iloadN X0.here hx rfl (hb hby at_12) rfl) ?_
    show own_E _ _ _ _ _ _ _ s₁ (mkF m 13 #[.val (.int p1), .val (.int p2), .val (.int p3), .val (.int (0 : Int32)), .unset, .unset, .unset] [(.int p3)])
    refine own_via (fun t => XS.iconst X0.here hx rfl (hb hby at_13)) ?_
    show own_E _ _ _ _ _ _ _ s₁ (mkF m 14 #[.val (.int p1), .val (.int p2), .val (.int p3), .val (.int (0 : Int32)), .unset, .unset, .unset] [(.int (2 : Int32)), (.int p3)])
    refine own_via (fun t => XS.iand X0.here hx rfl (hb hby at_14) rfl) ?_
    show own_E _ _ _ _ _ _ _ s₁ (mkF m 15 #[.val (.int p1), .val (.int p2), .val (.int p3), .val (.int (0 : Int32)), .unset, .unset, .unset] [(.int (p3 &&& (2 : Int32)))])
    by_cases c15_9 : (p3 &&& (2 : Int32)) = (0 : Int32)
    · refine own_via (fun t => XS.ifYes X0.here hx rfl (pc0 := 15) (pc' := 22) rfl (hb hby at_15) rfl ((if0 _ _).trans (teq c15_9).1) (by decide) (by decide)) ?_
      show own_E _ _ _ _ _ _ _ s₁ (mkF m 22 #[.val (.int p1), .val (.int p2), .val (.int p3), .val (.int (0 : Int32)), .unset, .unset, .unset] [])
      refine own_via (fun t => XS.iloadN X0.here hx rfl (hb hby at_22) rfl) ?_
      show own_E _ _ _ _ _ _ _ s₁ (mkF m 23 #[.val (.int p1), .val (.int p2), .val (.int p3), .val (.int (0 : Int32)), .unset, .unset, .unset] [(.int p2)])
      refine own_via (fun t => XS.istore X0.here hx rfl (hb hby at_23) rfl (l' := #[.val (.int p1), .val (.int p2), .val (.int p3), .val (.int (0 : Int32)), .val (.int p2), .unset, .unset]) rfl) ?_
      show own_E _ _ _ _ _ _ _ s₁ (mkF m 25 #[.val (.int p1), .val (.int p2), .val (.int p3), .val (.int (0 : Int32)), .val (.int p2), .unset, .unset] [])
      obtain ⟨T10, h10, X10, e10, E10, A10, D10, -, st10⟩ := newO X0 hx hZ hown (hw _ (List.mem_of_getElem? (i := 0) rfl)) (hw _ (List.mem_of_getElem? (i := 1) rfl)) (hw _ (List.mem_of_getElem? (i := 2) rfl)) e0 (g := (mkF m 25 #[.val (.int p1), .val (.int p2), .val (.int p3), .val (.int (0 : Int32)), .val (.int p2), .unset, .unset] [])) rfl (hb hby at_25) (by decide) (by decide)
      obtain ⟨b10, g10⟩ : ∃ z, z = h0.size := ⟨_, rfl⟩
      rw [← g10] at A10 D10 st10
      have gz_b10 : n0 ≤ b10 := Nat.le_trans Z0 (Nat.le_of_eq g10.symm)
      have Z10 : n0 ≤ h10.size := Nat.le_trans Z0 E10.1
      refine own_via st10 ?_
      show own_E _ _ _ _ _ _ _ T10 (mkF m 28 #[.val (.int p1), .val (.int p2), .val (.int p3), .val (.int (0 : Int32)), .val (.int p2), .unset, .unset] [(.ref b10)])
      have F1_10 : Fld Z h10 b10 "com/example/strategos/strategos/Result" "min" "D" (.double 0) := D10 (Or.inr (hw _ (List.mem_of_getElem? (i := 10) rfl))) (ty := .double) (by decide)
      have F2_10 : Fld Z h10 b10 "com/example/strategos/strategos/Result" "max" "D" (.double 0) := D10 (Or.inr (hw _ (List.mem_of_getElem? (i := 12) rfl))) (ty := .double) (by decide)
      have F3_10 : Fld Z h10 b10 "com/example/strategos/strategos/Result" "number" "Z" (.int 0) := D10 (Or.inr (hw _ (List.mem_of_getElem? (i := 14) rfl))) (ty := .boolean) (by decide)
      refine own_via (fun t => XS.dup X10.here hx rfl (hb hby at_28) rfl rfl) ?_
      show own_E _ _ _ _ _ _ _ T10 (mkF m 29 #[.val (.int p1), .val (.int p2), .val (.int p3), .val (.int (0 : Int32)), .val (.int p2), .unset, .unset] [(.ref b10), (.ref b10)])
      refine own_via (fun t => XS.iloadN X10.here hx rfl (hb hby at_29) rfl) ?_
      show own_E _ _ _ _ _ _ _ T10 (mkF m 30 #[.val (.int p1), .val (.int p2), .val (.int p3), .val (.int (0 : Int32)), .val (.int p2), .unset, .unset] [(.int p1), (.ref b10), (.ref b10)])
      refine own_via (fun t => XS.i2dS X10.here hx rfl (hb hby at_30) rfl (i2d_w _)) ?_
      show own_E _ _ _ _ _ _ _ T10 (mkF m 31 #[.val (.int p1), .val (.int p2), .val (.int p3), .val (.int (0 : Int32)), .val (.int p2), .unset, .unset] [(.double (FP.l2d p1.toInt64)), (.ref b10), (.ref b10)])
      refine own_via (fun t => XS.iload X10.here hx rfl (hb hby at_31) rfl) ?_
      show own_E _ _ _ _ _ _ _ T10 (mkF m 33 #[.val (.int p1), .val (.int p2), .val (.int p3), .val (.int (0 : Int32)), .val (.int p2), .unset, .unset] [(.int p2), (.double (FP.l2d p1.toInt64)), (.ref b10), (.ref b10)])
      refine own_via (fun t => XS.i2dS X10.here hx rfl (hb hby at_33) rfl (i2d_w _)) ?_
      show own_E _ _ _ _ _ _ _ T10 (mkF m 34 #[.val (.int p1), .val (.int p2), .val (.int p3), .val (.int (0 : Int32)), .val (.int p2), .unset, .unset] [(.double (FP.l2d p2.toInt64)), (.double (FP.l2d p1.toInt64)), (.ref b10), (.ref b10)])
      refine own_via (fun t => XS.iloadN X10.here hx rfl (hb hby at_34) rfl) ?_
      show own_E _ _ _ _ _ _ _ T10 (mkF m 35 #[.val (.int p1), .val (.int p2), .val (.int p3), .val (.int (0 : Int32)), .val (.int p2), .unset, .unset] [(.int (0 : Int32)), (.double (FP.l2d p2.toInt64)), (.double (FP.l2d p1.toInt64)), (.ref b10), (.ref b10)])
      obtain ⟨_, _, ⟨T11, L11, k11, n11⟩, -, X11, ⟨Lc11, hQ11, l11, y11, z11⟩, st11⟩ := X10.specialBack hx (y := (⟨"com/example/strategos/strategos/Result", "<init>", "(DDZ)V"⟩ : MethodName)) rfl hown (mvT hZ (hw _ (List.mem_of_getElem? (i := 3) rfl))) (mvT hZ (hw _ (List.mem_of_getElem? (i := 4) rfl))) (mvT hZ (hw _ (List.mem_of_getElem? (i := 5) rfl))) (by decide) (backOf (W := 1) (rm1 l Z a0 hw [] b10 _ _ (0 : Int32) rfl rfl h10 n0 Z10 A10 F1_10 F2_10 F3_10 gz_b10) hZ (hw _ (List.mem_of_getElem? (i := 5) rfl)) (hw _ (List.mem_of_getElem? (i := 2) rfl)) (by decide) (by decide)) (g := (mkF m 35 #[.val (.int p1), .val (.int p2), .val (.int p3), .val (.int (0 : Int32)), .val (.int p2), .unset, .unset] [(.int (0 : Int32)), (.double (FP.l2d p2.toInt64)), (.double (FP.l2d p1.toInt64)), (.ref b10), (.ref b10)])) rfl (by rw [hml]; rfl) (Steps.refl _) (a := b10) (argsL := [(.double (FP.l2d p1.toInt64)), (.double (FP.l2d p2.toInt64)), (.int (0 : Int32))]) (rest := [(.ref b10)]) (lenOf pd_1 rfl) rfl (by show 2 * 0 + _ ≤ _; exact Nat.le_of_eq rfl) (hb hby at_35) (fun _ _ => ⟨rfl, e10, (by decide : 1 + 0 ≤ _), (by decide : 3 + 0 ≤ _)⟩)
      dsimp only [Pt.U, Pt.locs, Pt.cells, Pt.slots] at X11 l11 y11 z11 st11 hQ11
      subst l11 y11 z11
      obtain ⟨rfl, N11, K11, Ea11, Fa11, Fb11⟩ := hQ11
      refine own_thru st11 ?_
      show own_E _ _ _ _ _ _ _ T11 (mkF m 38 #[.val (.int p1), .val (.int p2), .val (.int p3), .val (.int (0 : Int32)), .val (.int p2), .unset, .unset] [(.ref b10)])
      have NN11 := Fr.app N0 N11
      have ZZ11 : n0 ≤ T11.heap.size := Nat.le_trans Z10 K11.1
      refine own_via (fun t => XS.astore X11.here hx rfl (hb hby at_38) rfl rfl (l' := #[.val (.int p1), .val (.int p2), .val (.int p3), .val (.int (0 : Int32)), .val (.int p2), .val (.ref b10), .unset]) rfl) ?_
      show own_E _ _ _ _ _ _ _ T11 (mkF m 40 #[.val (.int p1), .val (.int p2), .val (.int p3), .val (.int (0 : Int32)), .val (.int p2), .val (.ref b10), .unset] [])
      refine own_via (fun t => XS.iloadN X11.here hx rfl (hb hby at_40) rfl) ?_
      show own_E _ _ _ _ _ _ _ T11 (mkF m 41 #[.val (.int p1), .val (.int p2), .val (.int p3), .val (.int (0 : Int32)), .val (.int p2), .val (.ref b10), .unset] [(.int p1)])
      refine own_via (fun t => XS.iload X11.here hx rfl (hb hby at_41) rfl) ?_
      show own_E _ _ _ _ _ _ _ T11 (mkF m 43 #[.val (.int p1), .val (.int p2), .val (.int p3), .val (.int (0 : Int32)), .val (.int p2), .val (.ref b10), .unset] [(.int p2), (.int p1)])
      by_cases c43_12 : p1 = p2
      · refine own_via (fun t => XS.icmpNo X11.here hx rfl (hb hby at_43) rfl (teq c43_12).2) ?_
        show own_E _ _ _ _ _ _ _ T11 (mkF m 46 #[.val (.int p1), .val (.int p2), .val (.int p3), .val (.int (0 : Int32)), .val (.int p2), .val (.ref b10), .unset] [])
        refine own_via (fun t => XS.iconst X11.here hx rfl (hb hby at_46)) ?_
        show own_E _ _ _ _ _ _ _ T11 (mkF m 47 #[.val (.int p1), .val (.int p2), .val (.int p3), .val (.int (0 : Int32)), .val (.int p2), .val (.ref b10), .unset] [(.int (1 : Int32))])
        refine own_via (fun t => XS.goto X11.here hx rfl (pc0 := 47) (pc' := 51) rfl (hb hby at_47) (by decide) (by decide)) ?_
        show own_E _ _ _ _ _ _ _ T11 (mkF m 51 #[.val (.int p1), .val (.int p2), .val (.int p3), .val (.int (0 : Int32)), .val (.int p2), .val (.ref b10), .unset] [(.int (1 : Int32))])
        refine own_via (fun t => XS.istore X11.here hx rfl (hb hby at_51) rfl (l' := #[.val (.int p1), .val (.int p2), .val (.int p3), .val (.int (0 : Int32)), .val (.int p2), .val (.ref b10), .val (.int (1 : Int32))]) rfl) ?_
        show own_E _ _ _ _ _ _ _ T11 (mkF m 53 #[.val (.int p1), .val (.int p2), .val (.int p3), .val (.int (0 : Int32)), .val (.int p2), .val (.ref b10), .val (.int (1 : Int32))] [])
        refine own_via (fun t => XS.aload X11.here hx rfl (hb hby at_53) rfl rfl) ?_
        show own_E _ _ _ _ _ _ _ T11 (mkF m 55 #[.val (.int p1), .val (.int p2), .val (.int p3), .val (.int (0 : Int32)), .val (.int p2), .val (.ref b10), .val (.int (1 : Int32))] [(.ref b10)])
        obtain ⟨cq13, kq13, q13a, q13b, q13c⟩ := isOf hZ (rfl : T11.heap = _) Ea11
        obtain ⟨_, _, ⟨T13, L13, k13, n13⟩, -, X13, ⟨Lc13, hQ13, l13, y13, z13⟩, st13⟩ := X11.virtualBack hx (y := (⟨"com/example/strategos/strategos/Result", "isSingle", "()Z"⟩ : MethodName)) (z := (⟨"com/example/strategos/strategos/Result", "isSingle", "()Z"⟩ : MethodName)) hown (mvT hZ (hw _ (List.mem_of_getElem? (i := 15) rfl))) (mvT hZ (hw _ (List.mem_of_getElem? (i := 16) rfl))) (notFace_of_selects (args := #[]) (mvT hZ (hw _ (List.mem_of_getElem? (i := 18) rfl)))) (mvT hZ (hw _ (List.mem_of_getElem? (i := 18) rfl))) (mvT hZ (hw _ (List.mem_of_getElem? (i := 17) rfl))) (by decide) (backOf (W := 0) (rm2 l Z a0 hw [] b10 p1 p2 T11.heap n0 ZZ11 Fa11 Fb11) hZ (hw _ (List.mem_of_getElem? (i := 19) rfl)) (hw _ (List.mem_of_getElem? (i := 2) rfl)) (by decide) (by decide)) q13a q13c (g := (mkF m 55 #[.val (.int p1), .val (.int p2), .val (.int p3), .val (.int (0 : Int32)), .val (.int p2), .val (.ref b10), .val (.int (1 : Int32))] [(.ref b10)])) rfl (by rw [hml]; rfl) (Steps.refl _) (argsL := []) (rest := []) (lenOf pd_2 rfl) rfl (by show 2 * 0 + _ ≤ _; exact Nat.le_of_eq rfl) (hb hby at_55) (fun _ _ => ⟨rfl, (rfl : T11.heap = _), (by decide : 1 + 0 ≤ _), (by decide : 3 + 0 ≤ _)⟩)
        dsimp only [Pt.U, Pt.locs, Pt.cells, Pt.slots] at X13 l13 y13 z13 st13 hQ13
        subst l13 y13 z13
        obtain ⟨rfl, N13, e13⟩ := hQ13
        refine own_thru st13 ?_
        show own_E _ _ _ _ _ _ _ T13 (mkF m 58 #[.val (.int p1), .val (.int p2), .val (.int p3), .val (.int (0 : Int32)), .val (.int p2), .val (.ref b10), .val (.int (1 : Int32))] [(.int (own_sg p1 p2))])
        rw [show own_sg p1 p2 = 1 from if_pos c43_12]
        show own_E _ _ _ _ _ _ _ T13 (mkF m 58 #[.val (.int p1), .val (.int p2), .val (.int p3), .val (.int (0 : Int32)), .val (.int p2), .val (.ref b10), .val (.int (1 : Int32))] [(.int (1 : Int32))])
        refine own_via (fun t => XS.iload X13.here hx rfl (hb hby at_58) rfl) ?_
        show own_E _ _ _ _ _ _ _ T13 (mkF m 60 #[.val (.int p1), .val (.int p2), .val (.int p3), .val (.int (0 : Int32)), .val (.int p2), .val (.ref b10), .val (.int (1 : Int32))] [(.int (1 : Int32)), (.int (1 : Int32))])
        refine own_via (fun t => XS.icmpNo X13.here hx rfl (hb hby at_60) rfl (teq (by decide : (1 : Int32) = (1 : Int32))).2) ?_
        show own_E _ _ _ _ _ _ _ T13 (mkF m 63 #[.val (.int p1), .val (.int p2), .val (.int p3), .val (.int (0 : Int32)), .val (.int p2), .val (.ref b10), .val (.int (1 : Int32))] [])
        refine own_via (fun t => XS.iconst X13.here hx rfl (hb hby at_63)) ?_
        show own_E _ _ _ _ _ _ _ T13 (mkF m 64 #[.val (.int p1), .val (.int p2), .val (.int p3), .val (.int (0 : Int32)), .val (.int p2), .val (.ref b10), .val (.int (1 : Int32))] [(.int (1 : Int32))])
        refine own_via (fun t => XS.goto X13.here hx rfl (pc0 := 64) (pc' := 68) rfl (hb hby at_64) (by decide) (by decide)) ?_
        show own_E _ _ _ _ _ _ _ T13 (mkF m 68 #[.val (.int p1), .val (.int p2), .val (.int p3), .val (.int (0 : Int32)), .val (.int p2), .val (.ref b10), .val (.int (1 : Int32))] [(.int (1 : Int32))])
        refine own_retN X13 hx hlk Bd.returns (Or.inl rfl) (hb hby at_68) (by decide) (by decide) ⟨rfl, Fr.app NN11 N13⟩
      · refine own_via (fun t => XS.icmpYes X11.here hx rfl (pc0 := 43) (pc' := 50) rfl (hb hby at_43) rfl (feq c43_12).2 (by decide) (by decide)) ?_
        show own_E _ _ _ _ _ _ _ T11 (mkF m 50 #[.val (.int p1), .val (.int p2), .val (.int p3), .val (.int (0 : Int32)), .val (.int p2), .val (.ref b10), .unset] [])
        refine own_via (fun t => XS.iconst X11.here hx rfl (hb hby at_50)) ?_
        show own_E _ _ _ _ _ _ _ T11 (mkF m 51 #[.val (.int p1), .val (.int p2), .val (.int p3), .val (.int (0 : Int32)), .val (.int p2), .val (.ref b10), .unset] [(.int (0 : Int32))])
        refine own_via (fun t => XS.istore X11.here hx rfl (hb hby at_51) rfl (l' := #[.val (.int p1), .val (.int p2), .val (.int p3), .val (.int (0 : Int32)), .val (.int p2), .val (.ref b10), .val (.int (0 : Int32))]) rfl) ?_
        show own_E _ _ _ _ _ _ _ T11 (mkF m 53 #[.val (.int p1), .val (.int p2), .val (.int p3), .val (.int (0 : Int32)), .val (.int p2), .val (.ref b10), .val (.int (0 : Int32))] [])
        refine own_via (fun t => XS.aload X11.here hx rfl (hb hby at_53) rfl rfl) ?_
        show own_E _ _ _ _ _ _ _ T11 (mkF m 55 #[.val (.int p1), .val (.int p2), .val (.int p3), .val (.int (0 : Int32)), .val (.int p2), .val (.ref b10), .val (.int (0 : Int32))] [(.ref b10)])
        obtain ⟨cq14, kq14, q14a, q14b, q14c⟩ := isOf hZ (rfl : T11.heap = _) Ea11
        obtain ⟨_, _, ⟨T14, L14, k14, n14⟩, -, X14, ⟨Lc14, hQ14, l14, y14, z14⟩, st14⟩ := X11.virtualBack hx (y := (⟨"com/example/strategos/strategos/Result", "isSingle", "()Z"⟩ : MethodName)) (z := (⟨"com/example/strategos/strategos/Result", "isSingle", "()Z"⟩ : MethodName)) hown (mvT hZ (hw _ (List.mem_of_getElem? (i := 15) rfl))) (mvT hZ (hw _ (List.mem_of_getElem? (i := 16) rfl))) (notFace_of_selects (args := #[]) (mvT hZ (hw _ (List.mem_of_getElem? (i := 18) rfl)))) (mvT hZ (hw _ (List.mem_of_getElem? (i := 18) rfl))) (mvT hZ (hw _ (List.mem_of_getElem? (i := 17) rfl))) (by decide) (backOf (W := 0) (rm2 l Z a0 hw [] b10 p1 p2 T11.heap n0 ZZ11 Fa11 Fb11) hZ (hw _ (List.mem_of_getElem? (i := 19) rfl)) (hw _ (List.mem_of_getElem? (i := 2) rfl)) (by decide) (by decide)) q14a q14c (g := (mkF m 55 #[.val (.int p1), .val (.int p2), .val (.int p3), .val (.int (0 : Int32)), .val (.int p2), .val (.ref b10), .val (.int (0 : Int32))] [(.ref b10)])) rfl (by rw [hml]; rfl) (Steps.refl _) (argsL := []) (rest := []) (lenOf pd_2 rfl) rfl (by show 2 * 0 + _ ≤ _; exact Nat.le_of_eq rfl) (hb hby at_55) (fun _ _ => ⟨rfl, (rfl : T11.heap = _), (by decide : 1 + 0 ≤ _), (by decide : 3 + 0 ≤ _)⟩)
        dsimp only [Pt.U, Pt.locs, Pt.cells, Pt.slots] at X14 l14 y14 z14 st14 hQ14
        subst l14 y14 z14
        obtain ⟨rfl, N14, e14⟩ := hQ14
        refine own_thru st14 ?_
        show own_E _ _ _ _ _ _ _ T14 (mkF m 58 #[.val (.int p1), .val (.int p2), .val (.int p3), .val (.int (0 : Int32)), .val (.int p2), .val (.ref b10), .val (.int (0 : Int32))] [(.int (own_sg p1 p2))])
        rw [show own_sg p1 p2 = 0 from if_neg c43_12]
        show own_E _ _ _ _ _ _ _ T14 (mkF m 58 #[.val (.int p1), .val (.int p2), .val (.int p3), .val (.int (0 : Int32)), .val (.int p2), .val (.ref b10), .val (.int (0 : Int32))] [(.int (0 : Int32))])
        refine own_via (fun t => XS.iload X14.here hx rfl (hb hby at_58) rfl) ?_
        show own_E _ _ _ _ _ _ _ T14 (mkF m 60 #[.val (.int p1), .val (.int p2), .val (.int p3), .val (.int (0 : Int32)), .val (.int p2), .val (.ref b10), .val (.int (0 : Int32))] [(.int (0 : Int32)), (.int (0 : Int32))])
        refine own_via (fun t => XS.icmpNo X14.here hx rfl (hb hby at_60) rfl (teq (by decide : (0 : Int32) = (0 : Int32))).2) ?_
        show own_E _ _ _ _ _ _ _ T14 (mkF m 63 #[.val (.int p1), .val (.int p2), .val (.int p3), .val (.int (0 : Int32)), .val (.int p2), .val (.ref b10), .val (.int (0 : Int32))] [])
        refine own_via (fun t => XS.iconst X14.here hx rfl (hb hby at_63)) ?_
        show own_E _ _ _ _ _ _ _ T14 (mkF m 64 #[.val (.int p1), .val (.int p2), .val (.int p3), .val (.int (0 : Int32)), .val (.int p2), .val (.ref b10), .val (.int (0 : Int32))] [(.int (1 : Int32))])
        refine own_via (fun t => XS.goto X14.here hx rfl (pc0 := 64) (pc' := 68) rfl (hb hby at_64) (by decide) (by decide)) ?_
        show own_E _ _ _ _ _ _ _ T14 (mkF m 68 #[.val (.int p1), .val (.int p2), .val (.int p3), .val (.int (0 : Int32)), .val (.int p2), .val (.ref b10), .val (.int (0 : Int32))] [(.int (1 : Int32))])
        refine own_retN X14 hx hlk Bd.returns (Or.inl rfl) (hb hby at_68) (by decide) (by decide) ⟨rfl, Fr.app NN11 N14⟩
    · refine own_via (fun t => XS.ifNo X0.here hx rfl (hb hby at_15) rfl ((if0 _ _).trans (feq c15_9).1)) ?_
      show own_E _ _ _ _ _ _ _ s₁ (mkF m 18 #[.val (.int p1), .val (.int p2), .val (.int p3), .val (.int (0 : Int32)), .unset, .unset, .unset] [])
      refine own_via (fun t => XS.iloadN X0.here hx rfl (hb hby at_18) rfl) ?_
      show own_E _ _ _ _ _ _ _ s₁ (mkF m 19 #[.val (.int p1), .val (.int p2), .val (.int p3), .val (.int (0 : Int32)), .unset, .unset, .unset] [(.int p1)])
      refine own_via (fun t => XS.goto X0.here hx rfl (pc0 := 19) (pc' := 23) rfl (hb hby at_19) (by decide) (by decide)) ?_
      show own_E _ _ _ _ _ _ _ s₁ (mkF m 23 #[.val (.int p1), .val (.int p2), .val (.int p3), .val (.int (0 : Int32)), .unset, .unset, .unset] [(.int p1)])
      refine own_via (fun t => XS.istore X0.here hx rfl (hb hby at_23) rfl (l' := #[.val (.int p1), .val (.int p2), .val (.int p3), .val (.int (0 : Int32)), .val (.int p1), .unset, .unset]) rfl) ?_
      show own_E _ _ _ _ _ _ _ s₁ (mkF m 25 #[.val (.int p1), .val (.int p2), .val (.int p3), .val (.int (0 : Int32)), .val (.int p1), .unset, .unset] [])
      obtain ⟨T15, h15, X15, e15, E15, A15, D15, -, st15⟩ := newO X0 hx hZ hown (hw _ (List.mem_of_getElem? (i := 0) rfl)) (hw _ (List.mem_of_getElem? (i := 1) rfl)) (hw _ (List.mem_of_getElem? (i := 2) rfl)) e0 (g := (mkF m 25 #[.val (.int p1), .val (.int p2), .val (.int p3), .val (.int (0 : Int32)), .val (.int p1), .unset, .unset] [])) rfl (hb hby at_25) (by decide) (by decide)
      obtain ⟨b15, g15⟩ : ∃ z, z = h0.size := ⟨_, rfl⟩
      rw [← g15] at A15 D15 st15
      have gz_b15 : n0 ≤ b15 := Nat.le_trans Z0 (Nat.le_of_eq g15.symm)
      have Z15 : n0 ≤ h15.size := Nat.le_trans Z0 E15.1
      refine own_via st15 ?_
      show own_E _ _ _ _ _ _ _ T15 (mkF m 28 #[.val (.int p1), .val (.int p2), .val (.int p3), .val (.int (0 : Int32)), .val (.int p1), .unset, .unset] [(.ref b15)])
      have F1_15 : Fld Z h15 b15 "com/example/strategos/strategos/Result" "min" "D" (.double 0) := D15 (Or.inr (hw _ (List.mem_of_getElem? (i := 10) rfl))) (ty := .double) (by decide)
      have F2_15 : Fld Z h15 b15 "com/example/strategos/strategos/Result" "max" "D" (.double 0) := D15 (Or.inr (hw _ (List.mem_of_getElem? (i := 12) rfl))) (ty := .double) (by decide)
      have F3_15 : Fld Z h15 b15 "com/example/strategos/strategos/Result" "number" "Z" (.int 0) := D15 (Or.inr (hw _ (List.mem_of_getElem? (i := 14) rfl))) (ty := .boolean) (by decide)
      refine own_via (fun t => XS.dup X15.here hx rfl (hb hby at_28) rfl rfl) ?_
      show own_E _ _ _ _ _ _ _ T15 (mkF m 29 #[.val (.int p1), .val (.int p2), .val (.int p3), .val (.int (0 : Int32)), .val (.int p1), .unset, .unset] [(.ref b15), (.ref b15)])
      refine own_via (fun t => XS.iloadN X15.here hx rfl (hb hby at_29) rfl) ?_
      show own_E _ _ _ _ _ _ _ T15 (mkF m 30 #[.val (.int p1), .val (.int p2), .val (.int p3), .val (.int (0 : Int32)), .val (.int p1), .unset, .unset] [(.int p1), (.ref b15), (.ref b15)])
      refine own_via (fun t => XS.i2dS X15.here hx rfl (hb hby at_30) rfl (i2d_w _)) ?_
      show own_E _ _ _ _ _ _ _ T15 (mkF m 31 #[.val (.int p1), .val (.int p2), .val (.int p3), .val (.int (0 : Int32)), .val (.int p1), .unset, .unset] [(.double (FP.l2d p1.toInt64)), (.ref b15), (.ref b15)])
      refine own_via (fun t => XS.iload X15.here hx rfl (hb hby at_31) rfl) ?_
      show own_E _ _ _ _ _ _ _ T15 (mkF m 33 #[.val (.int p1), .val (.int p2), .val (.int p3), .val (.int (0 : Int32)), .val (.int p1), .unset, .unset] [(.int p1), (.double (FP.l2d p1.toInt64)), (.ref b15), (.ref b15)])
      refine own_via (fun t => XS.i2dS X15.here hx rfl (hb hby at_33) rfl (i2d_w _)) ?_
      show own_E _ _ _ _ _ _ _ T15 (mkF m 34 #[.val (.int p1), .val (.int p2), .val (.int p3), .val (.int (0 : Int32)), .val (.int p1), .unset, .unset] [(.double (FP.l2d p1.toInt64)), (.double (FP.l2d p1.toInt64)), (.ref b15), (.ref b15)])
      refine own_via (fun t => XS.iloadN X15.here hx rfl (hb hby at_34) rfl) ?_
      show own_E _ _ _ _ _ _ _ T15 (mkF m 35 #[.val (.int p1), .val (.int p2), .val (.int p3), .val (.int (0 : Int32)), .val (.int p1), .unset, .unset] [(.int (0 : Int32)), (.double (FP.l2d p1.toInt64)), (.double (FP.l2d p1.toInt64)), (.ref b15), (.ref b15)])
      obtain ⟨_, _, ⟨T16, L16, k16, n16⟩, -, X16, ⟨Lc16, hQ16, l16, y16, z16⟩, st16⟩ := X15.specialBack hx (y := (⟨"com/example/strategos/strategos/Result", "<init>", "(DDZ)V"⟩ : MethodName)) rfl hown (mvT hZ (hw _ (List.mem_of_getElem? (i := 3) rfl))) (mvT hZ (hw _ (List.mem_of_getElem? (i := 4) rfl))) (mvT hZ (hw _ (List.mem_of_getElem? (i := 5) rfl))) (by decide) (backOf (W := 1) (rm1 l Z a0 hw [] b15 _ _ (0 : Int32) rfl rfl h15 n0 Z15 A15 F1_15 F2_15 F3_15 gz_b15) hZ (hw _ (List.mem_of_getElem? (i := 5) rfl)) (hw _ (List.mem_of_getElem? (i := 2) rfl)) (by decide) (by decide)) (g := (mkF m 35 #[.val (.int p1), .val (.int p2), .val (.int p3), .val (.int (0 : Int32)), .val (.int p1), .unset, .unset] [(.int (0 : Int32)), (.double (FP.l2d p1.toInt64)), (.double (FP.l2d p1.toInt64)), (.ref b15), (.ref b15)])) rfl (by rw [hml]; rfl) (Steps.refl _) (a := b15) (argsL := [(.double (FP.l2d p1.toInt64)), (.double (FP.l2d p1.toInt64)), (.int (0 : Int32))]) (rest := [(.ref b15)]) (lenOf pd_1 rfl) rfl (by show 2 * 0 + _ ≤ _; exact Nat.le_of_eq rfl) (hb hby at_35) (fun _ _ => ⟨rfl, e15, (by decide : 1 + 0 ≤ _), (by decide : 3 + 0 ≤ _)⟩)
      dsimp only [Pt.U, Pt.locs, Pt.cells, Pt.slots] at X16 l16 y16 z16 st16 hQ16
      subst l16 y16 z16
      obtain ⟨rfl, N16, K16, Ea16, Fa16, Fb16⟩ := hQ16
      refine own_thru st16 ?_
      show own_E _ _ _ _ _ _ _ T16 (mkF m 38 #[.val (.int p1), .val (.int p2), .val (.int p3), .val (.int (0 : Int32)), .val (.int p1), .unset, .unset] [(.ref b15)])
      have NN16 := Fr.app N0 N16
      have ZZ16 : n0 ≤ T16.heap.size := Nat.le_trans Z15 K16.1
      refine own_via (fun t => XS.astore X16.here hx rfl (hb hby at_38) rfl rfl (l' := #[.val (.int p1), .val (.int p2), .val (.int p3), .val (.int (0 : Int32)), .val (.int p1), .val (.ref b15), .unset]) rfl) ?_
      show own_E _ _ _ _ _ _ _ T16 (mkF m 40 #[.val (.int p1), .val (.int p2), .val (.int p3), .val (.int (0 : Int32)), .val (.int p1), .val (.ref b15), .unset] [])
      refine own_via (fun t => XS.iloadN X16.here hx rfl (hb hby at_40) rfl) ?_
      show own_E _ _ _ _ _ _ _ T16 (mkF m 41 #[.val (.int p1), .val (.int p2), .val (.int p3), .val (.int (0 : Int32)), .val (.int p1), .val (.ref b15), .unset] [(.int p1)])
      refine own_via (fun t => XS.iload X16.here hx rfl (hb hby at_41) rfl) ?_
      show own_E _ _ _ _ _ _ _ T16 (mkF m 43 #[.val (.int p1), .val (.int p2), .val (.int p3), .val (.int (0 : Int32)), .val (.int p1), .val (.ref b15), .unset] [(.int p1), (.int p1)])
      by_cases c43_17 : p1 = p1
      · refine own_via (fun t => XS.icmpNo X16.here hx rfl (hb hby at_43) rfl (teq c43_17).2) ?_
        show own_E _ _ _ _ _ _ _ T16 (mkF m 46 #[.val (.int p1), .val (.int p2), .val (.int p3), .val (.int (0 : Int32)), .val (.int p1), .val (.ref b15), .unset] [])
        refine own_via (fun t => XS.iconst X16.here hx rfl (hb hby at_46)) ?_
        show own_E _ _ _ _ _ _ _ T16 (mkF m 47 #[.val (.int p1), .val (.int p2), .val (.int p3), .val (.int (0 : Int32)), .val (.int p1), .val (.ref b15), .unset] [(.int (1 : Int32))])
        refine own_via (fun t => XS.goto X16.here hx rfl (pc0 := 47) (pc' := 51) rfl (hb hby at_47) (by decide) (by decide)) ?_
        show own_E _ _ _ _ _ _ _ T16 (mkF m 51 #[.val (.int p1), .val (.int p2), .val (.int p3), .val (.int (0 : Int32)), .val (.int p1), .val (.ref b15), .unset] [(.int (1 : Int32))])
        refine own_via (fun t => XS.istore X16.here hx rfl (hb hby at_51) rfl (l' := #[.val (.int p1), .val (.int p2), .val (.int p3), .val (.int (0 : Int32)), .val (.int p1), .val (.ref b15), .val (.int (1 : Int32))]) rfl) ?_
        show own_E _ _ _ _ _ _ _ T16 (mkF m 53 #[.val (.int p1), .val (.int p2), .val (.int p3), .val (.int (0 : Int32)), .val (.int p1), .val (.ref b15), .val (.int (1 : Int32))] [])
        refine own_via (fun t => XS.aload X16.here hx rfl (hb hby at_53) rfl rfl) ?_
        show own_E _ _ _ _ _ _ _ T16 (mkF m 55 #[.val (.int p1), .val (.int p2), .val (.int p3), .val (.int (0 : Int32)), .val (.int p1), .val (.ref b15), .val (.int (1 : Int32))] [(.ref b15)])
        obtain ⟨cq18, kq18, q18a, q18b, q18c⟩ := isOf hZ (rfl : T16.heap = _) Ea16
        obtain ⟨_, _, ⟨T18, L18, k18, n18⟩, -, X18, ⟨Lc18, hQ18, l18, y18, z18⟩, st18⟩ := X16.virtualBack hx (y := (⟨"com/example/strategos/strategos/Result", "isSingle", "()Z"⟩ : MethodName)) (z := (⟨"com/example/strategos/strategos/Result", "isSingle", "()Z"⟩ : MethodName)) hown (mvT hZ (hw _ (List.mem_of_getElem? (i := 15) rfl))) (mvT hZ (hw _ (List.mem_of_getElem? (i := 16) rfl))) (notFace_of_selects (args := #[]) (mvT hZ (hw _ (List.mem_of_getElem? (i := 18) rfl)))) (mvT hZ (hw _ (List.mem_of_getElem? (i := 18) rfl))) (mvT hZ (hw _ (List.mem_of_getElem? (i := 17) rfl))) (by decide) (backOf (W := 0) (rm2 l Z a0 hw [] b15 p1 p1 T16.heap n0 ZZ16 Fa16 Fb16) hZ (hw _ (List.mem_of_getElem? (i := 19) rfl)) (hw _ (List.mem_of_getElem? (i := 2) rfl)) (by decide) (by decide)) q18a q18c (g := (mkF m 55 #[.val (.int p1), .val (.int p2), .val (.int p3), .val (.int (0 : Int32)), .val (.int p1), .val (.ref b15), .val (.int (1 : Int32))] [(.ref b15)])) rfl (by rw [hml]; rfl) (Steps.refl _) (argsL := []) (rest := []) (lenOf pd_2 rfl) rfl (by show 2 * 0 + _ ≤ _; exact Nat.le_of_eq rfl) (hb hby at_55) (fun _ _ => ⟨rfl, (rfl : T16.heap = _), (by decide : 1 + 0 ≤ _), (by decide : 3 + 0 ≤ _)⟩)
        dsimp only [Pt.U, Pt.locs, Pt.cells, Pt.slots] at X18 l18 y18 z18 st18 hQ18
        subst l18 y18 z18
        obtain ⟨rfl, N18, e18⟩ := hQ18
        refine own_thru st18 ?_
        show own_E _ _ _ _ _ _ _ T18 (mkF m 58 #[.val (.int p1), .val (.int p2), .val (.int p3), .val (.int (0 : Int32)), .val (.int p1), .val (.ref b15), .val (.int (1 : Int32))] [(.int (own_sg p1 p1))])
        rw [show own_sg p1 p1 = 1 from if_pos c43_17]
        show own_E _ _ _ _ _ _ _ T18 (mkF m 58 #[.val (.int p1), .val (.int p2), .val (.int p3), .val (.int (0 : Int32)), .val (.int p1), .val (.ref b15), .val (.int (1 : Int32))] [(.int (1 : Int32))])
        refine own_via (fun t => XS.iload X18.here hx rfl (hb hby at_58) rfl) ?_
        show own_E _ _ _ _ _ _ _ T18 (mkF m 60 #[.val (.int p1), .val (.int p2), .val (.int p3), .val (.int (0 : Int32)), .val (.int p1), .val (.ref b15), .val (.int (1 : Int32))] [(.int (1 : Int32)), (.int (1 : Int32))])
        refine own_via (fun t => XS.icmpNo X18.here hx rfl (hb hby at_60) rfl (teq (by decide : (1 : Int32) = (1 : Int32))).2) ?_
        show own_E _ _ _ _ _ _ _ T18 (mkF m 63 #[.val (.int p1), .val (.int p2), .val (.int p3), .val (.int (0 : Int32)), .val (.int p1), .val (.ref b15), .val (.int (1 : Int32))] [])
        refine own_via (fun t => XS.iconst X18.here hx rfl (hb hby at_63)) ?_
        show own_E _ _ _ _ _ _ _ T18 (mkF m 64 #[.val (.int p1), .val (.int p2), .val (.int p3), .val (.int (0 : Int32)), .val (.int p1), .val (.ref b15), .val (.int (1 : Int32))] [(.int (1 : Int32))])
        refine own_via (fun t => XS.goto X18.here hx rfl (pc0 := 64) (pc' := 68) rfl (hb hby at_64) (by decide) (by decide)) ?_
        show own_E _ _ _ _ _ _ _ T18 (mkF m 68 #[.val (.int p1), .val (.int p2), .val (.int p3), .val (.int (0 : Int32)), .val (.int p1), .val (.ref b15), .val (.int (1 : Int32))] [(.int (1 : Int32))])
        refine own_retN X18 hx hlk Bd.returns (Or.inl rfl) (hb hby at_68) (by decide) (by decide) ⟨rfl, Fr.app NN16 N18⟩
      · refine own_via (fun t => XS.icmpYes X16.here hx rfl (pc0 := 43) (pc' := 50) rfl (hb hby at_43) rfl (feq c43_17).2 (by decide) (by decide)) ?_
        show own_E _ _ _ _ _ _ _ T16 (mkF m 50 #[.val (.int p1), .val (.int p2), .val (.int p3), .val (.int (0 : Int32)), .val (.int p1), .val (.ref b15), .unset] [])
        refine own_via (fun t => XS.iconst X16.here hx rfl (hb hby at_50)) ?_
        show own_E _ _ _ _ _ _ _ T16 (mkF m 51 #[.val (.int p1), .val (.int p2), .val (.int p3), .val (.int (0 : Int32)), .val (.int p1), .val (.ref b15), .unset] [(.int (0 : Int32))])
        refine own_via (fun t => XS.istore X16.here hx rfl (hb hby at_51) rfl (l' := #[.val (.int p1), .val (.int p2), .val (.int p3), .val (.int (0 : Int32)), .val (.int p1), .val (.ref b15), .val (.int (0 : Int32))]) rfl) ?_
        show own_E _ _ _ _ _ _ _ T16 (mkF m 53 #[.val (.int p1), .val (.int p2), .val (.int p3), .val (.int (0 : Int32)), .val (.int p1), .val (.ref b15), .val (.int (0 : Int32))] [])
        refine own_via (fun t => XS.aload X16.here hx rfl (hb hby at_53) rfl rfl) ?_
        show own_E _ _ _ _ _ _ _ T16 (mkF m 55 #[.val (.int p1), .val (.int p2), .val (.int p3), .val (.int (0 : Int32)), .val (.int p1), .val (.ref b15), .val (.int (0 : Int32))] [(.ref b15)])
        obtain ⟨cq19, kq19, q19a, q19b, q19c⟩ := isOf hZ (rfl : T16.heap = _) Ea16
        obtain ⟨_, _, ⟨T19, L19, k19, n19⟩, -, X19, ⟨Lc19, hQ19, l19, y19, z19⟩, st19⟩ := X16.virtualBack hx (y := (⟨"com/example/strategos/strategos/Result", "isSingle", "()Z"⟩ : MethodName)) (z := (⟨"com/example/strategos/strategos/Result", "isSingle", "()Z"⟩ : MethodName)) hown (mvT hZ (hw _ (List.mem_of_getElem? (i := 15) rfl))) (mvT hZ (hw _ (List.mem_of_getElem? (i := 16) rfl))) (notFace_of_selects (args := #[]) (mvT hZ (hw _ (List.mem_of_getElem? (i := 18) rfl)))) (mvT hZ (hw _ (List.mem_of_getElem? (i := 18) rfl))) (mvT hZ (hw _ (List.mem_of_getElem? (i := 17) rfl))) (by decide) (backOf (W := 0) (rm2 l Z a0 hw [] b15 p1 p1 T16.heap n0 ZZ16 Fa16 Fb16) hZ (hw _ (List.mem_of_getElem? (i := 19) rfl)) (hw _ (List.mem_of_getElem? (i := 2) rfl)) (by decide) (by decide)) q19a q19c (g := (mkF m 55 #[.val (.int p1), .val (.int p2), .val (.int p3), .val (.int (0 : Int32)), .val (.int p1), .val (.ref b15), .val (.int (0 : Int32))] [(.ref b15)])) rfl (by rw [hml]; rfl) (Steps.refl _) (argsL := []) (rest := []) (lenOf pd_2 rfl) rfl (by show 2 * 0 + _ ≤ _; exact Nat.le_of_eq rfl) (hb hby at_55) (fun _ _ => ⟨rfl, (rfl : T16.heap = _), (by decide : 1 + 0 ≤ _), (by decide : 3 + 0 ≤ _)⟩)
        dsimp only [Pt.U, Pt.locs, Pt.cells, Pt.slots] at X19 l19 y19 z19 st19 hQ19
        subst l19 y19 z19
        obtain ⟨rfl, N19, e19⟩ := hQ19
        refine own_thru st19 ?_
        show own_E _ _ _ _ _ _ _ T19 (mkF m 58 #[.val (.int p1), .val (.int p2), .val (.int p3), .val (.int (0 : Int32)), .val (.int p1), .val (.ref b15), .val (.int (0 : Int32))] [(.int (own_sg p1 p1))])
        rw [show own_sg p1 p1 = 0 from if_neg c43_17]
        show own_E _ _ _ _ _ _ _ T19 (mkF m 58 #[.val (.int p1), .val (.int p2), .val (.int p3), .val (.int (0 : Int32)), .val (.int p1), .val (.ref b15), .val (.int (0 : Int32))] [(.int (0 : Int32))])
        refine own_via (fun t => XS.iload X19.here hx rfl (hb hby at_58) rfl) ?_
        show own_E _ _ _ _ _ _ _ T19 (mkF m 60 #[.val (.int p1), .val (.int p2), .val (.int p3), .val (.int (0 : Int32)), .val (.int p1), .val (.ref b15), .val (.int (0 : Int32))] [(.int (0 : Int32)), (.int (0 : Int32))])
        refine own_via (fun t => XS.icmpNo X19.here hx rfl (hb hby at_60) rfl (teq (by decide : (0 : Int32) = (0 : Int32))).2) ?_
        show own_E _ _ _ _ _ _ _ T19 (mkF m 63 #[.val (.int p1), .val (.int p2), .val (.int p3), .val (.int (0 : Int32)), .val (.int p1), .val (.ref b15), .val (.int (0 : Int32))] [])
        refine own_via (fun t => XS.iconst X19.here hx rfl (hb hby at_63)) ?_
        show own_E _ _ _ _ _ _ _ T19 (mkF m 64 #[.val (.int p1), .val (.int p2), .val (.int p3), .val (.int (0 : Int32)), .val (.int p1), .val (.ref b15), .val (.int (0 : Int32))] [(.int (1 : Int32))])
        refine own_via (fun t => XS.goto X19.here hx rfl (pc0 := 64) (pc' := 68) rfl (hb hby at_64) (by decide) (by decide)) ?_
        show own_E _ _ _ _ _ _ _ T19 (mkF m 68 #[.val (.int p1), .val (.int p2), .val (.int p3), .val (.int (0 : Int32)), .val (.int p1), .val (.ref b15), .val (.int (0 : Int32))] [(.int (1 : Int32))])
        refine own_retN X19 hx hlk Bd.returns (Or.inl rfl) (hb hby at_68) (by decide) (by decide) ⟨rfl, Fr.app NN16 N19⟩
  · refine own_via (fun t => XS.ifNo X0.here hx rfl (hb hby at_3) rfl ((if0 _ _).trans (feq c3_8).1)) ?_
    show own_E _ _ _ _ _ _ _ s₁ (mkF m 6 #[.val (.int p1), .val (.int p2), .val (.int p3), .unset, .unset, .unset, .unset] [])
    refine own_via (fun t => XS.iconst X0.here hx rfl (hb hby at_6)) ?_
    show own_E _ _ _ _ _ _ _ s₁ (mkF m 7 #[.val (.int p1), .val (.int p2), .val (.int p3), .unset, .unset, .unset, .unset] [(.int (1 : Int32))])
    refine own_via (fun t => XS.goto X0.here hx rfl (pc0 := 7) (pc' := 11) rfl (hb hby at_7) (by decide) (by decide)) ?_
    show own_E _ _ _ _ _ _ _ s₁ (mkF m 11 #[.val (.int p1), .val (.int p2), .val (.int p3), .unset, .unset, .unset, .unset] [(.int (1 : Int32))])
    refine own_via (fun t => XS.istoreN X0.here hx rfl (hb hby at_11) rfl (l' := #[.val (.int p1), .val (.int p2), .val (.int p3), .val (.int (1 : Int32)), .unset, .unset, .unset]) rfl) ?_
    show own_E _ _ _ _ _ _ _ s₁ (mkF m 12 #[.val (.int p1), .val (.int p2), .val (.int p3), .val (.int (1 : Int32)), .unset, .unset, .unset] [])
    refine own_via (fun t => XS.iloadN X0.here hx rfl (hb hby at_12) rfl) ?_
    show own_E _ _ _ _ _ _ _ s₁ (mkF m 13 #[.val (.int p1), .val (.int p2), .val (.int p3), .val (.int (1 : Int32)), .unset, .unset, .unset] [(.int p3)])
    refine own_via (fun t => XS.iconst X0.here hx rfl (hb hby at_13)) ?_
    show own_E _ _ _ _ _ _ _ s₁ (mkF m 14 #[.val (.int p1), .val (.int p2), .val (.int p3), .val (.int (1 : Int32)), .unset, .unset, .unset] [(.int (2 : Int32)), (.int p3)])
    refine own_via (fun t => XS.iand X0.here hx rfl (hb hby at_14) rfl) ?_
    show own_E _ _ _ _ _ _ _ s₁ (mkF m 15 #[.val (.int p1), .val (.int p2), .val (.int p3), .val (.int (1 : Int32)), .unset, .unset, .unset] [(.int (p3 &&& (2 : Int32)))])
    by_cases c15_20 : (p3 &&& (2 : Int32)) = (0 : Int32)
    · refine own_via (fun t => XS.ifYes X0.here hx rfl (pc0 := 15) (pc' := 22) rfl (hb hby at_15) rfl ((if0 _ _).trans (teq c15_20).1) (by decide) (by decide)) ?_
      show own_E _ _ _ _ _ _ _ s₁ (mkF m 22 #[.val (.int p1), .val (.int p2), .val (.int p3), .val (.int (1 : Int32)), .unset, .unset, .unset] [])
      refine own_via (fun t => XS.iloadN X0.here hx rfl (hb hby at_22) rfl) ?_
      show own_E _ _ _ _ _ _ _ s₁ (mkF m 23 #[.val (.int p1), .val (.int p2), .val (.int p3), .val (.int (1 : Int32)), .unset, .unset, .unset] [(.int p2)])
      refine own_via (fun t => XS.istore X0.here hx rfl (hb hby at_23) rfl (l' := #[.val (.int p1), .val (.int p2), .val (.int p3), .val (.int (1 : Int32)), .val (.int p2), .unset, .unset]) rfl) ?_
      show own_E _ _ _ _ _ _ _ s₁ (mkF m 25 #[.val (.int p1), .val (.int p2), .val (.int p3), .val (.int (1 : Int32)), .val (.int p2), .unset, .unset] [])
      obtain ⟨T21, h21, X21, e21, E21, A21, D21, -, st21⟩ := newO X0 hx hZ hown (hw _ (List.mem_of_getElem? (i := 0) rfl)) (hw _ (List.mem_of_getElem? (i := 1) rfl)) (hw _ (List.mem_of_getElem? (i := 2) rfl)) e0 (g := (mkF m 25 #[.val (.int p1), .val (.int p2), .val (.int p3), .val (.int (1 : Int32)), .val (.int p2), .unset, .unset] [])) rfl (hb hby at_25) (by decide) (by decide)
      obtain ⟨b21, g21⟩ : ∃ z, z = h0.size := ⟨_, rfl⟩
      rw [← g21] at A21 D21 st21
      have gz_b21 : n0 ≤ b21 := Nat.le_trans Z0 (Nat.le_of_eq g21.symm)
      have Z21 : n0 ≤ h21.size := Nat.le_trans Z0 E21.1
      refine own_via st21 ?_
      show own_E _ _ _ _ _ _ _ T21 (mkF m 28 #[.val (.int p1), .val (.int p2), .val (.int p3), .val (.int (1 : Int32)), .val (.int p2), .unset, .unset] [(.ref b21)])
      have F1_21 : Fld Z h21 b21 "com/example/strategos/strategos/Result" "min" "D" (.double 0) := D21 (Or.inr (hw _ (List.mem_of_getElem? (i := 10) rfl))) (ty := .double) (by decide)
      have F2_21 : Fld Z h21 b21 "com/example/strategos/strategos/Result" "max" "D" (.double 0) := D21 (Or.inr (hw _ (List.mem_of_getElem? (i := 12) rfl))) (ty := .double) (by decide)
      have F3_21 : Fld Z h21 b21 "com/example/strategos/strategos/Result" "number" "Z" (.int 0) := D21 (Or.inr (hw _ (List.mem_of_getElem? (i := 14) rfl))) (ty := .boolean) (by decide)
      refine own_via (fun t => XS.dup X21.here hx rfl (hb hby at_28) rfl rfl) ?_
      show own_E _ _ _ _ _ _ _ T21 (mkF m 29 #[.val (.int p1), .val (.int p2), .val (.int p3), .val (.int (1 : Int32)), .val (.int p2), .unset, .unset] [(.ref b21), (.ref b21)])
      refine own_via (fun t => XS.iloadN X21.here hx rfl (hb hby at_29) rfl) ?_
      show own_E _ _ _ _ _ _ _ T21 (mkF m 30 #[.val (.int p1), .val (.int p2), .val (.int p3), .val (.int (1 : Int32)), .val (.int p2), .unset, .unset] [(.int p1), (.ref b21), (.ref b21)])
      refine own_via (fun t => XS.i2dS X21.here hx rfl (hb hby at_30) rfl (i2d_w _)) ?_
      show own_E _ _ _ _ _ _ _ T21 (mkF m 31 #[.val (.int p1), .val (.int p2), .val (.int p3), .val (.int (1 : Int32)), .val (.int p2), .unset, .unset] [(.double (FP.l2d p1.toInt64)), (.ref b21), (.ref b21)])
      refine own_via (fun t => XS.iload X21.here hx rfl (hb hby at_31) rfl) ?_
      show own_E _ _ _ _ _ _ _ T21 (mkF m 33 #[.val (.int p1), .val (.int p2), .val (.int p3), .val (.int (1 : Int32)), .val (.int p2), .unset, .unset] [(.int p2), (.double (FP.l2d p1.toInt64)), (.ref b21), (.ref b21)])
      refine own_via (fun t => XS.i2dS X21.here hx rfl (hb hby at_33) rfl (i2d_w _)) ?_
      show own_E _ _ _ _ _ _ _ T21 (mkF m 34 #[.val (.int p1), .val (.int p2), .val (.int p3), .val (.int (1 : Int32)), .val (.int p2), .unset, .unset] [(.double (FP.l2d p2.toInt64)), (.double (FP.l2d p1.toInt64)), (.ref b21), (.ref b21)])
      refine own_via (fun t => XS.iloadN X21.here hx rfl (hb hby at_34) rfl) ?_
      show own_E _ _ _ _ _ _ _ T21 (mkF m 35 #[.val (.int p1), .val (.int p2), .val (.int p3), .val (.int (1 : Int32)), .val (.int p2), .unset, .unset] [(.int (1 : Int32)), (.double (FP.l2d p2.toInt64)), (.double (FP.l2d p1.toInt64)), (.ref b21), (.ref b21)])
      obtain ⟨_, _, ⟨T22, L22, k22, n22⟩, -, X22, ⟨Lc22, hQ22, l22, y22, z22⟩, st22⟩ := X21.specialBack hx (y := (⟨"com/example/strategos/strategos/Result", "<init>", "(DDZ)V"⟩ : MethodName)) rfl hown (mvT hZ (hw _ (List.mem_of_getElem? (i := 3) rfl))) (mvT hZ (hw _ (List.mem_of_getElem? (i := 4) rfl))) (mvT hZ (hw _ (List.mem_of_getElem? (i := 5) rfl))) (by decide) (backOf (W := 1) (rm1 l Z a0 hw [] b21 _ _ (1 : Int32) rfl rfl h21 n0 Z21 A21 F1_21 F2_21 F3_21 gz_b21) hZ (hw _ (List.mem_of_getElem? (i := 5) rfl)) (hw _ (List.mem_of_getElem? (i := 2) rfl)) (by decide) (by decide)) (g := (mkF m 35 #[.val (.int p1), .val (.int p2), .val (.int p3), .val (.int (1 : Int32)), .val (.int p2), .unset, .unset] [(.int (1 : Int32)), (.double (FP.l2d p2.toInt64)), (.double (FP.l2d p1.toInt64)), (.ref b21), (.ref b21)])) rfl (by rw [hml]; rfl) (Steps.refl _) (a := b21) (argsL := [(.double (FP.l2d p1.toInt64)), (.double (FP.l2d p2.toInt64)), (.int (1 : Int32))]) (rest := [(.ref b21)]) (lenOf pd_1 rfl) rfl (by show 2 * 0 + _ ≤ _; exact Nat.le_of_eq rfl) (hb hby at_35) (fun _ _ => ⟨rfl, e21, (by decide : 1 + 0 ≤ _), (by decide : 3 + 0 ≤ _)⟩)
      dsimp only [Pt.U, Pt.locs, Pt.cells, Pt.slots] at X22 l22 y22 z22 st22 hQ22
      subst l22 y22 z22
      obtain ⟨rfl, N22, K22, Ea22, Fa22, Fb22⟩ := hQ22
      refine own_thru st22 ?_
      show own_E _ _ _ _ _ _ _ T22 (mkF m 38 #[.val (.int p1), .val (.int p2), .val (.int p3), .val (.int (1 : Int32)), .val (.int p2), .unset, .unset] [(.ref b21)])
      have NN22 := Fr.app N0 N22
      have ZZ22 : n0 ≤ T22.heap.size := Nat.le_trans Z21 K22.1
      refine own_via (fun t => XS.astore X22.here hx rfl (hb hby at_38) rfl rfl (l' := #[.val (.int p1), .val (.int p2), .val (.int p3), .val (.int (1 : Int32)), .val (.int p2), .val (.ref b21), .unset]) rfl) ?_
      show own_E _ _ _ _ _ _ _ T22 (mkF m 40 #[.val (.int p1), .val (.int p2), .val (.int p3), .val (.int (1 : Int32)), .val (.int p2), .val (.ref b21), .unset] [])
      refine own_via (fun t => XS.iloadN X22.here hx rfl (hb hby at_40) rfl) ?_
      show own_E _ _ _ _ _ _ _ T22 (mkF m 41 #[.val (.int p1), .val (.int p2), .val (.int p3), .val (.int (1 : Int32)), .val (.int p2), .val (.ref b21), .unset] [(.int p1)])
      refine own_via (fun t => XS.iload X22.here hx rfl (hb hby at_41) rfl) ?_
      show own_E _ _ _ _ _ _ _ T22 (mkF m 43 #[.val (.int p1), .val (.int p2), .val (.int p3), .val (.int (1 : Int32)), .val (.int p2), .val (.ref b21), .unset] [(.int p2), (.int p1)])
      by_cases c43_23 : p1 = p2
      · refine own_via (fun t => XS.icmpNo X22.here hx rfl (hb hby at_43) rfl (teq c43_23).2) ?_
        show own_E _ _ _ _ _ _ _ T22 (mkF m 46 #[.val (.int p1), .val (.int p2), .val (.int p3), .val (.int (1 : Int32)), .val (.int p2), .val (.ref b21), .unset] [])
        refine own_via (fun t => XS.iconst X22.here hx rfl (hb hby at_46)) ?_
        show own_E _ _ _ _ _ _ _ T22 (mkF m 47 #[.val (.int p1), .val (.int p2), .val (.int p3), .val (.int (1 : Int32)), .val (.int p2), .val (.ref b21), .unset] [(.int (1 : Int32))])
        refine own_via (fun t => XS.goto X22.here hx rfl (pc0 := 47) (pc' := 51) rfl (hb hby at_47) (by decide) (by decide)) ?_
        show own_E _ _ _ _ _ _ _ T22 (mkF m 51 #[.val (.int p1), .val (.int p2), .val (.int p3), .val (.int (1 : Int32)), .val (.int p2), .val (.ref b21), .unset] [(.int (1 : Int32))])
        refine own_via (fun t => XS.istore X22.here hx rfl (hb hby at_51) rfl (l' := #[.val (.int p1), .val (.int p2), .val (.int p3), .val (.int (1 : Int32)), .val (.int p2), .val (.ref b21), .val (.int (1 : Int32))]) rfl) ?_
        show own_E _ _ _ _ _ _ _ T22 (mkF m 53 #[.val (.int p1), .val (.int p2), .val (.int p3), .val (.int (1 : Int32)), .val (.int p2), .val (.ref b21), .val (.int (1 : Int32))] [])
        refine own_via (fun t => XS.aload X22.here hx rfl (hb hby at_53) rfl rfl) ?_
        show own_E _ _ _ _ _ _ _ T22 (mkF m 55 #[.val (.int p1), .val (.int p2), .val (.int p3), .val (.int (1 : Int32)), .val (.int p2), .val (.ref b21), .val (.int (1 : Int32))] [(.ref b21)])
        obtain ⟨cq24, kq24, q24a, q24b, q24c⟩ := isOf hZ (rfl : T22.heap = _) Ea22
        obtain ⟨_, _, ⟨T24, L24, k24, n24⟩, -, X24, ⟨Lc24, hQ24, l24, y24, z24⟩, st24⟩ := X22.virtualBack hx (y := (⟨"com/example/strategos/strategos/Result", "isSingle", "()Z"⟩ : MethodName)) (z := (⟨"com/example/strategos/strategos/Result", "isSingle", "()Z"⟩ : MethodName)) hown (mvT hZ (hw _ (List.mem_of_getElem? (i := 15) rfl))) (mvT hZ (hw _ (List.mem_of_getElem? (i := 16) rfl))) (notFace_of_selects (args := #[]) (mvT hZ (hw _ (List.mem_of_getElem? (i := 18) rfl)))) (mvT hZ (hw _ (List.mem_of_getElem? (i := 18) rfl))) (mvT hZ (hw _ (List.mem_of_getElem? (i := 17) rfl))) (by decide) (backOf (W := 0) (rm2 l Z a0 hw [] b21 p1 p2 T22.heap n0 ZZ22 Fa22 Fb22) hZ (hw _ (List.mem_of_getElem? (i := 19) rfl)) (hw _ (List.mem_of_getElem? (i := 2) rfl)) (by decide) (by decide)) q24a q24c (g := (mkF m 55 #[.val (.int p1), .val (.int p2), .val (.int p3), .val (.int (1 : Int32)), .val (.int p2), .val (.ref b21), .val (.int (1 : Int32))] [(.ref b21)])) rfl (by rw [hml]; rfl) (Steps.refl _) (argsL := []) (rest := []) (lenOf pd_2 rfl) rfl (by show 2 * 0 + _ ≤ _; exact Nat.le_of_eq rfl) (hb hby at_55) (fun _ _ => ⟨rfl, (rfl : T22.heap = _), (by decide : 1 + 0 ≤ _), (by decide : 3 + 0 ≤ _)⟩)
        dsimp only [Pt.U, Pt.locs, Pt.cells, Pt.slots] at X24 l24 y24 z24 st24 hQ24
        subst l24 y24 z24
        obtain ⟨rfl, N24, e24⟩ := hQ24
        refine own_thru st24 ?_
        show own_E _ _ _ _ _ _ _ T24 (mkF m 58 #[.val (.int p1), .val (.int p2), .val (.int p3), .val (.int (1 : Int32)), .val (.int p2), .val (.ref b21), .val (.int (1 : Int32))] [(.int (own_sg p1 p2))])
        rw [show own_sg p1 p2 = 1 from if_pos c43_23]
        show own_E _ _ _ _ _ _ _ T24 (mkF m 58 #[.val (.int p1), .val (.int p2), .val (.int p3), .val (.int (1 : Int32)), .val (.int p2), .val (.ref b21), .val (.int (1 : Int32))] [(.int (1 : Int32))])
        refine own_via (fun t => XS.iload X24.here hx rfl (hb hby at_58) rfl) ?_
        show own_E _ _ _ _ _ _ _ T24 (mkF m 60 #[.val (.int p1), .val (.int p2), .val (.int p3), .val (.int (1 : Int32)), .val (.int p2), .val (.ref b21), .val (.int (1 : Int32))] [(.int (1 : Int32)), (.int (1 : Int32))])
        refine own_via (fun t => XS.icmpNo X24.here hx rfl (hb hby at_60) rfl (teq (by decide : (1 : Int32) = (1 : Int32))).2) ?_
        show own_E _ _ _ _ _ _ _ T24 (mkF m 63 #[.val (.int p1), .val (.int p2), .val (.int p3), .val (.int (1 : Int32)), .val (.int p2), .val (.ref b21), .val (.int (1 : Int32))] [])
        refine own_via (fun t => XS.iconst X24.here hx rfl (hb hby at_63)) ?_
        show own_E _ _ _ _ _ _ _ T24 (mkF m 64 #[.val (.int p1), .val (.int p2), .val (.int p3), .val (.int (1 : Int32)), .val (.int p2), .val (.ref b21), .val (.int (1 : Int32))] [(.int (1 : Int32))])
        refine own_via (fun t => XS.goto X24.here hx rfl (pc0 := 64) (pc' := 68) rfl (hb hby at_64) (by decide) (by decide)) ?_
        show own_E _ _ _ _ _ _ _ T24 (mkF m 68 #[.val (.int p1), .val (.int p2), .val (.int p3), .val (.int (1 : Int32)), .val (.int p2), .val (.ref b21), .val (.int (1 : Int32))] [(.int (1 : Int32))])
        refine own_retN X24 hx hlk Bd.returns (Or.inl rfl) (hb hby at_68) (by decide) (by decide) ⟨rfl, Fr.app NN22 N24⟩
      · refine own_via (fun t => XS.icmpYes X22.here hx rfl (pc0 := 43) (pc' := 50) rfl (hb hby at_43) rfl (feq c43_23).2 (by decide) (by decide)) ?_
        show own_E _ _ _ _ _ _ _ T22 (mkF m 50 #[.val (.int p1), .val (.int p2), .val (.int p3), .val (.int (1 : Int32)), .val (.int p2), .val (.ref b21), .unset] [])
        refine own_via (fun t => XS.iconst X22.here hx rfl (hb hby at_50)) ?_
        show own_E _ _ _ _ _ _ _ T22 (mkF m 51 #[.val (.int p1), .val (.int p2), .val (.int p3), .val (.int (1 : Int32)), .val (.int p2), .val (.ref b21), .unset] [(.int (0 : Int32))])
        refine own_via (fun t => XS.istore X22.here hx rfl (hb hby at_51) rfl (l' := #[.val (.int p1), .val (.int p2), .val (.int p3), .val (.int (1 : Int32)), .val (.int p2), .val (.ref b21), .val (.int (0 : Int32))]) rfl) ?_
        show own_E _ _ _ _ _ _ _ T22 (mkF m 53 #[.val (.int p1), .val (.int p2), .val (.int p3), .val (.int (1 : Int32)), .val (.int p2), .val (.ref b21), .val (.int (0 : Int32))] [])
        refine own_via (fun t => XS.aload X22.here hx rfl (hb hby at_53) rfl rfl) ?_
        show own_E _ _ _ _ _ _ _ T22 (mkF m 55 #[.val (.int p1), .val (.int p2), .val (.int p3), .val (.int (1 : Int32)), .val (.int p2), .val (.ref b21), .val (.int (0 : Int32))] [(.ref b21)])
        obtain ⟨cq25, kq25, q25a, q25b, q25c⟩ := isOf hZ (rfl : T22.heap = _) Ea22
        obtain ⟨_, _, ⟨T25, L25, k25, n25⟩, -, X25, ⟨Lc25, hQ25, l25, y25, z25⟩, st25⟩ := X22.virtualBack hx (y := (⟨"com/example/strategos/strategos/Result", "isSingle", "()Z"⟩ : MethodName)) (z := (⟨"com/example/strategos/strategos/Result", "isSingle", "()Z"⟩ : MethodName)) hown (mvT hZ (hw _ (List.mem_of_getElem? (i := 15) rfl))) (mvT hZ (hw _ (List.mem_of_getElem? (i := 16) rfl))) (notFace_of_selects (args := #[]) (mvT hZ (hw _ (List.mem_of_getElem? (i := 18) rfl)))) (mvT hZ (hw _ (List.mem_of_getElem? (i := 18) rfl))) (mvT hZ (hw _ (List.mem_of_getElem? (i := 17) rfl))) (by decide) (backOf (W := 0) (rm2 l Z a0 hw [] b21 p1 p2 T22.heap n0 ZZ22 Fa22 Fb22) hZ (hw _ (List.mem_of_getElem? (i := 19) rfl)) (hw _ (List.mem_of_getElem? (i := 2) rfl)) (by decide) (by decide)) q25a q25c (g := (mkF m 55 #[.val (.int p1), .val (.int p2), .val (.int p3), .val (.int (1 : Int32)), .val (.int p2), .val (.ref b21), .val (.int (0 : Int32))] [(.ref b21)])) rfl (by rw [hml]; rfl) (Steps.refl _) (argsL := []) (rest := []) (lenOf pd_2 rfl) rfl (by show 2 * 0 + _ ≤ _; exact Nat.le_of_eq rfl) (hb hby at_55) (fun _ _ => ⟨rfl, (rfl : T22.heap = _), (by decide : 1 + 0 ≤ _), (by decide : 3 + 0 ≤ _)⟩)
        dsimp only [Pt.U, Pt.locs, Pt.cells, Pt.slots] at X25 l25 y25 z25 st25 hQ25
        subst l25 y25 z25
        obtain ⟨rfl, N25, e25⟩ := hQ25
        refine own_thru st25 ?_
        show own_E _ _ _ _ _ _ _ T25 (mkF m 58 #[.val (.int p1), .val (.int p2), .val (.int p3), .val (.int (1 : Int32)), .val (.int p2), .val (.ref b21), .val (.int (0 : Int32))] [(.int (own_sg p1 p2))])
        rw [show own_sg p1 p2 = 0 from if_neg c43_23]
        show own_E _ _ _ _ _ _ _ T25 (mkF m 58 #[.val (.int p1), .val (.int p2), .val (.int p3), .val (.int (1 : Int32)), .val (.int p2), .val (.ref b21), .val (.int (0 : Int32))] [(.int (0 : Int32))])
        refine own_via (fun t => XS.iload X25.here hx rfl (hb hby at_58) rfl) ?_
        show own_E _ _ _ _ _ _ _ T25 (mkF m 60 #[.val (.int p1), .val (.int p2), .val (.int p3), .val (.int (1 : Int32)), .val (.int p2), .val (.ref b21), .val (.int (0 : Int32))] [(.int (0 : Int32)), (.int (0 : Int32))])
        refine own_via (fun t => XS.icmpNo X25.here hx rfl (hb hby at_60) rfl (teq (by decide : (0 : Int32) = (0 : Int32))).2) ?_
        show own_E _ _ _ _ _ _ _ T25 (mkF m 63 #[.val (.int p1), .val (.int p2), .val (.int p3), .val (.int (1 : Int32)), .val (.int p2), .val (.ref b21), .val (.int (0 : Int32))] [])
        refine own_via (fun t => XS.iconst X25.here hx rfl (hb hby at_63)) ?_
        show own_E _ _ _ _ _ _ _ T25 (mkF m 64 #[.val (.int p1), .val (.int p2), .val (.int p3), .val (.int (1 : Int32)), .val (.int p2), .val (.ref b21), .val (.int (0 : Int32))] [(.int (1 : Int32))])
        refine own_via (fun t => XS.goto X25.here hx rfl (pc0 := 64) (pc' := 68) rfl (hb hby at_64) (by decide) (by decide)) ?_
        show own_E _ _ _ _ _ _ _ T25 (mkF m 68 #[.val (.int p1), .val (.int p2), .val (.int p3), .val (.int (1 : Int32)), .val (.int p2), .val (.ref b21), .val (.int (0 : Int32))] [(.int (1 : Int32))])
        refine own_retN X25 hx hlk Bd.returns (Or.inl rfl) (hb hby at_68) (by decide) (by decide) ⟨rfl, Fr.app NN22 N25⟩
    · refine own_via (fun t => XS.ifNo X0.here hx rfl (hb hby at_15) rfl ((if0 _ _).trans (feq c15_20).1)) ?_
      show own_E _ _ _ _ _ _ _ s₁ (mkF m 18 #[.val (.int p1), .val (.int p2), .val (.int p3), .val (.int (1 : Int32)), .unset, .unset, .unset] [])
      refine own_via (fun t => XS.iloadN X0.here hx rfl (hb hby at_18) rfl) ?_
      show own_E _ _ _ _ _ _ _ s₁ (mkF m 19 #[.val (.int p1), .val (.int p2), .val (.int p3), .val (.int (1 : Int32)), .unset, .unset, .unset] [(.int p1)])
      refine own_via (fun t => XS.goto X0.here hx rfl (pc0 := 19) (pc' := 23) rfl (hb hby at_19) (by decide) (by decide)) ?_
      show own_E _ _ _ _ _ _ _ s₁ (mkF m 23 #[.val (.int p1), .val (.int p2), .val (.int p3), .val (.int (1 : Int32)), .unset, .unset, .unset] [(.int p1)])
      refine own_via (fun t => XS.istore X0.here hx rfl (hb hby at_23) rfl (l' := #[.val (.int p1), .val (.int p2), .val (.int p3), .val (.int (1 : Int32)), .val (.int p1), .unset, .unset]) rfl) ?_
      show own_E _ _ _ _ _ _ _ s₁ (mkF m 25 #[.val (.int p1), .val (.int p2), .val (.int p3), .val (.int (1 : Int32)), .val (.int p1), .unset, .unset] [])
      obtain ⟨T26, h26, X26, e26, E26, A26, D26, -, st26⟩ := newO X0 hx hZ hown (hw _ (List.mem_of_getElem? (i := 0) rfl)) (hw _ (List.mem_of_getElem? (i := 1) rfl)) (hw _ (List.mem_of_getElem? (i := 2) rfl)) e0 (g := (mkF m 25 #[.val (.int p1), .val (.int p2), .val (.int p3), .val (.int (1 : Int32)), .val (.int p1), .unset, .unset] [])) rfl (hb hby at_25) (by decide) (by decide)
      obtain ⟨b26, g26⟩ : ∃ z, z = h0.size := ⟨_, rfl⟩
      rw [← g26] at A26 D26 st26
      have gz_b26 : n0 ≤ b26 := Nat.le_trans Z0 (Nat.le_of_eq g26.symm)
      have Z26 : n0 ≤ h26.size := Nat.le_trans Z0 E26.1
      refine own_via st26 ?_
      show own_E _ _ _ _ _ _ _ T26 (mkF m 28 #[.val (.int p1), .val (.int p2), .val (.int p3), .val (.int (1 : Int32)), .val (.int p1), .unset, .unset] [(.ref b26)])
      have F1_26 : Fld Z h26 b26 "com/example/strategos/strategos/Result" "min" "D" (.double 0) := D26 (Or.inr (hw _ (List.mem_of_getElem? (i := 10) rfl))) (ty := .double) (by decide)
      have F2_26 : Fld Z h26 b26 "com/example/strategos/strategos/Result" "max" "D" (.double 0) := D26 (Or.inr (hw _ (List.mem_of_getElem? (i := 12) rfl))) (ty := .double) (by decide)
      have F3_26 : Fld Z h26 b26 "com/example/strategos/strategos/Result" "number" "Z" (.int 0) := D26 (Or.inr (hw _ (List.mem_of_getElem? (i := 14) rfl))) (ty := .boolean) (by decide)
      refine own_via (fun t => XS.dup X26.here hx rfl (hb hby at_28) rfl rfl) ?_
      show own_E _ _ _ _ _ _ _ T26 (mkF m 29 #[.val (.int p1), .val (.int p2), .val (.int p3), .val (.int (1 : Int32)), .val (.int p1), .unset, .unset] [(.ref b26), (.ref b26)])
      refine own_via (fun t => XS.iloadN X26.here hx rfl (hb hby at_29) rfl) ?_
      show own_E _ _ _ _ _ _ _ T26 (mkF m 30 #[.val (.int p1), .val (.int p2), .val (.int p3), .val (.int (1 : Int32)), .val (.int p1), .unset, .unset] [(.int p1), (.ref b26), (.ref b26)])
      refine own_via (fun t => XS.i2dS X26.here hx rfl (hb hby at_30) rfl (i2d_w _)) ?_
      show own_E _ _ _ _ _ _ _ T26 (mkF m 31 #[.val (.int p1), .val (.int p2), .val (.int p3), .val (.int (1 : Int32)), .val (.int p1), .unset, .unset] [(.double (FP.l2d p1.toInt64)), (.ref b26), (.ref b26)])
      refine own_via (fun t => XS.iload X26.here hx rfl (hb hby at_31) rfl) ?_
      show own_E _ _ _ _ _ _ _ T26 (mkF m 33 #[.val (.int p1), .val (.int p2), .val (.int p3), .val (.int (1 : Int32)), .val (.int p1), .unset, .unset] [(.int p1), (.double (FP.l2d p1.toInt64)), (.ref b26), (.ref b26)])
      refine own_via (fun t => XS.i2dS X26.here hx rfl (hb hby at_33) rfl (i2d_w _)) ?_
      show own_E _ _ _ _ _ _ _ T26 (mkF m 34 #[.val (.int p1), .val (.int p2), .val (.int p3), .val (.int (1 : Int32)), .val (.int p1), .unset, .unset] [(.double (FP.l2d p1.toInt64)), (.double (FP.l2d p1.toInt64)), (.ref b26), (.ref b26)])
      refine own_via (fun t => XS.iloadN X26.here hx rfl (hb hby at_34) rfl) ?_
      show own_E _ _ _ _ _ _ _ T26 (mkF m 35 #[.val (.int p1), .val (.int p2), .val (.int p3), .val (.int (1 : Int32)), .val (.int p1), .unset, .unset] [(.int (1 : Int32)), (.double (FP.l2d p1.toInt64)), (.double (FP.l2d p1.toInt64)), (.ref b26), (.ref b26)])
      obtain ⟨_, _, ⟨T27, L27, k27, n27⟩, -, X27, ⟨Lc27, hQ27, l27, y27, z27⟩, st27⟩ := X26.specialBack hx (y := (⟨"com/example/strategos/strategos/Result", "<init>", "(DDZ)V"⟩ : MethodName)) rfl hown (mvT hZ (hw _ (List.mem_of_getElem? (i := 3) rfl))) (mvT hZ (hw _ (List.mem_of_getElem? (i := 4) rfl))) (mvT hZ (hw _ (List.mem_of_getElem? (i := 5) rfl))) (by decide) (backOf (W := 1) (rm1 l Z a0 hw [] b26 _ _ (1 : Int32) rfl rfl h26 n0 Z26 A26 F1_26 F2_26 F3_26 gz_b26) hZ (hw _ (List.mem_of_getElem? (i := 5) rfl)) (hw _ (List.mem_of_getElem? (i := 2) rfl)) (by decide) (by decide)) (g := (mkF m 35 #[.val (.int p1), .val (.int p2), .val (.int p3), .val (.int (1 : Int32)), .val (.int p1), .unset, .unset] [(.int (1 : Int32)), (.double (FP.l2d p1.toInt64)), (.double (FP.l2d p1.toInt64)), (.ref b26), (.ref b26)])) rfl (by rw [hml]; rfl) (Steps.refl _) (a := b26) (argsL := [(.double (FP.l2d p1.toInt64)), (.double (FP.l2d p1.toInt64)), (.int (1 : Int32))]) (rest := [(.ref b26)]) (lenOf pd_1 rfl) rfl (by show 2 * 0 + _ ≤ _; exact Nat.le_of_eq rfl) (hb hby at_35) (fun _ _ => ⟨rfl, e26, (by decide : 1 + 0 ≤ _), (by decide : 3 + 0 ≤ _)⟩)
      dsimp only [Pt.U, Pt.locs, Pt.cells, Pt.slots] at X27 l27 y27 z27 st27 hQ27
      subst l27 y27 z27
      obtain ⟨rfl, N27, K27, Ea27, Fa27, Fb27⟩ := hQ27
      refine own_thru st27 ?_
      show own_E _ _ _ _ _ _ _ T27 (mkF m 38 #[.val (.int p1), .val (.int p2), .val (.int p3), .val (.int (1 : Int32)), .val (.int p1), .unset, .unset] [(.ref b26)])
      have NN27 := Fr.app N0 N27
      have ZZ27 : n0 ≤ T27.heap.size := Nat.le_trans Z26 K27.1
      refine own_via (fun t => XS.astore X27.here hx rfl (hb hby at_38) rfl rfl (l' := #[.val (.int p1), .val (.int p2), .val (.int p3), .val (.int (1 : Int32)), .val (.int p1), .val (.ref b26), .unset]) rfl) ?_
      show own_E _ _ _ _ _ _ _ T27 (mkF m 40 #[.val (.int p1), .val (.int p2), .val (.int p3), .val (.int (1 : Int32)), .val (.int p1), .val (.ref b26), .unset] [])
      refine own_via (fun t => XS.iloadN X27.here hx rfl (hb hby at_40) rfl) ?_
      show own_E _ _ _ _ _ _ _ T27 (mkF m 41 #[.val (.int p1), .val (.int p2), .val (.int p3), .val (.int (1 : Int32)), .val (.int p1), .val (.ref b26), .unset] [(.int p1)])
      refine own_via (fun t => XS.iload X27.here hx rfl (hb hby at_41) rfl) ?_
      show own_E _ _ _ _ _ _ _ T27 (mkF m 43 #[.val (.int p1), .val (.int p2), .val (.int p3), .val (.int (1 : Int32)), .val (.int p1), .val (.ref b26), .unset] [(.int p1), (.int p1)])
      by_cases c43_28 : p1 = p1
      · refine own_via (fun t => XS.icmpNo X27.here hx rfl (hb hby at_43) rfl (teq c43_28).2) ?_
        show own_E _ _ _ _ _ _ _ T27 (mkF m 46 #[.val (.int p1), .val (.int p2), .val (.int p3), .val (.int (1 : Int32)), .val (.int p1), .val (.ref b26), .unset] [])
        refine own_via (fun t => XS.iconst X27.here hx rfl (hb hby at_46)) ?_
        show own_E _ _ _ _ _ _ _ T27 (mkF m 47 #[.val (.int p1), .val (.int p2), .val (.int p3), .val (.int (1 : Int32)), .val (.int p1), .val (.ref b26), .unset] [(.int (1 : Int32))])
        refine own_via (fun t => XS.goto X27.here hx rfl (pc0 := 47) (pc' := 51) rfl (hb hby at_47) (by decide) (by decide)) ?_
        show own_E _ _ _ _ _ _ _ T27 (mkF m 51 #[.val (.int p1), .val (.int p2), .val (.int p3), .val (.int (1 : Int32)), .val (.int p1), .val (.ref b26), .unset] [(.int (1 : Int32))])
        refine own_via (fun t => XS.istore X27.here hx rfl (hb hby at_51) rfl (l' := #[.val (.int p1), .val (.int p2), .val (.int p3), .val (.int (1 : Int32)), .val (.int p1), .val (.ref b26), .val (.int (1 : Int32))]) rfl) ?_
        show own_E _ _ _ _ _ _ _ T27 (mkF m 53 #[.val (.int p1), .val (.int p2), .val (.int p3), .val (.int (1 : Int32)), .val (.int p1), .val (.ref b26), .val (.int (1 : Int32))] [])
        refine own_via (fun t => XS.aload X27.here hx rfl (hb hby at_53) rfl rfl) ?_
        show own_E _ _ _ _ _ _ _ T27 (mkF m 55 #[.val (.int p1), .val (.int p2), .val (.int p3), .val (.int (1 : Int32)), .val (.int p1), .val (.ref b26), .val (.int (1 : Int32))] [(.ref b26)])
        obtain ⟨cq29, kq29, q29a, q29b, q29c⟩ := isOf hZ (rfl : T27.heap = _) Ea27
        obtain ⟨_, _, ⟨T29, L29, k29, n29⟩, -, X29, ⟨Lc29, hQ29, l29, y29, z29⟩, st29⟩ := X27.virtualBack hx (y := (⟨"com/example/strategos/strategos/Result", "isSingle", "()Z"⟩ : MethodName)) (z := (⟨"com/example/strategos/strategos/Result", "isSingle", "()Z"⟩ : MethodName)) hown (mvT hZ (hw _ (List.mem_of_getElem? (i := 15) rfl))) (mvT hZ (hw _ (List.mem_of_getElem? (i := 16) rfl))) (notFace_of_selects (args := #[]) (mvT hZ (hw _ (List.mem_of_getElem? (i := 18) rfl)))) (mvT hZ (hw _ (List.mem_of_getElem? (i := 18) rfl))) (mvT hZ (hw _ (List.mem_of_getElem? (i := 17) rfl))) (by decide) (backOf (W := 0) (rm2 l Z a0 hw [] b26 p1 p1 T27.heap n0 ZZ27 Fa27 Fb27) hZ (hw _ (List.mem_of_getElem? (i := 19) rfl)) (hw _ (List.mem_of_getElem? (i := 2) rfl)) (by decide) (by decide)) q29a q29c (g := (mkF m 55 #[.val (.int p1), .val (.int p2), .val (.int p3), .val (.int (1 : Int32)), .val (.int p1), .val (.ref b26), .val (.int (1 : Int32))] [(.ref b26)])) rfl (by rw [hml]; rfl) (Steps.refl _) (argsL := []) (rest := []) (lenOf pd_2 rfl) rfl (by show 2 * 0 + _ ≤ _; exact Nat.le_of_eq rfl) (hb hby at_55) (fun _ _ => ⟨rfl, (rfl : T27.heap = _), (by decide : 1 + 0 ≤ _), (by decide : 3 + 0 ≤ _)⟩)
        dsimp only [Pt.U, Pt.locs, Pt.cells, Pt.slots] at X29 l29 y29 z29 st29 hQ29
        subst l29 y29 z29
        obtain ⟨rfl, N29, e29⟩ := hQ29
        refine own_thru st29 ?_
        show own_E _ _ _ _ _ _ _ T29 (mkF m 58 #[.val (.int p1), .val (.int p2), .val (.int p3), .val (.int (1 : Int32)), .val (.int p1), .val (.ref b26), .val (.int (1 : Int32))] [(.int (own_sg p1 p1))])
        rw [show own_sg p1 p1 = 1 from if_pos c43_28]
        show own_E _ _ _ _ _ _ _ T29 (mkF m 58 #[.val (.int p1), .val (.int p2), .val (.int p3), .val (.int (1 : Int32)), .val (.int p1), .val (.ref b26), .val (.int (1 : Int32))] [(.int (1 : Int32))])
        refine own_via (fun t => XS.iload X29.here hx rfl (hb hby at_58) rfl) ?_
        show own_E _ _ _ _ _ _ _ T29 (mkF m 60 #[.val (.int p1), .val (.int p2), .val (.int p3), .val (.int (1 : Int32)), .val (.int p1), .val (.ref b26), .val (.int (1 : Int32))] [(.int (1 : Int32)), (.int (1 : Int32))])
        refine own_via (fun t => XS.icmpNo X29.here hx rfl (hb hby at_60) rfl (teq (by decide : (1 : Int32) = (1 : Int32))).2) ?_
        show own_E _ _ _ _ _ _ _ T29 (mkF m 63 #[.val (.int p1), .val (.int p2), .val (.int p3), .val (.int (1 : Int32)), .val (.int p1), .val (.ref b26), .val (.int (1 : Int32))] [])
        refine own_via (fun t => XS.iconst X29.here hx rfl (hb hby at_63)) ?_
        show own_E _ _ _ _ _ _ _ T29 (mkF m 64 #[.val (.int p1), .val (.int p2), .val (.int p3), .val (.int (1 : Int32)), .val (.int p1), .val (.ref b26), .val (.int (1 : Int32))] [(.int (1 : Int32))])
        refine own_via (fun t => XS.goto X29.here hx rfl (pc0 := 64) (pc' := 68) rfl (hb hby at_64) (by decide) (by decide)) ?_
        show own_E _ _ _ _ _ _ _ T29 (mkF m 68 #[.val (.int p1), .val (.int p2), .val (.int p3), .val (.int (1 : Int32)), .val (.int p1), .val (.ref b26), .val (.int (1 : Int32))] [(.int (1 : Int32))])
        refine own_retN X29 hx hlk Bd.returns (Or.inl rfl) (hb hby at_68) (by decide) (by decide) ⟨rfl, Fr.app NN27 N29⟩
      · refine own_via (fun t => XS.icmpYes X27.here hx rfl (pc0 := 43) (pc' := 50) rfl (hb hby at_43) rfl (feq c43_28).2 (by decide) (by decide)) ?_
        show own_E _ _ _ _ _ _ _ T27 (mkF m 50 #[.val (.int p1), .val (.int p2), .val (.int p3), .val (.int (1 : Int32)), .val (.int p1), .val (.ref b26), .unset] [])
        refine own_via (fun t => XS.iconst X27.here hx rfl (hb hby at_50)) ?_
        show own_E _ _ _ _ _ _ _ T27 (mkF m 51 #[.val (.int p1), .val (.int p2), .val (.int p3), .val (.int (1 : Int32)), .val (.int p1), .val (.ref b26), .unset] [(.int (0 : Int32))])
        refine own_via (fun t => XS.istore X27.here hx rfl (hb hby at_51) rfl (l' := #[.val (.int p1), .val (.int p2), .val (.int p3), .val (.int (1 : Int32)), .val (.int p1), .val (.ref b26), .val (.int (0 : Int32))]) rfl) ?_
        show own_E _ _ _ _ _ _ _ T27 (mkF m 53 #[.val (.int p1), .val (.int p2), .val (.int p3), .val (.int (1 : Int32)), .val (.int p1), .val (.ref b26), .val (.int (0 : Int32))] [])
        refine own_via (fun t => XS.aload X27.here hx rfl (hb hby at_53) rfl rfl) ?_
        show own_E _ _ _ _ _ _ _ T27 (mkF m 55 #[.val (.int p1), .val (.int p2), .val (.int p3), .val (.int (1 : Int32)), .val (.int p1), .val (.ref b26), .val (.int (0 : Int32))] [(.ref b26)])
        obtain ⟨cq30, kq30, q30a, q30b, q30c⟩ := isOf hZ (rfl : T27.heap = _) Ea27
        obtain ⟨_, _, ⟨T30, L30, k30, n30⟩, -, X30, ⟨Lc30, hQ30, l30, y30, z30⟩, st30⟩ := X27.virtualBack hx (y := (⟨"com/example/strategos/strategos/Result", "isSingle", "()Z"⟩ : MethodName)) (z := (⟨"com/example/strategos/strategos/Result", "isSingle", "()Z"⟩ : MethodName)) hown (mvT hZ (hw _ (List.mem_of_getElem? (i := 15) rfl))) (mvT hZ (hw _ (List.mem_of_getElem? (i := 16) rfl))) (notFace_of_selects (args := #[]) (mvT hZ (hw _ (List.mem_of_getElem? (i := 18) rfl)))) (mvT hZ (hw _ (List.mem_of_getElem? (i := 18) rfl))) (mvT hZ (hw _ (List.mem_of_getElem? (i := 17) rfl))) (by decide) (backOf (W := 0) (rm2 l Z a0 hw [] b26 p1 p1 T27.heap n0 ZZ27 Fa27 Fb27) hZ (hw _ (List.mem_of_getElem? (i := 19) rfl)) (hw _ (List.mem_of_getElem? (i := 2) rfl)) (by decide) (by decide)) q30a q30c (g := (mkF m 55 #[.val (.int p1), .val (.int p2), .val (.int p3), .val (.int (1 : Int32)), .val (.int p1), .val (.ref b26), .val (.int (0 : Int32))] [(.ref b26)])) rfl (by rw [hml]; rfl) (Steps.refl _) (argsL := []) (rest := []) (lenOf pd_2 rfl) rfl (by show 2 * 0 + _ ≤ _; exact Nat.le_of_eq rfl) (hb hby at_55) (fun _ _ => ⟨rfl, (rfl : T27.heap = _), (by decide : 1 + 0 ≤ _), (by decide : 3 + 0 ≤ _)⟩)
        dsimp only [Pt.U, Pt.locs, Pt.cells, Pt.slots] at X30 l30 y30 z30 st30 hQ30
        subst l30 y30 z30
        obtain ⟨rfl, N30, e30⟩ := hQ30
        refine own_thru st30 ?_
        show own_E _ _ _ _ _ _ _ T30 (mkF m 58 #[.val (.int p1), .val (.int p2), .val (.int p3), .val (.int (1 : Int32)), .val (.int p1), .val (.ref b26), .val (.int (0 : Int32))] [(.int (own_sg p1 p1))])
        rw [show own_sg p1 p1 = 0 from if_neg c43_28]
        show own_E _ _ _ _ _ _ _ T30 (mkF m 58 #[.val (.int p1), .val (.int p2), .val (.int p3), .val (.int (1 : Int32)), .val (.int p1), .val (.ref b26), .val (.int (0 : Int32))] [(.int (0 : Int32))])
        refine own_via (fun t => XS.iload X30.here hx rfl (hb hby at_58) rfl) ?_
        show own_E _ _ _ _ _ _ _ T30 (mkF m 60 #[.val (.int p1), .val (.int p2), .val (.int p3), .val (.int (1 : Int32)), .val (.int p1), .val (.ref b26), .val (.int (0 : Int32))] [(.int (0 : Int32)), (.int (0 : Int32))])
        refine own_via (fun t => XS.icmpNo X30.here hx rfl (hb hby at_60) rfl (teq (by decide : (0 : Int32) = (0 : Int32))).2) ?_
        show own_E _ _ _ _ _ _ _ T30 (mkF m 63 #[.val (.int p1), .val (.int p2), .val (.int p3), .val (.int (1 : Int32)), .val (.int p1), .val (.ref b26), .val (.int (0 : Int32))] [])
        refine own_via (fun t => XS.iconst X30.here hx rfl (hb hby at_63)) ?_
        show own_E _ _ _ _ _ _ _ T30 (mkF m 64 #[.val (.int p1), .val (.int p2), .val (.int p3), .val (.int (1 : Int32)), .val (.int p1), .val (.ref b26), .val (.int (0 : Int32))] [(.int (1 : Int32))])
        refine own_via (fun t => XS.goto X30.here hx rfl (pc0 := 64) (pc' := 68) rfl (hb hby at_64) (by decide) (by decide)) ?_
        show own_E _ _ _ _ _ _ _ T30 (mkF m 68 #[.val (.int p1), .val (.int p2), .val (.int p3), .val (.int (1 : Int32)), .val (.int p1), .val (.ref b26), .val (.int (0 : Int32))] [(.int (1 : Int32))])
        refine own_retN X30 hx hlk Bd.returns (Or.inl rfl) (hb hby at_68) (by decide) (by decide) ⟨rfl, Fr.app NN27 N30⟩
set_option maxRecDepth 65536 in
set_option maxHeartbeats 40000000 in
theorem comes_1 {Post : Tables → Env → Array Value → State → Outcome → State → Prop} (hpost : ∀ tb e args s v u, (limb_1_1.after args s (.returned v) u = true ∧ limb_1_2.after args s (.returned v) u = true ∧ True) → FrameEnd s (.returned v) u (Jvm.fieldLocs frame_1_writes args s ++ Jvm.arrayLocs frame_1_arrays args s ++ Jvm.staticLocs frame_1_statics s) 16 128 → Post tb e args s (.returned v) u) :
    ArmFor flags0 classFile x code maxLocals ret World_1 tables_1 room_1 Calls_1 rest_1 Pre_1 Post := by
  intro l hfl _ _ p e ha hc hk s m args below hf hA hF happ hP
  obtain ⟨hcalls, hrest, hpre⟩ := hP
  obtain ⟨-, -, -, hnamed, -, -, -, hat⟩ := (Spec.applies_iff hf).mp happ
  obtain ⟨hg, hn⟩ := and_e (Cond.before_iff.mp (show (Jvm.Cond.and given_1 narrow_1).before args s = true from hpre))
  obtain ⟨hcount, hg0⟩ := and_e hg
  obtain ⟨hi0, hg1⟩ := and_e hg0
  obtain ⟨hi1, hg2⟩ := and_e hg1
  have hi2 := hg2
  obtain ⟨w0, w1, w2, rfl⟩ : ∃ w0 w1 w2 : Value, args = #[w0, w1, w2] := by
    have hs : args.size = 3 := by simpa [Cond.value, given_1] using hcount
    obtain ⟨L⟩ := args
    match L, hs with
    | [w0, w1, w2], _ => exact ⟨w0, w1, w2, rfl⟩
  have hw := fun d (hd : d ∈ tables_1) => atoms_spec (ws := Jvm.Cond.code x code maxLocals ret :: tables_1) hat d (List.mem_cons_of_mem _ hd)
  have hfit : Fit s := fun {y c} hc i hi => by
    obtain ⟨ha, rfl⟩ := Array.getElem?_eq_some_iff.mp hc
    have q := List.all_eq_true.mp ((Array.all_eq_true_iff_forall_mem.mp hF) _ (Array.getElem_mem ha)) i (List.mem_range.mpr hi)
    simpa [Array.getElem?_eq_getElem hi] using q
  obtain ⟨i0, ei0⟩ := is_v hi0
  obtain rfl : w0 = (.int i0) := Option.some.inj ei0
  obtain ⟨i1, ei1⟩ := is_v hi1
  obtain rfl : w1 = (.int i1) := Option.some.inj ei1
  obtain ⟨i2, ei2⟩ := is_v hi2
  obtain rfl : w2 = (.int i2) := Option.some.inj ei2
  obtain ⟨n, o, h1, h2, h3, _, L, rfl, ⟨rfl, N⟩, hq⟩ := rm0 l s _ hw tables_1 i0 i1 i2 s.heap s.heap.size (Nat.le_refl _) p e ha hc hk s m _ below hf ((Spec.applies_iff_loose hf).mp happ).1 ⟨rfl, State.Warmed39.refl s, rfl⟩ trivial
  refine ⟨n, _, h1, h2, h3, hpost _ _ _ _ _ _ ⟨Cond.after_iff.mpr rfl, Cond.after_iff.mpr (eq_i res_at (Term.int_eval (1)) rfl), trivial⟩ ⟨hq.1, hq.2.1, (hq.2.2.sift fun y hy => Or.inr (N y hy)).mono (by decide) (by decide)⟩⟩
theorem main_1_1 : Claimed_1_1 := comes_1 fun _ _ _ _ _ _ h hF => ⟨h.1, hF⟩
theorem main_1_2 : Claimed_1_2 := comes_1 fun _ _ _ _ _ _ h hF => ⟨h.2.1, hF⟩
end Jvm.Pilot.@@N@@
namespace Jvm.Pilot.@@N@@
open Jvm Jvm.ClassFile Sem Op Lib Jvm.Free Jvm.Stand Jvm.Pilot.@@N@@.Jvm.D
/-! MADE BY PROGRAM (witnessworld.py) out of the Statement's table words and the real class files: 7 classes; the members and pool entries that the words name. The judged class is class 1, her method 1. -/
namespace start1
open Jvm.ClassFile
def u (s : String) : CpInfo := .utf8 (stringToUtf16 s)
/-- a pool by its gaps: so many unusable entries, then the entry; so many at the end -/
def gap : Nat → List CpInfo → List CpInfo
  | 0, r => r
  | n + 1, r => .unusable :: gap n r
def poolList (es : List (Nat × CpInfo)) (last : Nat) : List CpInfo := es.foldr (fun e r => gap e.1 (e.2 :: r)) (gap last [])
def pool (es : List (Nat × CpInfo)) (last : Nat) : Array CpInfo := ⟨poolList es last⟩
def fileOf (pool : Array CpInfo) (this : Nat) (attrs : Array Attribute := #[]) (ms : Array MethodInfo := #[]) (fl : Nat := 33) (sup : Nat := 0) (ifs : Array Nat := #[]) (fds : Array FieldInfo := #[]) : ClassFile where
  minorVersion := 0
  majorVersion := 65
  constantPool := pool
  accessFlags := fl
  thisClass := this
  superClass := sup
  interfaces := ifs
  fields := fds
  methods := ms
  attributes := attrs
def plain (name : String) (sup : Option ClassId) : Class where
  name := name
  kind := .ordinary
  loader := none
  accessFlags := 33
  super := sup
  interfaces := #[]
  cf := none
  fields := #[]
  methods := #[]
  instanceTypes := #[]
  staticTypes := #[]
  resolved := #[]
  callSites := []
  init := .initialized
  statics := none
  mirror := none

def pool0 : Array CpInfo := pool [(5, u "<init>"), (0, u "()V"), (1, .class_ 10), (1, u "java/lang/Object")] 113

def k0c0 : Code := { maxStack := 0, maxLocals := 1, code := object_method_1_code, exceptionTable := #[], attributes := #[] }
def k0m0 : Method := { name := "<init>", desc := "()V", sig := { parameters := [], returnType := none }, accessFlags := 1, code := some k0c0 }
/-- java/lang/Object -/
def k0 : Class := { plain "java/lang/Object" none with
  accessFlags := 33
  interfaces := #[]
  cf := some (fileOf pool0 8 #[] #[{ accessFlags := 1, nameIndex := 5, descriptorIndex := 6, attributes := #[] }] 33 0 #[] #[])
  fields := #[]
  methods := #[k0m0]
  instanceTypes := #[]
  staticTypes := #[]
  resolved := Array.replicate 124 none
  statics := none }

def pool1 : Array CpInfo := pool [(2, .class_ 4), (1, u "java/lang/Object"), (0, u "<init>"), (0, u "()V"), (0, .class_ 8), (0, u "com/example/strategos/strategos/Result"), (0, .methodref 7 10), (0, .nameAndType 5 11), (0, u "(DDZ)V"), (0, .methodref 7 13), (0, .nameAndType 14 15), (0, u "isSingle"), (0, u "()Z"), (0, .class_ 17), (0, u "com/example/strategos/strategos/ResultIsSinglePinLaw"), (2, u "law"), (0, u "(III)Z")] 3

def k1m0 : Method := { name := "<init>", desc := "()V", sig := { parameters := [], returnType := none }, accessFlags := 1, code := none }
def k1c1 : Code := { maxStack := 7, maxLocals := 7, code := code, exceptionTable := #[], attributes := #[] }
def k1m1 : Method := { name := "law", desc := "(III)Z", sig := { parameters := [.int, .int, .int], returnType := some .boolean }, accessFlags := 9, code := some k1c1 }
/-- com/example/strategos/strategos/ResultIsSinglePinLaw -/
def k1 : Class := { plain "com/example/strategos/strategos/ResultIsSinglePinLaw" (some 0) with
  accessFlags := 49
  interfaces := #[]
  cf := some (fileOf pool1 16 #[] #[{ accessFlags := 1, nameIndex := 5, descriptorIndex := 6, attributes := #[] }, { accessFlags := 9, nameIndex := 20, descriptorIndex := 21, attributes := #[] }] 49 2 #[] #[])
  fields := #[]
  methods := #[k1m0, k1m1]
  instanceTypes := #[]
  staticTypes := #[]
  resolved := Array.replicate 25 none
  statics := none }

def pool2 : Array CpInfo := pool [(1, .methodref 2 3), (0, .class_ 4), (0, .nameAndType 5 6), (0, u "java/lang/Object"), (0, u "<init>"), (0, u "()V"), (0, .fieldref 8 9), (0, .class_ 10), (0, .nameAndType 11 12), (0, u "com/example/strategos/strategos/Result"), (0, u "min"), (0, u "D"), (0, .fieldref 8 14), (0, .nameAndType 15 12), (0, u "max"), (0, .fieldref 8 17), (0, .nameAndType 18 19), (0, u "number"), (0, u "Z"), (21, u "(DDZ)V"), (4, u "()Z"), (0, u "isSingle")] 7

def k2c0 : Code := { maxStack := 3, maxLocals := 6, code := prog_6_method_1_code, exceptionTable := #[], attributes := #[] }
def k2m0 : Method := { name := "<init>", desc := "(DDZ)V", sig := { parameters := [.double, .double, .boolean], returnType := none }, accessFlags := 0, code := some k2c0 }
def k2c1 : Code := { maxStack := 4, maxLocals := 1, code := prog_6_method_5_code, exceptionTable := #[], attributes := #[] }
def k2m1 : Method := { name := "isSingle", desc := "()Z", sig := { parameters := [], returnType := some .boolean }, accessFlags := 0, code := some k2c1 }
/-- com/example/strategos/strategos/Result -/
def k2 : Class := { plain "com/example/strategos/strategos/Result" (some 0) with
  accessFlags := 48
  interfaces := #[]
  cf := some (fileOf pool2 8 #[] #[{ accessFlags := 0, nameIndex := 5, descriptorIndex := 41, attributes := #[] }, { accessFlags := 0, nameIndex := 47, descriptorIndex := 46, attributes := #[] }] 48 2 #[] #[{ accessFlags := 18, nameIndex := 11, descriptorIndex := 12, attributes := #[] }, { accessFlags := 18, nameIndex := 15, descriptorIndex := 12, attributes := #[] }, { accessFlags := 18, nameIndex := 18, descriptorIndex := 19, attributes := #[] }])
  fields := #[{ name := "min", type := .double, accessFlags := 18, slot := 0, constantValue := 0 }, { name := "max", type := .double, accessFlags := 18, slot := 1, constantValue := 0 }, { name := "number", type := .boolean, accessFlags := 18, slot := 2, constantValue := 0 }]
  methods := #[k2m0, k2m1]
  instanceTypes := #[.double, .double, .boolean]
  staticTypes := #[]
  resolved := Array.replicate 55 none
  statics := none }

def pool3 : Array CpInfo := pool [(1, u "java/lang/Cloneable"), (0, .class_ 1), (0, u "java/lang/Object"), (0, .class_ 3)] 3

/-- java/lang/Cloneable -/
def k3 : Class := { plain "java/lang/Cloneable" (some 0) with
  accessFlags := 1537
  interfaces := #[]
  cf := some (fileOf pool3 2 #[] #[] 1537 4 #[] #[])
  fields := #[]
  methods := #[]
  instanceTypes := #[]
  staticTypes := #[]
  resolved := Array.replicate 8 none
  statics := none }

def pool4 : Array CpInfo := pool [(1, u "java/io/Serializable"), (0, .class_ 1), (0, u "java/lang/Object"), (0, .class_ 3)] 3

/-- java/io/Serializable -/
def k4 : Class := { plain "java/io/Serializable" (some 0) with
  accessFlags := 1537
  interfaces := #[]
  cf := some (fileOf pool4 2 #[] #[] 1537 4 #[] #[])
  fields := #[]
  methods := #[]
  instanceTypes := #[]
  staticTypes := #[]
  resolved := Array.replicate 8 none
  statics := none }

/-- the primitive byte -/
def k5 : Class := { plain "byte" none with kind := .primitive 'B', accessFlags := 0x411 }
/-- [B -/
def k6 : Class := { plain "[B" (some 0) with kind := .array 5 .byte, interfaces := #[3, 4], accessFlags := 1041 }

def heap : Heap := #[]
def classes : Array Class := #[k0, k1, k2, k3, k4, k5, k6]
def interned : List (Array UInt16 × Addr) := []
def slotsUsed : Nat := 0
def theMethod : MethodId := ⟨1, 1⟩
def args0 : Array Value := #[.int 5, .int 3, .int 1]
def aboutOver (below : List Frame) : State where
  vm := { classes := classes, interned := interned.toArray }
  heap := heap
  slotsUsed := slotsUsed
  threads := #[{ frames := .invoking theMethod args0 :: below }]
def below0 : List Frame := [.native { method := ⟨0, 0⟩, args := #[] }]
def about1 : State := aboutOver below0
def p0 : Program := .bare "" "" ""
def e0 : Env := launch0.env 0 0 0
theorem w_frames : about1.frames = Frame.invoking theMethod args0 :: below0 := rfl
set_option maxRecDepth 65536 in
theorem w_args : argsFit about1.vm theMethod args0 = true := by decide +kernel
set_option maxRecDepth 65536 in
theorem w_heap : heapFits about1 = true := by decide +kernel
set_option maxRecDepth 65536 in
theorem w_runnable : about1.curStatus? = some .runnable := by decide +kernel
set_option maxRecDepth 65536 in
theorem w_alone : about1.alone = true := by decide +kernel
set_option maxRecDepth 65536 in
theorem w_named : about1.methodNamed? x = some theMethod := by decide +kernel
set_option maxRecDepth 65536 in
theorem w_hears : about1.hears theMethod below0 = true := by decide +kernel
set_option maxRecDepth 65536 in
theorem w_ripe : about1.ripe theMethod args0 below0 = true := by decide +kernel
theorem w_running : about1.status = .running := rfl
set_option maxRecDepth 65536 in
theorem w_room : about1.hasRoom e0.platform room_1 = true :=
  launch0.hasRoom_least _ room_1 (by decide +kernel) (by decide +kernel) (by decide +kernel) (by decide +kernel) (by decide +kernel) (by decide +kernel)
theorem allAtoms_all (ts : List Jvm.Cond) (a : Array Jvm.Value) (st : Jvm.State) : (allAtoms ts).before a st = ts.all (fun c => c.before a st) := by
  induction ts with
  | nil => rfl
  | cons c t ih =>
    show (Jvm.Cond.and c (allAtoms t)).before a st = _
    rw [Jvm.Cond.before_and, ih, List.all_cons]
def words1 : List Jvm.Cond := Jvm.Cond.code x code maxLocals ret :: tables_1
/-- a 'code' word, met by the world's own term for the bytes: nothing is compared byte by byte -/
theorem code_word {y : MethodName} {bytes : ByteArray} {mx : Nat} {rt : Option FieldType} {a : Array Value} {s : State} {m : MethodId} {meth : Method} {c : Code} (h1 : s.methodNamed? y = some m) (h2 : s.vm.method? m = some meth) (h3 : meth.code = some c) (h4 : c.code = bytes)
    (h5 : (c.maxLocals == mx && c.exceptionTable.isEmpty && decide (c.maxStack ≤ mostOperands) && decide (meth.sig.returnType = rt) && !meth.locks && decide (parseMethodDescriptor y.desc = some meth.sig)) = true) : (Jvm.Cond.code y bytes mx rt).before a s = true := by
  simp only [Bool.and_eq_true, beq_iff_eq, Bool.not_eq_true', decide_eq_true_eq] at h5
  obtain ⟨⟨⟨⟨⟨g1, g2⟩, g3⟩, g4⟩, g5⟩, g6⟩ := h5
  simp [Cond.before, Cond.holds, Cond.value, h1, h2, h3, h4, g1, g2, g3, g4, g5, g6]
def isCode : Jvm.Cond → Bool
  | .code _ _ _ _ => true
  | _ => false
theorem all_split {L : List Jvm.Cond} {P : Jvm.Cond → Bool} (h1 : L.all (fun c => isCode c || P c) = true) (h2 : ∀ c ∈ L.filter isCode, P c = true) : L.all P = true := by
  refine List.all_eq_true.mpr fun c hc => ?_
  have h := List.all_eq_true.mp h1 c hc
  rcases Bool.eq_false_or_eq_true (isCode c) with hi | hi
  · exact h2 c (List.mem_filter.mpr ⟨hc, hi⟩)
  · simpa [hi] using h
set_option maxRecDepth 65536 in
theorem w_c0 : (Jvm.Cond.code x code maxLocals ret).before args0 about1 = true := code_word (m := ⟨1, 1⟩) (meth := k1m1) (c := k1c1) (by decide +kernel) rfl rfl rfl (by decide +kernel)
set_option maxRecDepth 65536 in
theorem w_c1 : (Jvm.Cond.code ({ cls := "com/example/strategos/strategos/Result", name := "<init>", desc := "(DDZ)V" } : Jvm.MethodName) prog_6_method_1_code (6 : Nat) (Option.none : Option Jvm.ClassFile.FieldType)).before args0 about1 = true := code_word (m := ⟨2, 0⟩) (meth := k2m0) (c := k2c0) (by decide +kernel) rfl rfl rfl (by decide +kernel)
set_option maxRecDepth 65536 in
theorem w_c2 : (Jvm.Cond.code ({ cls := "java/lang/Object", name := "<init>", desc := "()V" } : Jvm.MethodName) object_method_1_code (1 : Nat) (Option.none : Option Jvm.ClassFile.FieldType)).before args0 about1 = true := code_word (m := ⟨0, 0⟩) (meth := k0m0) (c := k0c0) (by decide +kernel) rfl rfl rfl (by decide +kernel)
set_option maxRecDepth 65536 in
theorem w_c3 : (Jvm.Cond.code ({ cls := "com/example/strategos/strategos/Result", name := "isSingle", desc := "()Z" } : Jvm.MethodName) prog_6_method_5_code (1 : Nat) (Option.some Jvm.ClassFile.FieldType.boolean)).before args0 about1 = true := code_word (m := ⟨2, 1⟩) (meth := k2m1) (c := k2c1) (by decide +kernel) rfl rfl rfl (by decide +kernel)
def codes1 : List Jvm.Cond := [Jvm.Cond.code x code maxLocals ret, Jvm.Cond.code ({ cls := "com/example/strategos/strategos/Result", name := "<init>", desc := "(DDZ)V" } : Jvm.MethodName) prog_6_method_1_code (6 : Nat) (Option.none : Option Jvm.ClassFile.FieldType), Jvm.Cond.code ({ cls := "java/lang/Object", name := "<init>", desc := "()V" } : Jvm.MethodName) object_method_1_code (1 : Nat) (Option.none : Option Jvm.ClassFile.FieldType), Jvm.Cond.code ({ cls := "com/example/strategos/strategos/Result", name := "isSingle", desc := "()Z" } : Jvm.MethodName) prog_6_method_5_code (1 : Nat) (Option.some Jvm.ClassFile.FieldType.boolean)]
set_option maxRecDepth 65536 in
theorem codes_eq : words1.filter isCode = codes1 := rfl
theorem w_codes : ∀ c ∈ words1.filter isCode, c.before args0 about1 = true := by
  rw [codes_eq]
  intro c hc
  simp only [codes1, List.mem_cons, List.not_mem_nil, or_false] at hc
  rcases hc with rfl | rfl | rfl | rfl
  · exact w_c0
  · exact w_c1
  · exact w_c2
  · exact w_c3
set_option maxRecDepth 65536 in
theorem w_t1 : words1.all (fun c => isCode c || c.before args0 about1) = true := by decide +kernel
theorem w_tables : (allAtoms (Jvm.Cond.code x code maxLocals ret :: tables_1)).before args0 about1 = true := by
  rw [allAtoms_all]
  show words1.all (fun c => c.before args0 about1) = true
  refine all_split ?_ w_codes
  rw [w_t1]
set_option maxRecDepth 65536 in
theorem w_case : (Jvm.Cond.and given_1 narrow_1).before args0 about1 = true := by decide +kernel
theorem w_applies : (headSpec (Jvm.Cond.code x code maxLocals ret :: tables_1) room_1).applies x e0.platform about1 = true :=
  (Spec.applies_iff w_frames).mpr ⟨w_running, w_runnable, w_alone, w_named, w_hears, w_ripe, w_room, w_tables⟩
theorem atStart : AtStart classFile x code maxLocals ret World_1 tables_1 room_1 Calls_1 rest_1 Pre_1 launch0 p0 e0 about1 theMethod args0 below0 :=
  ⟨lists_1, trivial, launch0.admits_env _ _ _, launch0.least_env, fairChoices_fair.cas, fairChoices_fair.clock, w_frames, w_args, w_heap, w_applies, trivial, trivial, w_case⟩
end start1
theorem witness_1 : WitnessClaimed_1 := ⟨start1.p0, start1.e0, start1.about1, start1.theMethod, start1.args0, start1.below0, start1.atStart⟩
end Jvm.Pilot.@@N@@
