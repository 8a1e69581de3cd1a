import JvmDerived
import JvmDerived.Pilot.@@N@@Statement
import JvmDerived.Pilot.@@N@@Code
set_option linter.unusedVariables false
set_option linter.unusedSimpArgs false
namespace Jvm.Pilot.@@N@@
open Jvm Jvm.ClassFile Sem Op Lib Jvm.Free Jvm.Stand Jvm.LawKit Jvm.RoadKit Bundle Jvm.Pilot.@@N@@.Jvm.D
section Own
variable {p : Program} {l : Launch} {e : Env} {R : Room} {s : State} {m : MethodId} {args : Array Value} {below : List Frame} {meth : Method} {c : Code} {T T' : State} {locs : List Loc} {cells slots : Nat}
/-- from the frame g over the state T the body comes to its end, as Q says -/
def own_E (p : Program) (e : Env) (below : List Frame) (s : State) (Q : Option Value → Heap → List Loc → Prop) (k n : Nat) (T : State) (g : JFrame) : Prop :=
  ∃ U o, Steps p.tables e below (T.setTop g) U ∧ U.status = .running ∧ Ended U below o ∧ ∃ v L, o = Outcome.returned v ∧ Q v U.heap L ∧ FrameEnd s o U L k n
variable {Q : Option Value → Heap → List Loc → Prop} {k n : Nat} {g g' : JFrame}
theorem own_via (st : ∀ t, Steps p.tables e below (T'.setTop g') t → Steps p.tables e below (T.setTop g) t) (h : own_E p e below s Q k n T' g') : own_E p e below s Q k n T g := by
  obtain ⟨U, o, h1, r⟩ := h
  exact ⟨U, o, st U h1, r⟩
theorem own_thru (st : Steps p.tables e below (T.setTop g) (T'.setTop g')) (h : own_E p e below s Q k n T' g') : own_E p e below s Q k n T g := own_via (fun _ k => st.trans k) h
theorem own_retN (X : Stand p l e R s m args below meth c T locs cells slots) (hx : p.tables.exec = Jvm.exec) (hlk : meth.locks = false) {pc : Nat} {Ls : Array Slot} {z : Int32} {t : FieldType} {rest : List Value} (hret : meth.sig.returnType = some t) (ht : t = .boolean ∨ t = .byte ∨ t = .char ∨ t = .short)
    (hd : decode c.code pc = .ok (.ireturn, 1)) (hk : cells ≤ k) (hn : slots ≤ n) (hQ : Q (some (.int (nar t z))) T.heap locs) : own_E p e below s Q k n T (mkF m pc Ls (.int z :: rest)) := by
  obtain ⟨fs, hr, hrun, hended, hW, hsame⟩ := X.leave (v := some (.int (nar t z))) (fun h => by rw [hret] at h; cases h) hlk
  exact ⟨_, _, retN X hx hret ht hd hr, hrun, hended, _, _, rfl, hQ, ⟨_, rfl⟩, hW, hsame.mono hk hn⟩
theorem own_ret (X : Stand p l e R s m args below meth c T locs cells slots) (hx : p.tables.exec = Jvm.exec) (hlk : meth.locks = false) {pc : Nat} {Ls : Array Slot} {w : Value} {t : FieldType} {i : Instr} {rest : List Value} (hret : meth.sig.returnType = some t) (hnr : narrow t w = w)
    (hi : (i = .ireturn ∧ (t = .int ∨ t = .boolean ∨ t = .byte ∨ t = .char ∨ t = .short) ∧ ∃ z, w = .int z) ∨ (i = .lreturn ∧ t = .long ∧ ∃ z, w = .long z) ∨ (i = .dreturn ∧ t = .double ∧ ∃ z, w = .double z) ∨ (i = .freturn ∧ t = .float ∧ ∃ z, w = .float z) ∨ (i = .areturn ∧ t.isReference = true ∧ w.isRef = true))
    (hd : decode c.code pc = .ok (i, 1)) (hk : cells ≤ k) (hn : slots ≤ n) (hQ : Q (some w) T.heap locs) : own_E p e below s Q k n T (mkF m pc Ls (w :: rest)) := by
  obtain ⟨fs, hr, hrun, hended, hW, hsame⟩ := X.leave (v := some w) (fun h => by rw [hret] at h; cases h) hlk
  exact ⟨_, _, retOut X hx hret hnr hi hd hr, hrun, hended, _, _, rfl, hQ, ⟨_, rfl⟩, hW, hsame.mono hk hn⟩
theorem own_retV (X : Stand p l e R s m args below meth c T locs cells slots) (hx : p.tables.exec = Jvm.exec) (hlk : meth.locks = false) {pc : Nat} {Ls : Array Slot} (hret : meth.sig.returnType = none)
    (hd : decode c.code pc = .ok (.return_, 1)) (hk : cells ≤ k) (hn : slots ≤ n) (hQ : Q none T.heap locs) : own_E p e below s Q k n T (mkF m pc Ls []) := by
  obtain ⟨fs, hr, hrun, hended, hW, hsame⟩ := X.leave (v := none) (fun _ => rfl) hlk
  exact ⟨_, _, X.returnOut hx hret hd hr, hrun, hended, _, _, rfl, hQ, ⟨_, rfl⟩, hW, hsame.mono hk hn⟩
end Own
def own_ushr (x y : Int32) : Int32 := (x.toUInt32 >>> (y &&& 31).toUInt32).toInt32
def own_ushrL (x : Int64) (y : Int32) : Int64 := (x.toUInt64 >>> (y &&& 0x3f).toInt64.toUInt64).toInt64
/-- a field of an old object, said by the case to hold an int -/
theorem own_fldI {Z : State} {args : Array Value} {t : Term} {C n d : String} {a : Addr} {k : Int32} (ev : t.eval args Z none [] Z = some (.ref a)) (h : (Cond.eq (.field t C n d) (.int k)).value args Z none Z [] = some true) : Fld Z Z.heap a C n d (.int k) := by
  obtain ⟨x, y, h1, h2, k1, k2⟩ := cmp_v (Or.inl h)
  obtain rfl : y = .int k := (Option.some.inj h2).symm
  obtain ⟨z, rfl⟩ : ∃ z, x = .int z := k2
  have e := gotT (Cond.eq_ints h1 h2) h
  subst e
  rw [fld_at ev] at h1
  exact Fld.start h1
/-- a field of an old object, said by the case to hold what another term names (a reference) -/
theorem own_fldR {Z : State} {args : Array Value} {t u : Term} {C n d : String} {a b : Addr} (ev : t.eval args Z none [] Z = some (.ref a)) (eu : u.eval args Z none [] Z = some (.ref b)) (h : (Cond.eq (.field t C n d) u).value args Z none Z [] = some true) : Fld Z Z.heap a C n d (.ref b) := by
  obtain ⟨x, y, h1, h2, k1, k2⟩ := cmp_v (Or.inl h)
  obtain rfl : y = .ref b := Option.some.inj (h2.symm.trans eu)
  have hx : x.isRef = true := k2.2
  have q := gotT (eq_R h1 h2 hx rfl) h
  subst q
  rw [fld_at ev] at h1
  exact Fld.start h1
theorem d1_0 : decode prog_79_method_5_code 0 = .ok (.iload_n 0, 1) := by decide +kernel
theorem d1_1 : decode prog_79_method_5_code 1 = .ok (.ifCond .eq 9, 3) := by decide +kernel
theorem d1_4 : decode prog_79_method_5_code 4 = .ok (.getstatic 40, 3) := by decide +kernel
theorem d1_7 : decode prog_79_method_5_code 7 = .ok (.goto 6, 3) := by decide +kernel
theorem d1_10 : decode prog_79_method_5_code 10 = .ok (.getstatic 44, 3) := by decide +kernel
theorem d1_13 : decode prog_79_method_5_code 13 = .ok (.areturn, 1) := by decide +kernel
theorem pn_1 : plainName "com/example/exhaust/exhaust/engine/value/Term" = true := by first | (simp [plainName, overriddenIn]; done) | decide +kernel
theorem ef_1 (m : MethodId) (x0 : Int32) : entryFrame m #[(.int x0)] 1 = mkF m 0 #[.val (.int x0)] [] := by first | (simp [entryFrame, mkF, argsToLocals, Value.category]; done) | rfl
theorem pd_1 : parseMethodDescriptor "(Z)Lcom/example/exhaust/exhaust/engine/value/Term;" = some ⟨[.boolean], some (.object "com/example/exhaust/exhaust/engine/value/Term")⟩ := by decide +kernel
def QR (r : Addr) (h0 : Heap) (n0 : Nat) (v : Option Value) (h : Heap) (L : List Loc) : Prop := v = some (.ref r) ∧ Fr n0 L ∧ h = h0
set_option maxRecDepth 65536 in
set_option maxHeartbeats 40000000 in
theorem rm1 (l : Launch) (Z : State) (a0 : Array Value) (hw : ∀ d ∈ tables_1, d.before a0 Z = true) (ws : List Jvm.Cond) (z : Int32) (bT bF r : Addr) (hr : (z = 0 → r = bF) ∧ (¬ z = 0 → r = bT)) (h0 : Heap) (n0 : Nat) (Z0 : n0 ≤ h0.size) (S_T : Sta Z h0 "com/example/exhaust/exhaust/engine/value/Term" "TRUE" "Lcom/example/exhaust/exhaust/engine/value/Term;" (.ref bT)) (S_F : Sta Z h0 "com/example/exhaust/exhaust/engine/value/Term" "FALSE" "Lcom/example/exhaust/exhaust/engine/value/Term;" (.ref bF)) :
    MetFree l (⟨"com/example/exhaust/exhaust/engine/value/Term", "truth", "(Z)Lcom/example/exhaust/exhaust/engine/value/Term;"⟩ : MethodName) (head1 (Jvm.Cond.code (⟨"com/example/exhaust/exhaust/engine/value/Term", "truth", "(Z)Lcom/example/exhaust/exhaust/engine/value/Term;"⟩ : MethodName) prog_79_method_5_code 1 (some (.object "com/example/exhaust/exhaust/engine/value/Term")) :: ws) ({ frames := 0, cells := 0, slots := 0, locals := 0 } : Room)) (fun a U => a = #[(.int z)] ∧ Z.Warmed39 U.vm ∧ U.heap = h0) (fun _ _ _ _ _ => True) (fun _ U o U' => ∃ v L, o = .returned v ∧ QR r h0 n0 v U'.heap L ∧ FrameEnd U o U' L ({ frames := 0, cells := 0, slots := 0, locals := 0 } : Room).cells ({ frames := 0, cells := 0, slots := 0, locals := 0 } : Room).slots) := by
  refine MetFree.of_bodySF (plainFor_of_name pn_1) hisR ?_
  intro p e s m args below meth c s₁ Bd hml0 hP hK
  obtain ⟨rfl, hZ, hh⟩ := hP
  have hx := Bd.exec
  have hby := Bd.bytes
  have hlk := Bd.notSynchronized
  have hml : c.maxLocals = 1 := hml0
  have hown : s.vm.findClass "com/example/exhaust/exhaust/engine/value/Term" = some m.cls := findClass_of_methodNamed Bd.named
  have hnm := (name_of_methodNamed Bd.named Bd.method).1
  have X0 : Stand p l e ({ frames := 0, cells := 0, slots := 0, locals := 0 } : Room) s m #[(.int z)] below meth c s₁ [] 0 0 := Stand.of_body Bd
  have e0 : s₁.heap = h0 := by rw [← hh, Bd.state]; rfl
  have N0 := Fr.nil n0
  show own_E p e below s (QR r h0 n0) _ _ s₁ (entryFrame m #[(.int z)] 1)
  rw [ef_1]
  show own_E _ _ _ _ _ _ _ s₁ (mkF m 0 #[.val (.int z)] [])
  refine own_via (fun t => XS.iloadN X0.here hx rfl (hb hby d1_0) rfl) ?_
  show own_E _ _ _ _ _ _ _ s₁ (mkF m 1 #[.val (.int z)] [(.int z)])
  by_cases c1_1 : z = (0 : Int32)
  · refine own_via (fun t => XS.ifYes X0.here hx rfl (pc0 := 1) (pc' := 10) rfl (hb hby d1_1) rfl ((if0 _ _).trans (teq c1_1).1) (by decide) (by decide)) ?_
    show own_E _ _ _ _ _ _ _ s₁ (mkF m 10 #[.val (.int z)] [])
    obtain rfl := hr.1 c1_1
    obtain ⟨T2, X2, e2, st2⟩ := getS (host := "") X0 hx hZ hown (hw _ (List.mem_of_getElem? (i := 4) rfl)) Via.refl e0 S_F (g := (mkF m 10 #[.val (.int z)] [])) rfl (hb hby d1_10)
    refine own_via st2 ?_
    show own_E _ _ _ _ _ _ _ T2 (mkF m 13 #[.val (.int z)] [(.ref r)])
    exact own_ret X2 hx hlk Bd.returns rfl (Or.inr (Or.inr (Or.inr (Or.inr ⟨rfl, rfl, rfl⟩)))) (hb hby d1_13) (Nat.le_refl _) (Nat.le_refl _) ⟨rfl, N0, e2⟩
  · refine own_via (fun t => XS.ifNo X0.here hx rfl (hb hby d1_1) rfl ((if0 _ _).trans (feq c1_1).1)) ?_
    show own_E _ _ _ _ _ _ _ s₁ (mkF m 4 #[.val (.int z)] [])
    obtain rfl := hr.2 c1_1
    obtain ⟨T3, X3, e3, st3⟩ := getS (host := "") X0 hx hZ hown (hw _ (List.mem_of_getElem? (i := 29) rfl)) Via.refl e0 S_T (g := (mkF m 4 #[.val (.int z)] [])) rfl (hb hby d1_4)
    refine own_via st3 ?_
    show own_E _ _ _ _ _ _ _ T3 (mkF m 7 #[.val (.int z)] [(.ref r)])
    refine own_via (fun t => XS.goto X3.here hx rfl (pc0 := 7) (pc' := 13) rfl (hb hby d1_7) (by decide) (by decide)) ?_
    show own_E _ _ _ _ _ _ _ T3 (mkF m 13 #[.val (.int z)] [(.ref r)])
    exact own_ret X3 hx hlk Bd.returns rfl (Or.inr (Or.inr (Or.inr (Or.inr ⟨rfl, rfl, rfl⟩)))) (hb hby d1_13) (Nat.le_refl _) (Nat.le_refl _) ⟨rfl, N0, e3⟩
theorem d2_0 : decode prog_86_method_2_code 0 = .ok (.aload_n 0, 1) := by decide +kernel
theorem d2_1 : decode prog_86_method_2_code 1 = .ok (.getfield 13, 3) := by decide +kernel
theorem d2_4 : decode prog_86_method_2_code 4 = .ok (.ireturn, 1) := by decide +kernel
theorem pn_2 : plainName "com/example/exhaust/exhaust/engine/value/Term$Truth" = true := by first | (simp [plainName, overriddenIn]; done) | decide +kernel
theorem ef_2 (m : MethodId) (x0 : Addr) : entryFrame m #[(.ref x0)] 1 = mkF m 0 #[.val (.ref x0)] [] := by first | (simp [entryFrame, mkF, argsToLocals, Value.category]; done) | rfl
theorem pd_2 : parseMethodDescriptor "()Z" = some ⟨[], some .boolean⟩ := by decide +kernel
def QI (r : Int32) (h0 : Heap) (n0 : Nat) (v : Option Value) (h : Heap) (L : List Loc) : Prop := v = some (.int r) ∧ Fr n0 L ∧ h = h0
set_option maxRecDepth 65536 in
set_option maxHeartbeats 40000000 in
theorem rm2 (l : Launch) (Z : State) (a0 : Array Value) (hw : ∀ d ∈ tables_1, d.before a0 Z = true) (ws : List Jvm.Cond) (a1 : Addr) (z : Int32) (hz : nar .boolean z = z) (h0 : Heap) (n0 : Nat) (Z0 : n0 ≤ h0.size) (F1 : Fld Z h0 a1 "com/example/exhaust/exhaust/engine/value/Term$Truth" "value" "Z" (.int z)) :
    MetFree l (⟨"com/example/exhaust/exhaust/engine/value/Term$Truth", "value", "()Z"⟩ : MethodName) (head1 (Jvm.Cond.code (⟨"com/example/exhaust/exhaust/engine/value/Term$Truth", "value", "()Z"⟩ : MethodName) prog_86_method_2_code 1 (some .boolean) :: ws) ({ frames := 0, cells := 0, slots := 0, locals := 0 } : Room)) (fun a U => a = #[(.ref a1)] ∧ Z.Warmed39 U.vm ∧ U.heap = h0) (fun _ _ _ _ _ => True) (fun _ U o U' => ∃ v L, o = .returned v ∧ QI z h0 n0 v U'.heap L ∧ FrameEnd U o U' L ({ frames := 0, cells := 0, slots := 0, locals := 0 } : Room).cells ({ frames := 0, cells := 0, slots := 0, locals := 0 } : Room).slots) := by
  refine MetFree.of_bodySF (plainFor_of_name pn_2) hisR ?_
  intro p e s m args below meth c s₁ Bd hml0 hP hK
  obtain ⟨rfl, hZ, hh⟩ := hP
  have hx := Bd.exec
  have hby := Bd.bytes
  have hlk := Bd.notSynchronized
  have hml : c.maxLocals = 1 := hml0
  have hown : s.vm.findClass "com/example/exhaust/exhaust/engine/value/Term$Truth" = some m.cls := findClass_of_methodNamed Bd.named
  have hnm := (name_of_methodNamed Bd.named Bd.method).1
  have X0 : Stand p l e ({ frames := 0, cells := 0, slots := 0, locals := 0 } : Room) s m #[(.ref a1)] below meth c s₁ [] 0 0 := Stand.of_body Bd
  have e0 : s₁.heap = h0 := by rw [← hh, Bd.state]; rfl
  have N0 := Fr.nil n0
  show own_E p e below s (QI z h0 n0) _ _ s₁ (entryFrame m #[(.ref a1)] 1)
  rw [ef_2]
  show own_E _ _ _ _ _ _ _ s₁ (mkF m 0 #[.val (.ref a1)] [])
  refine own_via (fun t => XS.aloadN X0.here hx rfl (hb hby d2_0) rfl rfl) ?_
  show own_E _ _ _ _ _ _ _ s₁ (mkF m 1 #[.val (.ref a1)] [(.ref a1)])
  obtain ⟨T4, X4, e4, st4⟩ := getF X0 hx hZ hown (host := "") (Or.inl (hw _ (List.mem_of_getElem? (i := 14) rfl))) Via.refl e0 F1 (g := (mkF m 1 #[.val (.ref a1)] [(.ref a1)])) rfl rfl (hb hby d2_1)
  refine own_via st4 ?_
  show own_E _ _ _ _ _ _ _ T4 (mkF m 4 #[.val (.ref a1)] [(.int z)])
  exact own_retN X4 hx hlk Bd.returns (Or.inl rfl) (hb hby d2_4) (Nat.le_refl _) (Nat.le_refl _) ⟨by rw [hz], N0, e4⟩
theorem d3_0 : decode prog_79_method_2_code 0 = .ok (.aload_n 0, 1) := by decide +kernel
theorem d3_1 : decode prog_79_method_2_code 1 = .ok (.getfield 7, 3) := by decide +kernel
theorem d3_4 : decode prog_79_method_2_code 4 = .ok (.areturn, 1) := by decide +kernel
theorem pn_3 : plainName "com/example/exhaust/exhaust/engine/value/Term" = true := by first | (simp [plainName, overriddenIn]; done) | decide +kernel
theorem ef_3 (m : MethodId) (x0 : Addr) : entryFrame m #[(.ref x0)] 1 = mkF m 0 #[.val (.ref x0)] [] := by first | (simp [entryFrame, mkF, argsToLocals, Value.category]; done) | rfl
theorem pd_3 : parseMethodDescriptor "()Lcom/example/exhaust/exhaust/engine/value/Term$Sort;" = some ⟨[], some (.object "com/example/exhaust/exhaust/engine/value/Term$Sort")⟩ := by decide +kernel
set_option maxRecDepth 65536 in
set_option maxHeartbeats 40000000 in
theorem rm3 (l : Launch) (Z : State) (a0 : Array Value) (hw : ∀ d ∈ tables_1, d.before a0 Z = true) (ws : List Jvm.Cond) (a1 r : Addr) (h0 : Heap) (n0 : Nat) (Z0 : n0 ≤ h0.size) (F1 : Fld Z h0 a1 "com/example/exhaust/exhaust/engine/value/Term" "sort" "Lcom/example/exhaust/exhaust/engine/value/Term$Sort;" (.ref r)) :
    MetFree l (⟨"com/example/exhaust/exhaust/engine/value/Term", "sort", "()Lcom/example/exhaust/exhaust/engine/value/Term$Sort;"⟩ : MethodName) (head1 (Jvm.Cond.code (⟨"com/example/exhaust/exhaust/engine/value/Term", "sort", "()Lcom/example/exhaust/exhaust/engine/value/Term$Sort;"⟩ : MethodName) prog_79_method_2_code 1 (some (.object "com/example/exhaust/exhaust/engine/value/Term$Sort")) :: ws) ({ frames := 0, cells := 0, slots := 0, locals := 0 } : Room)) (fun a U => a = #[(.ref a1)] ∧ Z.Warmed39 U.vm ∧ U.heap = h0) (fun _ _ _ _ _ => True) (fun _ U o U' => ∃ v L, o = .returned v ∧ QR r h0 n0 v U'.heap L ∧ FrameEnd U o U' L ({ frames := 0, cells := 0, slots := 0, locals := 0 } : Room).cells ({ frames := 0, cells := 0, slots := 0, locals := 0 } : Room).slots) := by
  refine MetFree.of_bodySF (plainFor_of_name pn_3) hisR ?_
  intro p e s m args below meth c s₁ Bd hml0 hP hK
  obtain ⟨rfl, hZ, hh⟩ := hP
  have hx := Bd.exec
  have hby := Bd.bytes
  have hlk := Bd.notSynchronized
  have hml : c.maxLocals = 1 := hml0
  have hown : s.vm.findClass "com/example/exhaust/exhaust/engine/value/Term" = some m.cls := findClass_of_methodNamed Bd.named
  have hnm := (name_of_methodNamed Bd.named Bd.method).1
  have X0 : Stand p l e ({ frames := 0, cells := 0, slots := 0, locals := 0 } : Room) s m #[(.ref a1)] below meth c s₁ [] 0 0 := Stand.of_body Bd
  have e0 : s₁.heap = h0 := by rw [← hh, Bd.state]; rfl
  have N0 := Fr.nil n0
  show own_E p e below s (QR r h0 n0) _ _ s₁ (entryFrame m #[(.ref a1)] 1)
  rw [ef_3]
  show own_E _ _ _ _ _ _ _ s₁ (mkF m 0 #[.val (.ref a1)] [])
  refine own_via (fun t => XS.aloadN X0.here hx rfl (hb hby d3_0) rfl rfl) ?_
  show own_E _ _ _ _ _ _ _ s₁ (mkF m 1 #[.val (.ref a1)] [(.ref a1)])
  obtain ⟨T5, X5, e5, st5⟩ := getF X0 hx hZ hown (host := "") (Or.inl (hw _ (List.mem_of_getElem? (i := 21) rfl))) Via.refl e0 F1 (g := (mkF m 1 #[.val (.ref a1)] [(.ref a1)])) rfl rfl (hb hby d3_1)
  refine own_via st5 ?_
  show own_E _ _ _ _ _ _ _ T5 (mkF m 4 #[.val (.ref a1)] [(.ref r)])
  exact own_ret X5 hx hlk Bd.returns rfl (Or.inr (Or.inr (Or.inr (Or.inr ⟨rfl, rfl, rfl⟩)))) (hb hby d3_4) (Nat.le_refl _) (Nat.le_refl _) ⟨rfl, N0, e5⟩
theorem pn_0 : plainName "com/example/exhaust/exhaust/engine/value/TermTruthPinLaw" = true := by first | (simp [plainName, overriddenIn]; done) | decide +kernel
theorem ef_0 (m : MethodId) (x0 : Int32) : entryFrame m #[(.int x0)] maxLocals = mkF m 0 #[.val (.int x0), .unset, .unset, .unset, .unset, .unset, .unset] [] := by first | (simp [entryFrame, mkF, argsToLocals, Value.category, maxLocals]; done) | rfl
def Q0 (n0 : Nat) (v : Option Value) (h : Heap) (L : List Loc) : Prop := v = some (.int 1) ∧ Fr n0 L
set_option maxRecDepth 65536 in
set_option maxHeartbeats 40000000 in
theorem rm0 (l : Launch) (Z : State) (a0 : Array Value) (hw : ∀ d ∈ tables_1, d.before a0 Z = true) (ws : List Jvm.Cond) (p1 : Int32) (bT bF bS : Addr) (h0 : Heap) (n0 : Nat) (Z0 : n0 ≤ h0.size) (S_T : Sta Z h0 "com/example/exhaust/exhaust/engine/value/Term" "TRUE" "Lcom/example/exhaust/exhaust/engine/value/Term;" (.ref bT)) (S_F : Sta Z h0 "com/example/exhaust/exhaust/engine/value/Term" "FALSE" "Lcom/example/exhaust/exhaust/engine/value/Term;" (.ref bF)) (S_S : Sta Z h0 "com/example/exhaust/exhaust/engine/value/Term$Sort" "TRUTH" "Lcom/example/exhaust/exhaust/engine/value/Term$Sort;" (.ref bS)) (E_T : Exa Z h0 bT "com/example/exhaust/exhaust/engine/value/Term$Truth") (E_F : Exa Z h0 bF "com/example/exhaust/exhaust/engine/value/Term$Truth") (V_T : Fld Z h0 bT "com/example/exhaust/exhaust/engine/value/Term$Truth" "value" "Z" (.int 1)) (V_F : Fld Z h0 bF "com/example/exhaust/exhaust/engine/value/Term$Truth" "value" "Z" (.int 0)) (O_T : Fld Z h0 bT "com/example/exhaust/exhaust/engine/value/Term" "sort" "Lcom/example/exhaust/exhaust/engine/value/Term$Sort;" (.ref bS)) (O_F : Fld Z h0 bF "com/example/exhaust/exhaust/engine/value/Term" "sort" "Lcom/example/exhaust/exhaust/engine/value/Term$Sort;" (.ref bS)) (hne : ¬ bF = bT) :
    MetFree l x (head1 (Jvm.Cond.code x code maxLocals ret :: ws) room_1) (fun a U => a = #[(.int p1)] ∧ Z.Warmed39 U.vm ∧ U.heap = h0) (fun _ _ _ _ _ => True) (fun _ U o U' => ∃ v L, o = .returned v ∧ Q0 n0 v U'.heap L ∧ FrameEnd U o U' L 0 0) := by
  refine MetFree.of_bodySF (plainFor_of_name pn_0) hisR ?_
  intro p e s m args below meth c s₁ Bd hml0 hP hK
  obtain ⟨rfl, hZ, hh⟩ := hP
  have hx := Bd.exec
  have hby := Bd.bytes
  have hlk := Bd.notSynchronized
  have hml : c.maxLocals = 7 := hml0
  have hown : s.vm.findClass "com/example/exhaust/exhaust/engine/value/TermTruthPinLaw" = some m.cls := findClass_of_methodNamed Bd.named
  have hnm := (name_of_methodNamed Bd.named Bd.method).1
  have X0 : Stand p l e room_1 s m #[(.int p1)] below meth c s₁ [] 0 0 := Stand.of_body Bd
  have e0 : s₁.heap = h0 := by rw [← hh, Bd.state]; rfl
  have N0 := Fr.nil n0
  show own_E p e below s (Q0 n0) _ _ s₁ (entryFrame m #[(.int p1)] maxLocals)
  rw [ef_0]
  show own_E _ _ _ _ _ _ _ s₁ (mkF m 0 #[.val (.int p1), .unset, .unset, .unset, .unset, .unset, .unset] [])
  refine own_via (fun t => XS.iloadN X0.here hx rfl (hb hby at_0) rfl) ?_
  show own_E _ _ _ _ _ _ _ s₁ (mkF m 1 #[.val (.int p1), .unset, .unset, .unset, .unset, .unset, .unset] [(.int p1)])
  refine own_via (fun t => XS.iconst X0.here hx rfl (hb hby at_1)) ?_
  show own_E _ _ _ _ _ _ _ s₁ (mkF m 2 #[.val (.int p1), .unset, .unset, .unset, .unset, .unset, .unset] [(.int (1 : Int32)), (.int p1)])
  refine own_via (fun t => XS.iand X0.here hx rfl (hb hby at_2) rfl) ?_
  show own_E _ _ _ _ _ _ _ s₁ (mkF m 3 #[.val (.int p1), .unset, .unset, .unset, .unset, .unset, .unset] [(.int (p1 &&& (1 : Int32)))])
  by_cases c3_6 : (p1 &&& (1 : Int32)) = (0 : Int32)
  · refine own_via (fun t => XS.ifYes X0.here hx rfl (pc0 := 3) (pc' := 10) rfl (hb hby at_3) rfl ((if0 _ _).trans (teq c3_6).1) (by decide) (by decide)) ?_
    show own_E _ _ _ _ _ _ _ s₁ (mkF m 10 #[.val (.int p1), .unset, .unset, .unset, .unset, .unset, .unset] [])
    refine own_via (fun t => XS.iconst X0.here hx rfl (hb hby at_10)) ?_
    show own_E _ _ _ _ _ _ _ s₁ (mkF m 11 #[.val (.int p1), .unset, .unset, .unset, .unset, .unset, .unset] [(.int (0 : Int32))])
    refine own_via (fun t => XS.istoreN X0.here hx rfl (hb hby at_11) rfl (l' := #[.val (.int p1), .val (.int (0 : Int32)), .unset, .unset, .unset, .unset, .unset]) rfl) ?_
    show own_E _ _ _ _ _ _ _ s₁ (mkF m 12 #[.val (.int p1), .val (.int (0 : Int32)), .unset, .unset, .unset, .unset, .unset] [])
    refine own_via (fun t => XS.iloadN X0.here hx rfl (hb hby at_12) rfl) ?_
    show own_E _ _ _ _ _ _ _ s₁ (mkF m 13 #[.val (.int p1), .val (.int (0 : Int32)), .unset, .unset, .unset, .unset, .unset] [(.int (0 : Int32))])
    obtain ⟨_, _, ⟨T7, L7, k7, n7⟩, -, X7, ⟨Lc7, hQ7, l7, y7, z7⟩, st7⟩ := Jvm.LawKit.callS X0 hx (y := (⟨"com/example/exhaust/exhaust/engine/value/Term", "truth", "(Z)Lcom/example/exhaust/exhaust/engine/value/Term;"⟩ : MethodName)) hown (mvT hZ (hw _ (List.mem_of_getElem? (i := 0) rfl))) (mvT hZ (hw _ (List.mem_of_getElem? (i := 1) rfl))) (mvT hZ (hw _ (List.mem_of_getElem? (i := 2) rfl))) (mvT hZ (hw _ (List.mem_of_getElem? (i := 3) rfl))) (by decide) (backOf (W := 0) (rm1 l Z a0 hw [] (0 : Int32) bT bF bF ⟨fun _ => rfl, fun h => absurd rfl h⟩ h0 n0 Z0 S_T S_F) hZ (hw _ (List.mem_of_getElem? (i := 3) rfl)) (hw _ (List.mem_of_getElem? (i := 2) rfl)) (by decide) (by decide)) (g := (mkF m 13 #[.val (.int p1), .val (.int (0 : Int32)), .unset, .unset, .unset, .unset, .unset] [(.int (0 : Int32))])) rfl (by rw [hml]; rfl) (argsL := [(.int (0 : Int32))]) (rest := []) (lenOf pd_1 rfl) rfl (by show 2 * 0 + _ ≤ _; exact Nat.le_of_eq rfl) (hb hby at_13) (fun _ _ => ⟨rfl, e0, (by decide : 0 + 0 ≤ _), (by decide : 0 + 0 ≤ _)⟩)
    dsimp only [Pt.U, Pt.locs, Pt.cells, Pt.slots] at X7 l7 y7 z7 st7 hQ7
    subst l7 y7 z7
    obtain ⟨rfl, N7, e7⟩ := hQ7
    refine own_via st7 ?_
    show own_E _ _ _ _ _ _ _ T7 (mkF m 16 #[.val (.int p1), .val (.int (0 : Int32)), .unset, .unset, .unset, .unset, .unset] [(.ref bF)])
    have NA7 := Fr.app N0 N7
    refine own_via (fun t => XS.astoreN X7.here hx rfl (hb hby at_16) rfl rfl (l' := #[.val (.int p1), .val (.int (0 : Int32)), .val (.ref bF), .unset, .unset, .unset, .unset]) rfl) ?_
    show own_E _ _ _ _ _ _ _ T7 (mkF m 17 #[.val (.int p1), .val (.int (0 : Int32)), .val (.ref bF), .unset, .unset, .unset, .unset] [])
    refine own_via (fun t => XS.aloadN X7.here hx rfl (hb hby at_17) rfl rfl) ?_
    show own_E _ _ _ _ _ _ _ T7 (mkF m 18 #[.val (.int p1), .val (.int (0 : Int32)), .val (.ref bF), .unset, .unset, .unset, .unset] [(.ref bF)])
    obtain ⟨T8, X8, e8, st8⟩ := instY X7 hx hZ hown (hw _ (List.mem_of_getElem? (i := 6) rfl)) e7 (Ins.self E_F) (g := (mkF m 18 #[.val (.int p1), .val (.int (0 : Int32)), .val (.ref bF), .unset, .unset, .unset, .unset] [(.ref bF)])) rfl rfl (hb hby at_18)
    refine own_via st8 ?_
    show own_E _ _ _ _ _ _ _ T8 (mkF m 21 #[.val (.int p1), .val (.int (0 : Int32)), .val (.ref bF), .unset, .unset, .unset, .unset] [(.int (1 : Int32))])
    refine own_via (fun t => XS.ifYes X8.here hx rfl (pc0 := 21) (pc' := 26) rfl (hb hby at_21) rfl ((if0 _ _).trans (feq (by decide : ¬ ((1 : Int32) = (0 : Int32)))).2) (by decide) (by decide)) ?_
    show own_E _ _ _ _ _ _ _ T8 (mkF m 26 #[.val (.int p1), .val (.int (0 : Int32)), .val (.ref bF), .unset, .unset, .unset, .unset] [])
    refine own_via (fun t => XS.aloadN X8.here hx rfl (hb hby at_26) rfl rfl) ?_
    show own_E _ _ _ _ _ _ _ T8 (mkF m 27 #[.val (.int p1), .val (.int (0 : Int32)), .val (.ref bF), .unset, .unset, .unset, .unset] [(.ref bF)])
    obtain ⟨T9, X9, e9, st9⟩ := castY X8 hx hZ hown (hw _ (List.mem_of_getElem? (i := 6) rfl)) e8 (Ins.self E_F) (g := (mkF m 27 #[.val (.int p1), .val (.int (0 : Int32)), .val (.ref bF), .unset, .unset, .unset, .unset] [(.ref bF)])) rfl rfl (hb hby at_27)
    refine own_via st9 ?_
    show own_E _ _ _ _ _ _ _ T9 (mkF m 30 #[.val (.int p1), .val (.int (0 : Int32)), .val (.ref bF), .unset, .unset, .unset, .unset] [(.ref bF)])
    refine own_via (fun t => XS.astoreN X9.here hx rfl (hb hby at_30) rfl rfl (l' := #[.val (.int p1), .val (.int (0 : Int32)), .val (.ref bF), .val (.ref bF), .unset, .unset, .unset]) rfl) ?_
    show own_E _ _ _ _ _ _ _ T9 (mkF m 31 #[.val (.int p1), .val (.int (0 : Int32)), .val (.ref bF), .val (.ref bF), .unset, .unset, .unset] [])
    refine own_via (fun t => XS.aloadN X9.here hx rfl (hb hby at_31) rfl rfl) ?_
    show own_E _ _ _ _ _ _ _ T9 (mkF m 32 #[.val (.int p1), .val (.int (0 : Int32)), .val (.ref bF), .val (.ref bF), .unset, .unset, .unset] [(.ref bF)])
    obtain ⟨cq10, kq10, q10a, q10b, q10c⟩ := isOf hZ e9 E_F
    obtain ⟨_, _, ⟨T10, L10, k10, n10⟩, -, X10, ⟨Lc10, hQ10, l10, y10, z10⟩, st10⟩ := X9.virtualBack hx (y := (⟨"com/example/exhaust/exhaust/engine/value/Term$Truth", "value", "()Z"⟩ : MethodName)) (z := (⟨"com/example/exhaust/exhaust/engine/value/Term$Truth", "value", "()Z"⟩ : MethodName)) hown (mvT hZ (hw _ (List.mem_of_getElem? (i := 8) rfl))) (mvT hZ (hw _ (List.mem_of_getElem? (i := 9) rfl))) (notFace_of_selects (args := #[]) (mvT hZ (hw _ (List.mem_of_getElem? (i := 11) rfl)))) (mvT hZ (hw _ (List.mem_of_getElem? (i := 11) rfl))) (mvT hZ (hw _ (List.mem_of_getElem? (i := 10) rfl))) (by decide) (backOf (W := 0) (rm2 l Z a0 hw [] bF 0 rfl h0 n0 Z0 V_F) hZ (hw _ (List.mem_of_getElem? (i := 13) rfl)) (hw _ (List.mem_of_getElem? (i := 12) rfl)) (by decide) (by decide)) q10a q10c (g := (mkF m 32 #[.val (.int p1), .val (.int (0 : Int32)), .val (.ref bF), .val (.ref bF), .unset, .unset, .unset] [(.ref bF)])) rfl (by rw [hml]; rfl) (Steps.refl _) (argsL := []) (rest := []) (lenOf pd_2 rfl) rfl (by show 2 * 0 + _ ≤ _; exact Nat.le_of_eq rfl) (hb hby at_32) (fun _ _ => ⟨rfl, e9, (by decide : 0 + 0 ≤ _), (by decide : 0 + 0 ≤ _)⟩)
    dsimp only [Pt.U, Pt.locs, Pt.cells, Pt.slots] at X10 l10 y10 z10 st10 hQ10
    subst l10 y10 z10
    obtain ⟨rfl, N10, e10⟩ := hQ10
    refine own_thru st10 ?_
    show own_E _ _ _ _ _ _ _ T10 (mkF m 35 #[.val (.int p1), .val (.int (0 : Int32)), .val (.ref bF), .val (.ref bF), .unset, .unset, .unset] [(.int (0 : Int32))])
    have NA10 := Fr.app NA7 N10
    refine own_via (fun t => XS.iloadN X10.here hx rfl (hb hby at_35) rfl) ?_
    show own_E _ _ _ _ _ _ _ T10 (mkF m 36 #[.val (.int p1), .val (.int (0 : Int32)), .val (.ref bF), .val (.ref bF), .unset, .unset, .unset] [(.int (0 : Int32)), (.int (0 : Int32))])
    refine own_via (fun t => XS.icmpNo X10.here hx rfl (hb hby at_36) rfl (teq (by decide : (0 : Int32) = (0 : Int32))).2) ?_
    show own_E _ _ _ _ _ _ _ T10 (mkF m 39 #[.val (.int p1), .val (.int (0 : Int32)), .val (.ref bF), .val (.ref bF), .unset, .unset, .unset] [])
    refine own_via (fun t => XS.iconst X10.here hx rfl (hb hby at_39)) ?_
    show own_E _ _ _ _ _ _ _ T10 (mkF m 40 #[.val (.int p1), .val (.int (0 : Int32)), .val (.ref bF), .val (.ref bF), .unset, .unset, .unset] [(.int (1 : Int32))])
    refine own_via (fun t => XS.goto X10.here hx rfl (pc0 := 40) (pc' := 44) rfl (hb hby at_40) (by decide) (by decide)) ?_
    show own_E _ _ _ _ _ _ _ T10 (mkF m 44 #[.val (.int p1), .val (.int (0 : Int32)), .val (.ref bF), .val (.ref bF), .unset, .unset, .unset] [(.int (1 : Int32))])
    refine own_via (fun t => XS.istore X10.here hx rfl (hb hby at_44) rfl (l' := #[.val (.int p1), .val (.int (0 : Int32)), .val (.ref bF), .val (.ref bF), .val (.int (1 : Int32)), .unset, .unset]) rfl) ?_
    show own_E _ _ _ _ _ _ _ T10 (mkF m 46 #[.val (.int p1), .val (.int (0 : Int32)), .val (.ref bF), .val (.ref bF), .val (.int (1 : Int32)), .unset, .unset] [])
    refine own_via (fun t => XS.aloadN X10.here hx rfl (hb hby at_46) rfl rfl) ?_
    show own_E _ _ _ _ _ _ _ T10 (mkF m 47 #[.val (.int p1), .val (.int (0 : Int32)), .val (.ref bF), .val (.ref bF), .val (.int (1 : Int32)), .unset, .unset] [(.ref bF)])
    obtain ⟨cq11, kq11, q11a, q11b, q11c⟩ := isOf hZ e10 E_F
    obtain ⟨_, _, ⟨T11, L11, k11, n11⟩, -, X11, ⟨Lc11, hQ11, l11, y11, z11⟩, st11⟩ := X10.virtualBack hx (y := (⟨"com/example/exhaust/exhaust/engine/value/Term", "sort", "()Lcom/example/exhaust/exhaust/engine/value/Term$Sort;"⟩ : MethodName)) (z := (⟨"com/example/exhaust/exhaust/engine/value/Term", "sort", "()Lcom/example/exhaust/exhaust/engine/value/Term$Sort;"⟩ : MethodName)) hown (mvT hZ (hw _ (List.mem_of_getElem? (i := 16) rfl))) (mvT hZ (hw _ (List.mem_of_getElem? (i := 17) rfl))) (notFace_of_selects (args := #[]) (mvT hZ (hw _ (List.mem_of_getElem? (i := 19) rfl)))) (mvT hZ (hw _ (List.mem_of_getElem? (i := 19) rfl))) (mvT hZ (hw _ (List.mem_of_getElem? (i := 18) rfl))) (by decide) (backOf (W := 0) (rm3 l Z a0 hw [] bF bS h0 n0 Z0 O_F) hZ (hw _ (List.mem_of_getElem? (i := 20) rfl)) (hw _ (List.mem_of_getElem? (i := 2) rfl)) (by decide) (by decide)) q11a q11c (g := (mkF m 47 #[.val (.int p1), .val (.int (0 : Int32)), .val (.ref bF), .val (.ref bF), .val (.int (1 : Int32)), .unset, .unset] [(.ref bF)])) rfl (by rw [hml]; rfl) (Steps.refl _) (argsL := []) (rest := []) (lenOf pd_3 rfl) rfl (by show 2 * 0 + _ ≤ _; exact Nat.le_of_eq rfl) (hb hby at_47) (fun _ _ => ⟨rfl, e10, (by decide : 0 + 0 ≤ _), (by decide : 0 + 0 ≤ _)⟩)
    dsimp only [Pt.U, Pt.locs, Pt.cells, Pt.slots] at X11 l11 y11 z11 st11 hQ11
    subst l11 y11 z11
    obtain ⟨rfl, N11, e11⟩ := hQ11
    refine own_thru st11 ?_
    show own_E _ _ _ _ _ _ _ T11 (mkF m 50 #[.val (.int p1), .val (.int (0 : Int32)), .val (.ref bF), .val (.ref bF), .val (.int (1 : Int32)), .unset, .unset] [(.ref bS)])
    have NA11 := Fr.app NA10 N11
    obtain ⟨T12, X12, e12, st12⟩ := getS (host := "") X11 hx hZ hown (hw _ (List.mem_of_getElem? (i := 25) rfl)) Via.refl e11 S_S (g := (mkF m 50 #[.val (.int p1), .val (.int (0 : Int32)), .val (.ref bF), .val (.ref bF), .val (.int (1 : Int32)), .unset, .unset] [(.ref bS)])) rfl (hb hby at_50)
    refine own_via st12 ?_
    show own_E _ _ _ _ _ _ _ T12 (mkF m 53 #[.val (.int p1), .val (.int (0 : Int32)), .val (.ref bF), .val (.ref bF), .val (.int (1 : Int32)), .unset, .unset] [(.ref bS), (.ref bS)])
    refine own_via (fun t => Jvm.RoadKit.acmp (g := (mkF m 53 #[.val (.int p1), .val (.int (0 : Int32)), .val (.ref bF), .val (.ref bF), .val (.int (1 : Int32)), .unset, .unset] [(.ref bS), (.ref bS)])) X12 hx rfl rfl rfl (pc0 := 53) (pc' := 56) (same := true) rfl (hb hby at_53) rfl (decide_eq_true rfl) (by decide) (by decide)) ?_
    show own_E _ _ _ _ _ _ _ T12 (mkF m 56 #[.val (.int p1), .val (.int (0 : Int32)), .val (.ref bF), .val (.ref bF), .val (.int (1 : Int32)), .unset, .unset] [])
    refine own_via (fun t => XS.iconst X12.here hx rfl (hb hby at_56)) ?_
    show own_E _ _ _ _ _ _ _ T12 (mkF m 57 #[.val (.int p1), .val (.int (0 : Int32)), .val (.ref bF), .val (.ref bF), .val (.int (1 : Int32)), .unset, .unset] [(.int (1 : Int32))])
    refine own_via (fun t => XS.goto X12.here hx rfl (pc0 := 57) (pc' := 61) rfl (hb hby at_57) (by decide) (by decide)) ?_
    show own_E _ _ _ _ _ _ _ T12 (mkF m 61 #[.val (.int p1), .val (.int (0 : Int32)), .val (.ref bF), .val (.ref bF), .val (.int (1 : Int32)), .unset, .unset] [(.int (1 : Int32))])
    refine own_via (fun t => XS.istore X12.here hx rfl (hb hby at_61) rfl (l' := #[.val (.int p1), .val (.int (0 : Int32)), .val (.ref bF), .val (.ref bF), .val (.int (1 : Int32)), .val (.int (1 : Int32)), .unset]) rfl) ?_
    show own_E _ _ _ _ _ _ _ T12 (mkF m 63 #[.val (.int p1), .val (.int (0 : Int32)), .val (.ref bF), .val (.ref bF), .val (.int (1 : Int32)), .val (.int (1 : Int32)), .unset] [])
    refine own_via (fun t => XS.iloadN X12.here hx rfl (hb hby at_63) rfl) ?_
    show own_E _ _ _ _ _ _ _ T12 (mkF m 64 #[.val (.int p1), .val (.int (0 : Int32)), .val (.ref bF), .val (.ref bF), .val (.int (1 : Int32)), .val (.int (1 : Int32)), .unset] [(.int (0 : Int32))])
    refine own_via (fun t => XS.ifYes X12.here hx rfl (pc0 := 64) (pc' := 91) rfl (hb hby at_64) rfl ((if0 _ _).trans (teq (by decide : (0 : Int32) = (0 : Int32))).1) (by decide) (by decide)) ?_
    show own_E _ _ _ _ _ _ _ T12 (mkF m 91 #[.val (.int p1), .val (.int (0 : Int32)), .val (.ref bF), .val (.ref bF), .val (.int (1 : Int32)), .val (.int (1 : Int32)), .unset] [])
    refine own_via (fun t => XS.aloadN X12.here hx rfl (hb hby at_91) rfl rfl) ?_
    show own_E _ _ _ _ _ _ _ T12 (mkF m 92 #[.val (.int p1), .val (.int (0 : Int32)), .val (.ref bF), .val (.ref bF), .val (.int (1 : Int32)), .val (.int (1 : Int32)), .unset] [(.ref bF)])
    obtain ⟨T13, X13, e13, st13⟩ := getS (host := "") X12 hx hZ hown (hw _ (List.mem_of_getElem? (i := 26) rfl)) Via.refl e12 S_F (g := (mkF m 92 #[.val (.int p1), .val (.int (0 : Int32)), .val (.ref bF), .val (.ref bF), .val (.int (1 : Int32)), .val (.int (1 : Int32)), .unset] [(.ref bF)])) rfl (hb hby at_92)
    refine own_via st13 ?_
    show own_E _ _ _ _ _ _ _ T13 (mkF m 95 #[.val (.int p1), .val (.int (0 : Int32)), .val (.ref bF), .val (.ref bF), .val (.int (1 : Int32)), .val (.int (1 : Int32)), .unset] [(.ref bF), (.ref bF)])
    refine own_via (fun t => Jvm.RoadKit.acmp (g := (mkF m 95 #[.val (.int p1), .val (.int (0 : Int32)), .val (.ref bF), .val (.ref bF), .val (.int (1 : Int32)), .val (.int (1 : Int32)), .unset] [(.ref bF), (.ref bF)])) X13 hx rfl rfl rfl (pc0 := 95) (pc' := 98) (same := true) rfl (hb hby at_95) rfl (decide_eq_true rfl) (by decide) (by decide)) ?_
    show own_E _ _ _ _ _ _ _ T13 (mkF m 98 #[.val (.int p1), .val (.int (0 : Int32)), .val (.ref bF), .val (.ref bF), .val (.int (1 : Int32)), .val (.int (1 : Int32)), .unset] [])
    refine own_via (fun t => XS.aloadN X13.here hx rfl (hb hby at_98) rfl rfl) ?_
    show own_E _ _ _ _ _ _ _ T13 (mkF m 99 #[.val (.int p1), .val (.int (0 : Int32)), .val (.ref bF), .val (.ref bF), .val (.int (1 : Int32)), .val (.int (1 : Int32)), .unset] [(.ref bF)])
    obtain ⟨T14, X14, e14, st14⟩ := getS (host := "") X13 hx hZ hown (hw _ (List.mem_of_getElem? (i := 27) rfl)) Via.refl e13 S_T (g := (mkF m 99 #[.val (.int p1), .val (.int (0 : Int32)), .val (.ref bF), .val (.ref bF), .val (.int (1 : Int32)), .val (.int (1 : Int32)), .unset] [(.ref bF)])) rfl (hb hby at_99)
    refine own_via st14 ?_
    show own_E _ _ _ _ _ _ _ T14 (mkF m 102 #[.val (.int p1), .val (.int (0 : Int32)), .val (.ref bF), .val (.ref bF), .val (.int (1 : Int32)), .val (.int (1 : Int32)), .unset] [(.ref bT), (.ref bF)])
    refine own_via (fun t => Jvm.RoadKit.acmp (g := (mkF m 102 #[.val (.int p1), .val (.int (0 : Int32)), .val (.ref bF), .val (.ref bF), .val (.int (1 : Int32)), .val (.int (1 : Int32)), .unset] [(.ref bT), (.ref bF)])) X14 hx rfl rfl rfl (pc0 := 102) (pc' := 105) (same := false) rfl (hb hby at_102) rfl (decide_eq_false (fun h => hne (Value.ref.inj h))) (by decide) (by decide)) ?_
    show own_E _ _ _ _ _ _ _ T14 (mkF m 105 #[.val (.int p1), .val (.int (0 : Int32)), .val (.ref bF), .val (.ref bF), .val (.int (1 : Int32)), .val (.int (1 : Int32)), .unset] [])
    refine own_via (fun t => XS.iconst X14.here hx rfl (hb hby at_105)) ?_
    show own_E _ _ _ _ _ _ _ T14 (mkF m 106 #[.val (.int p1), .val (.int (0 : Int32)), .val (.ref bF), .val (.ref bF), .val (.int (1 : Int32)), .val (.int (1 : Int32)), .unset] [(.int (1 : Int32))])
    refine own_via (fun t => XS.goto X14.here hx rfl (pc0 := 106) (pc' := 110) rfl (hb hby at_106) (by decide) (by decide)) ?_
    show own_E _ _ _ _ _ _ _ T14 (mkF m 110 #[.val (.int p1), .val (.int (0 : Int32)), .val (.ref bF), .val (.ref bF), .val (.int (1 : Int32)), .val (.int (1 : Int32)), .unset] [(.int (1 : Int32))])
    refine own_via (fun t => XS.istore X14.here hx rfl (hb hby at_110) rfl (l' := #[.val (.int p1), .val (.int (0 : Int32)), .val (.ref bF), .val (.ref bF), .val (.int (1 : Int32)), .val (.int (1 : Int32)), .val (.int (1 : Int32))]) rfl) ?_
    show own_E _ _ _ _ _ _ _ T14 (mkF m 112 #[.val (.int p1), .val (.int (0 : Int32)), .val (.ref bF), .val (.ref bF), .val (.int (1 : Int32)), .val (.int (1 : Int32)), .val (.int (1 : Int32))] [])
    refine own_via (fun t => XS.iload X14.here hx rfl (hb hby at_112) rfl) ?_
    show own_E _ _ _ _ _ _ _ T14 (mkF m 114 #[.val (.int p1), .val (.int (0 : Int32)), .val (.ref bF), .val (.ref bF), .val (.int (1 : Int32)), .val (.int (1 : Int32)), .val (.int (1 : Int32))] [(.int (1 : Int32))])
    refine own_via (fun t => XS.ifNo X14.here hx rfl (hb hby at_114) rfl ((if0 _ _).trans (feq (by decide : ¬ ((1 : Int32) = (0 : Int32)))).1)) ?_
    show own_E _ _ _ _ _ _ _ T14 (mkF m 117 #[.val (.int p1), .val (.int (0 : Int32)), .val (.ref bF), .val (.ref bF), .val (.int (1 : Int32)), .val (.int (1 : Int32)), .val (.int (1 : Int32))] [])
    refine own_via (fun t => XS.iload X14.here hx rfl (hb hby at_117) rfl) ?_
    show own_E _ _ _ _ _ _ _ T14 (mkF m 119 #[.val (.int p1), .val (.int (0 : Int32)), .val (.ref bF), .val (.ref bF), .val (.int (1 : Int32)), .val (.int (1 : Int32)), .val (.int (1 : Int32))] [(.int (1 : Int32))])
    refine own_via (fun t => XS.ifNo X14.here hx rfl (hb hby at_119) rfl ((if0 _ _).trans (feq (by decide : ¬ ((1 : Int32) = (0 : Int32)))).1)) ?_
    show own_E _ _ _ _ _ _ _ T14 (mkF m 122 #[.val (.int p1), .val (.int (0 : Int32)), .val (.ref bF), .val (.ref bF), .val (.int (1 : Int32)), .val (.int (1 : Int32)), .val (.int (1 : Int32))] [])
    refine own_via (fun t => XS.iload X14.here hx rfl (hb hby at_122) rfl) ?_
    show own_E _ _ _ _ _ _ _ T14 (mkF m 124 #[.val (.int p1), .val (.int (0 : Int32)), .val (.ref bF), .val (.ref bF), .val (.int (1 : Int32)), .val (.int (1 : Int32)), .val (.int (1 : Int32))] [(.int (1 : Int32))])
    refine own_via (fun t => XS.ifNo X14.here hx rfl (hb hby at_124) rfl ((if0 _ _).trans (feq (by decide : ¬ ((1 : Int32) = (0 : Int32)))).1)) ?_
    show own_E _ _ _ _ _ _ _ T14 (mkF m 127 #[.val (.int p1), .val (.int (0 : Int32)), .val (.ref bF), .val (.ref bF), .val (.int (1 : Int32)), .val (.int (1 : Int32)), .val (.int (1 : Int32))] [])
    refine own_via (fun t => XS.iconst X14.here hx rfl (hb hby at_127)) ?_
    show own_E _ _ _ _ _ _ _ T14 (mkF m 128 #[.val (.int p1), .val (.int (0 : Int32)), .val (.ref bF), .val (.ref bF), .val (.int (1 : Int32)), .val (.int (1 : Int32)), .val (.int (1 : Int32))] [(.int (1 : Int32))])
    refine own_via (fun t => XS.goto X14.here hx rfl (pc0 := 128) (pc' := 132) rfl (hb hby at_128) (by decide) (by decide)) ?_
    show own_E _ _ _ _ _ _ _ T14 (mkF m 132 #[.val (.int p1), .val (.int (0 : Int32)), .val (.ref bF), .val (.ref bF), .val (.int (1 : Int32)), .val (.int (1 : Int32)), .val (.int (1 : Int32))] [(.int (1 : Int32))])
    exact own_retN X14 hx hlk Bd.returns (Or.inl rfl) (hb hby at_132) (Nat.le_refl _) (Nat.le_refl _) ⟨rfl, NA11⟩
  · refine own_via (fun t => XS.ifNo X0.here hx rfl (hb hby at_3) rfl ((if0 _ _).trans (feq c3_6).1)) ?_
    show own_E _ _ _ _ _ _ _ s₁ (mkF m 6 #[.val (.int p1), .unset, .unset, .unset, .unset, .unset, .unset] [])
    refine own_via (fun t => XS.iconst X0.here hx rfl (hb hby at_6)) ?_
    show own_E _ _ _ _ _ _ _ s₁ (mkF m 7 #[.val (.int p1), .unset, .unset, .unset, .unset, .unset, .unset] [(.int (1 : Int32))])
    refine own_via (fun t => XS.goto X0.here hx rfl (pc0 := 7) (pc' := 11) rfl (hb hby at_7) (by decide) (by decide)) ?_
    show own_E _ _ _ _ _ _ _ s₁ (mkF m 11 #[.val (.int p1), .unset, .unset, .unset, .unset, .unset, .unset] [(.int (1 : Int32))])
    refine own_via (fun t => XS.istoreN X0.here hx rfl (hb hby at_11) rfl (l' := #[.val (.int p1), .val (.int (1 : Int32)), .unset, .unset, .unset, .unset, .unset]) rfl) ?_
    show own_E _ _ _ _ _ _ _ s₁ (mkF m 12 #[.val (.int p1), .val (.int (1 : Int32)), .unset, .unset, .unset, .unset, .unset] [])
    refine own_via (fun t => XS.iloadN X0.here hx rfl (hb hby at_12) rfl) ?_
    show own_E _ _ _ _ _ _ _ s₁ (mkF m 13 #[.val (.int p1), .val (.int (1 : Int32)), .unset, .unset, .unset, .unset, .unset] [(.int (1 : Int32))])
    obtain ⟨_, _, ⟨T15, L15, k15, n15⟩, -, X15, ⟨Lc15, hQ15, l15, y15, z15⟩, st15⟩ := Jvm.LawKit.callS X0 hx (y := (⟨"com/example/exhaust/exhaust/engine/value/Term", "truth", "(Z)Lcom/example/exhaust/exhaust/engine/value/Term;"⟩ : MethodName)) hown (mvT hZ (hw _ (List.mem_of_getElem? (i := 0) rfl))) (mvT hZ (hw _ (List.mem_of_getElem? (i := 1) rfl))) (mvT hZ (hw _ (List.mem_of_getElem? (i := 2) rfl))) (mvT hZ (hw _ (List.mem_of_getElem? (i := 3) rfl))) (by decide) (backOf (W := 0) (rm1 l Z a0 hw [] (1 : Int32) bT bF bT ⟨fun h => absurd h (by decide), fun _ => rfl⟩ h0 n0 Z0 S_T S_F) hZ (hw _ (List.mem_of_getElem? (i := 3) rfl)) (hw _ (List.mem_of_getElem? (i := 2) rfl)) (by decide) (by decide)) (g := (mkF m 13 #[.val (.int p1), .val (.int (1 : Int32)), .unset, .unset, .unset, .unset, .unset] [(.int (1 : Int32))])) rfl (by rw [hml]; rfl) (argsL := [(.int (1 : Int32))]) (rest := []) (lenOf pd_1 rfl) rfl (by show 2 * 0 + _ ≤ _; exact Nat.le_of_eq rfl) (hb hby at_13) (fun _ _ => ⟨rfl, e0, (by decide : 0 + 0 ≤ _), (by decide : 0 + 0 ≤ _)⟩)
    dsimp only [Pt.U, Pt.locs, Pt.cells, Pt.slots] at X15 l15 y15 z15 st15 hQ15
    subst l15 y15 z15
    obtain ⟨rfl, N15, e15⟩ := hQ15
    refine own_via st15 ?_
    show own_E _ _ _ _ _ _ _ T15 (mkF m 16 #[.val (.int p1), .val (.int (1 : Int32)), .unset, .unset, .unset, .unset, .unset] [(.ref bT)])
    have NA15 := Fr.app N0 N15
    refine own_via (fun t => XS.astoreN X15.here hx rfl (hb hby at_16) rfl rfl (l' := #[.val (.int p1), .val (.int (1 : Int32)), .val (.ref bT), .unset, .unset, .unset, .unset]) rfl) ?_
    show own_E _ _ _ _ _ _ _ T15 (mkF m 17 #[.val (.int p1), .val (.int (1 : Int32)), .val (.ref bT), .unset, .unset, .unset, .unset] [])
    refine own_via (fun t => XS.aloadN X15.here hx rfl (hb hby at_17) rfl rfl) ?_
    show own_E _ _ _ _ _ _ _ T15 (mkF m 18 #[.val (.int p1), .val (.int (1 : Int32)), .val (.ref bT), .unset, .unset, .unset, .unset] [(.ref bT)])
    obtain ⟨T16, X16, e16, st16⟩ := instY X15 hx hZ hown (hw _ (List.mem_of_getElem? (i := 6) rfl)) e15 (Ins.self E_T) (g := (mkF m 18 #[.val (.int p1), .val (.int (1 : Int32)), .val (.ref bT), .unset, .unset, .unset, .unset] [(.ref bT)])) rfl rfl (hb hby at_18)
    refine own_via st16 ?_
    show own_E _ _ _ _ _ _ _ T16 (mkF m 21 #[.val (.int p1), .val (.int (1 : Int32)), .val (.ref bT), .unset, .unset, .unset, .unset] [(.int (1 : Int32))])
    refine own_via (fun t => XS.ifYes X16.here hx rfl (pc0 := 21) (pc' := 26) rfl (hb hby at_21) rfl ((if0 _ _).trans (feq (by decide : ¬ ((1 : Int32) = (0 : Int32)))).2) (by decide) (by decide)) ?_
    show own_E _ _ _ _ _ _ _ T16 (mkF m 26 #[.val (.int p1), .val (.int (1 : Int32)), .val (.ref bT), .unset, .unset, .unset, .unset] [])
    refine own_via (fun t => XS.aloadN X16.here hx rfl (hb hby at_26) rfl rfl) ?_
    show own_E _ _ _ _ _ _ _ T16 (mkF m 27 #[.val (.int p1), .val (.int (1 : Int32)), .val (.ref bT), .unset, .unset, .unset, .unset] [(.ref bT)])
    obtain ⟨T17, X17, e17, st17⟩ := castY X16 hx hZ hown (hw _ (List.mem_of_getElem? (i := 6) rfl)) e16 (Ins.self E_T) (g := (mkF m 27 #[.val (.int p1), .val (.int (1 : Int32)), .val (.ref bT), .unset, .unset, .unset, .unset] [(.ref bT)])) rfl rfl (hb hby at_27)
    refine own_via st17 ?_
    show own_E _ _ _ _ _ _ _ T17 (mkF m 30 #[.val (.int p1), .val (.int (1 : Int32)), .val (.ref bT), .unset, .unset, .unset, .unset] [(.ref bT)])
    refine own_via (fun t => XS.astoreN X17.here hx rfl (hb hby at_30) rfl rfl (l' := #[.val (.int p1), .val (.int (1 : Int32)), .val (.ref bT), .val (.ref bT), .unset, .unset, .unset]) rfl) ?_
    show own_E _ _ _ _ _ _ _ T17 (mkF m 31 #[.val (.int p1), .val (.int (1 : Int32)), .val (.ref bT), .val (.ref bT), .unset, .unset, .unset] [])
    refine own_via (fun t => XS.aloadN X17.here hx rfl (hb hby at_31) rfl rfl) ?_
    show own_E _ _ _ _ _ _ _ T17 (mkF m 32 #[.val (.int p1), .val (.int (1 : Int32)), .val (.ref bT), .val (.ref bT), .unset, .unset, .unset] [(.ref bT)])
    obtain ⟨cq18, kq18, q18a, q18b, q18c⟩ := isOf hZ e17 E_T
    obtain ⟨_, _, ⟨T18, L18, k18, n18⟩, -, X18, ⟨Lc18, hQ18, l18, y18, z18⟩, st18⟩ := X17.virtualBack hx (y := (⟨"com/example/exhaust/exhaust/engine/value/Term$Truth", "value", "()Z"⟩ : MethodName)) (z := (⟨"com/example/exhaust/exhaust/engine/value/Term$Truth", "value", "()Z"⟩ : MethodName)) hown (mvT hZ (hw _ (List.mem_of_getElem? (i := 8) rfl))) (mvT hZ (hw _ (List.mem_of_getElem? (i := 9) rfl))) (notFace_of_selects (args := #[]) (mvT hZ (hw _ (List.mem_of_getElem? (i := 11) rfl)))) (mvT hZ (hw _ (List.mem_of_getElem? (i := 11) rfl))) (mvT hZ (hw _ (List.mem_of_getElem? (i := 10) rfl))) (by decide) (backOf (W := 0) (rm2 l Z a0 hw [] bT 1 rfl h0 n0 Z0 V_T) hZ (hw _ (List.mem_of_getElem? (i := 13) rfl)) (hw _ (List.mem_of_getElem? (i := 12) rfl)) (by decide) (by decide)) q18a q18c (g := (mkF m 32 #[.val (.int p1), .val (.int (1 : Int32)), .val (.ref bT), .val (.ref bT), .unset, .unset, .unset] [(.ref bT)])) rfl (by rw [hml]; rfl) (Steps.refl _) (argsL := []) (rest := []) (lenOf pd_2 rfl) rfl (by show 2 * 0 + _ ≤ _; exact Nat.le_of_eq rfl) (hb hby at_32) (fun _ _ => ⟨rfl, e17, (by decide : 0 + 0 ≤ _), (by decide : 0 + 0 ≤ _)⟩)
    dsimp only [Pt.U, Pt.locs, Pt.cells, Pt.slots] at X18 l18 y18 z18 st18 hQ18
    subst l18 y18 z18
    obtain ⟨rfl, N18, e18⟩ := hQ18
    refine own_thru st18 ?_
    show own_E _ _ _ _ _ _ _ T18 (mkF m 35 #[.val (.int p1), .val (.int (1 : Int32)), .val (.ref bT), .val (.ref bT), .unset, .unset, .unset] [(.int (1 : Int32))])
    have NA18 := Fr.app NA15 N18
    refine own_via (fun t => XS.iloadN X18.here hx rfl (hb hby at_35) rfl) ?_
    show own_E _ _ _ _ _ _ _ T18 (mkF m 36 #[.val (.int p1), .val (.int (1 : Int32)), .val (.ref bT), .val (.ref bT), .unset, .unset, .unset] [(.int (1 : Int32)), (.int (1 : Int32))])
    refine own_via (fun t => XS.icmpNo X18.here hx rfl (hb hby at_36) rfl (teq (by decide : (1 : Int32) = (1 : Int32))).2) ?_
    show own_E _ _ _ _ _ _ _ T18 (mkF m 39 #[.val (.int p1), .val (.int (1 : Int32)), .val (.ref bT), .val (.ref bT), .unset, .unset, .unset] [])
    refine own_via (fun t => XS.iconst X18.here hx rfl (hb hby at_39)) ?_
    show own_E _ _ _ _ _ _ _ T18 (mkF m 40 #[.val (.int p1), .val (.int (1 : Int32)), .val (.ref bT), .val (.ref bT), .unset, .unset, .unset] [(.int (1 : Int32))])
    refine own_via (fun t => XS.goto X18.here hx rfl (pc0 := 40) (pc' := 44) rfl (hb hby at_40) (by decide) (by decide)) ?_
    show own_E _ _ _ _ _ _ _ T18 (mkF m 44 #[.val (.int p1), .val (.int (1 : Int32)), .val (.ref bT), .val (.ref bT), .unset, .unset, .unset] [(.int (1 : Int32))])
    refine own_via (fun t => XS.istore X18.here hx rfl (hb hby at_44) rfl (l' := #[.val (.int p1), .val (.int (1 : Int32)), .val (.ref bT), .val (.ref bT), .val (.int (1 : Int32)), .unset, .unset]) rfl) ?_
    show own_E _ _ _ _ _ _ _ T18 (mkF m 46 #[.val (.int p1), .val (.int (1 : Int32)), .val (.ref bT), .val (.ref bT), .val (.int (1 : Int32)), .unset, .unset] [])
    refine own_via (fun t => XS.aloadN X18.here hx rfl (hb hby at_46) rfl rfl) ?_
    show own_E _ _ _ _ _ _ _ T18 (mkF m 47 #[.val (.int p1), .val (.int (1 : Int32)), .val (.ref bT), .val (.ref bT), .val (.int (1 : Int32)), .unset, .unset] [(.ref bT)])
    obtain ⟨cq19, kq19, q19a, q19b, q19c⟩ := isOf hZ e18 E_T
    obtain ⟨_, _, ⟨T19, L19, k19, n19⟩, -, X19, ⟨Lc19, hQ19, l19, y19, z19⟩, st19⟩ := X18.virtualBack hx (y := (⟨"com/example/exhaust/exhaust/engine/value/Term", "sort", "()Lcom/example/exhaust/exhaust/engine/value/Term$Sort;"⟩ : MethodName)) (z := (⟨"com/example/exhaust/exhaust/engine/value/Term", "sort", "()Lcom/example/exhaust/exhaust/engine/value/Term$Sort;"⟩ : MethodName)) hown (mvT hZ (hw _ (List.mem_of_getElem? (i := 16) rfl))) (mvT hZ (hw _ (List.mem_of_getElem? (i := 17) rfl))) (notFace_of_selects (args := #[]) (mvT hZ (hw _ (List.mem_of_getElem? (i := 19) rfl)))) (mvT hZ (hw _ (List.mem_of_getElem? (i := 19) rfl))) (mvT hZ (hw _ (List.mem_of_getElem? (i := 18) rfl))) (by decide) (backOf (W := 0) (rm3 l Z a0 hw [] bT bS h0 n0 Z0 O_T) hZ (hw _ (List.mem_of_getElem? (i := 20) rfl)) (hw _ (List.mem_of_getElem? (i := 2) rfl)) (by decide) (by decide)) q19a q19c (g := (mkF m 47 #[.val (.int p1), .val (.int (1 : Int32)), .val (.ref bT), .val (.ref bT), .val (.int (1 : Int32)), .unset, .unset] [(.ref bT)])) rfl (by rw [hml]; rfl) (Steps.refl _) (argsL := []) (rest := []) (lenOf pd_3 rfl) rfl (by show 2 * 0 + _ ≤ _; exact Nat.le_of_eq rfl) (hb hby at_47) (fun _ _ => ⟨rfl, e18, (by decide : 0 + 0 ≤ _), (by decide : 0 + 0 ≤ _)⟩)
    dsimp only [Pt.U, Pt.locs, Pt.cells, Pt.slots] at X19 l19 y19 z19 st19 hQ19
    subst l19 y19 z19
    obtain ⟨rfl, N19, e19⟩ := hQ19
    refine own_thru st19 ?_
    show own_E _ _ _ _ _ _ _ T19 (mkF m 50 #[.val (.int p1), .val (.int (1 : Int32)), .val (.ref bT), .val (.ref bT), .val (.int (1 : Int32)), .unset, .unset] [(.ref bS)])
    have NA19 := Fr.app NA18 N19
    obtain ⟨T20, X20, e20, st20⟩ := getS (host := "") X19 hx hZ hown (hw _ (List.mem_of_getElem? (i := 25) rfl)) Via.refl e19 S_S (g := (mkF m 50 #[.val (.int p1), .val (.int (1 : Int32)), .val (.ref bT), .val (.ref bT), .val (.int (1 : Int32)), .unset, .unset] [(.ref bS)])) rfl (hb hby at_50)
    refine own_via st20 ?_
    show own_E _ _ _ _ _ _ _ T20 (mkF m 53 #[.val (.int p1), .val (.int (1 : Int32)), .val (.ref bT), .val (.ref bT), .val (.int (1 : Int32)), .unset, .unset] [(.ref bS), (.ref bS)])
    refine own_via (fun t => Jvm.RoadKit.acmp (g := (mkF m 53 #[.val (.int p1), .val (.int (1 : Int32)), .val (.ref bT), .val (.ref bT), .val (.int (1 : Int32)), .unset, .unset] [(.ref bS), (.ref bS)])) X20 hx rfl rfl rfl (pc0 := 53) (pc' := 56) (same := true) rfl (hb hby at_53) rfl (decide_eq_true rfl) (by decide) (by decide)) ?_
    show own_E _ _ _ _ _ _ _ T20 (mkF m 56 #[.val (.int p1), .val (.int (1 : Int32)), .val (.ref bT), .val (.ref bT), .val (.int (1 : Int32)), .unset, .unset] [])
    refine own_via (fun t => XS.iconst X20.here hx rfl (hb hby at_56)) ?_
    show own_E _ _ _ _ _ _ _ T20 (mkF m 57 #[.val (.int p1), .val (.int (1 : Int32)), .val (.ref bT), .val (.ref bT), .val (.int (1 : Int32)), .unset, .unset] [(.int (1 : Int32))])
    refine own_via (fun t => XS.goto X20.here hx rfl (pc0 := 57) (pc' := 61) rfl (hb hby at_57) (by decide) (by decide)) ?_
    show own_E _ _ _ _ _ _ _ T20 (mkF m 61 #[.val (.int p1), .val (.int (1 : Int32)), .val (.ref bT), .val (.ref bT), .val (.int (1 : Int32)), .unset, .unset] [(.int (1 : Int32))])
    refine own_via (fun t => XS.istore X20.here hx rfl (hb hby at_61) rfl (l' := #[.val (.int p1), .val (.int (1 : Int32)), .val (.ref bT), .val (.ref bT), .val (.int (1 : Int32)), .val (.int (1 : Int32)), .unset]) rfl) ?_
    show own_E _ _ _ _ _ _ _ T20 (mkF m 63 #[.val (.int p1), .val (.int (1 : Int32)), .val (.ref bT), .val (.ref bT), .val (.int (1 : Int32)), .val (.int (1 : Int32)), .unset] [])
    refine own_via (fun t => XS.iloadN X20.here hx rfl (hb hby at_63) rfl) ?_
    show own_E _ _ _ _ _ _ _ T20 (mkF m 64 #[.val (.int p1), .val (.int (1 : Int32)), .val (.ref bT), .val (.ref bT), .val (.int (1 : Int32)), .val (.int (1 : Int32)), .unset] [(.int (1 : Int32))])
    refine own_via (fun t => XS.ifNo X20.here hx rfl (hb hby at_64) rfl ((if0 _ _).trans (feq (by decide : ¬ ((1 : Int32) = (0 : Int32)))).1)) ?_
    show own_E _ _ _ _ _ _ _ T20 (mkF m 67 #[.val (.int p1), .val (.int (1 : Int32)), .val (.ref bT), .val (.ref bT), .val (.int (1 : Int32)), .val (.int (1 : Int32)), .unset] [])
    refine own_via (fun t => XS.aloadN X20.here hx rfl (hb hby at_67) rfl rfl) ?_
    show own_E _ _ _ _ _ _ _ T20 (mkF m 68 #[.val (.int p1), .val (.int (1 : Int32)), .val (.ref bT), .val (.ref bT), .val (.int (1 : Int32)), .val (.int (1 : Int32)), .unset] [(.ref bT)])
    obtain ⟨T21, X21, e21, st21⟩ := getS (host := "") X20 hx hZ hown (hw _ (List.mem_of_getElem? (i := 27) rfl)) Via.refl e20 S_T (g := (mkF m 68 #[.val (.int p1), .val (.int (1 : Int32)), .val (.ref bT), .val (.ref bT), .val (.int (1 : Int32)), .val (.int (1 : Int32)), .unset] [(.ref bT)])) rfl (hb hby at_68)
    refine own_via st21 ?_
    show own_E _ _ _ _ _ _ _ T21 (mkF m 71 #[.val (.int p1), .val (.int (1 : Int32)), .val (.ref bT), .val (.ref bT), .val (.int (1 : Int32)), .val (.int (1 : Int32)), .unset] [(.ref bT), (.ref bT)])
    refine own_via (fun t => Jvm.RoadKit.acmp (g := (mkF m 71 #[.val (.int p1), .val (.int (1 : Int32)), .val (.ref bT), .val (.ref bT), .val (.int (1 : Int32)), .val (.int (1 : Int32)), .unset] [(.ref bT), (.ref bT)])) X21 hx rfl rfl rfl (pc0 := 71) (pc' := 74) (same := true) rfl (hb hby at_71) rfl (decide_eq_true rfl) (by decide) (by decide)) ?_
    show own_E _ _ _ _ _ _ _ T21 (mkF m 74 #[.val (.int p1), .val (.int (1 : Int32)), .val (.ref bT), .val (.ref bT), .val (.int (1 : Int32)), .val (.int (1 : Int32)), .unset] [])
    refine own_via (fun t => XS.aloadN X21.here hx rfl (hb hby at_74) rfl rfl) ?_
    show own_E _ _ _ _ _ _ _ T21 (mkF m 75 #[.val (.int p1), .val (.int (1 : Int32)), .val (.ref bT), .val (.ref bT), .val (.int (1 : Int32)), .val (.int (1 : Int32)), .unset] [(.ref bT)])
    obtain ⟨T22, X22, e22, st22⟩ := getS (host := "") X21 hx hZ hown (hw _ (List.mem_of_getElem? (i := 26) rfl)) Via.refl e21 S_F (g := (mkF m 75 #[.val (.int p1), .val (.int (1 : Int32)), .val (.ref bT), .val (.ref bT), .val (.int (1 : Int32)), .val (.int (1 : Int32)), .unset] [(.ref bT)])) rfl (hb hby at_75)
    refine own_via st22 ?_
    show own_E _ _ _ _ _ _ _ T22 (mkF m 78 #[.val (.int p1), .val (.int (1 : Int32)), .val (.ref bT), .val (.ref bT), .val (.int (1 : Int32)), .val (.int (1 : Int32)), .unset] [(.ref bF), (.ref bT)])
    refine own_via (fun t => Jvm.RoadKit.acmp (g := (mkF m 78 #[.val (.int p1), .val (.int (1 : Int32)), .val (.ref bT), .val (.ref bT), .val (.int (1 : Int32)), .val (.int (1 : Int32)), .unset] [(.ref bF), (.ref bT)])) X22 hx rfl rfl rfl (pc0 := 78) (pc' := 81) (same := false) rfl (hb hby at_78) rfl (decide_eq_false (fun h => hne (Value.ref.inj h).symm)) (by decide) (by decide)) ?_
    show own_E _ _ _ _ _ _ _ T22 (mkF m 81 #[.val (.int p1), .val (.int (1 : Int32)), .val (.ref bT), .val (.ref bT), .val (.int (1 : Int32)), .val (.int (1 : Int32)), .unset] [])
    refine own_via (fun t => XS.iconst X22.here hx rfl (hb hby at_81)) ?_
    show own_E _ _ _ _ _ _ _ T22 (mkF m 82 #[.val (.int p1), .val (.int (1 : Int32)), .val (.ref bT), .val (.ref bT), .val (.int (1 : Int32)), .val (.int (1 : Int32)), .unset] [(.int (1 : Int32))])
    refine own_via (fun t => XS.goto X22.here hx rfl (pc0 := 82) (pc' := 86) rfl (hb hby at_82) (by decide) (by decide)) ?_
    show own_E _ _ _ _ _ _ _ T22 (mkF m 86 #[.val (.int p1), .val (.int (1 : Int32)), .val (.ref bT), .val (.ref bT), .val (.int (1 : Int32)), .val (.int (1 : Int32)), .unset] [(.int (1 : Int32))])
    refine own_via (fun t => XS.istore X22.here hx rfl (hb hby at_86) rfl (l' := #[.val (.int p1), .val (.int (1 : Int32)), .val (.ref bT), .val (.ref bT), .val (.int (1 : Int32)), .val (.int (1 : Int32)), .val (.int (1 : Int32))]) rfl) ?_
    show own_E _ _ _ _ _ _ _ T22 (mkF m 88 #[.val (.int p1), .val (.int (1 : Int32)), .val (.ref bT), .val (.ref bT), .val (.int (1 : Int32)), .val (.int (1 : Int32)), .val (.int (1 : Int32))] [])
    refine own_via (fun t => XS.goto X22.here hx rfl (pc0 := 88) (pc' := 112) rfl (hb hby at_88) (by decide) (by decide)) ?_
    show own_E _ _ _ _ _ _ _ T22 (mkF m 112 #[.val (.int p1), .val (.int (1 : Int32)), .val (.ref bT), .val (.ref bT), .val (.int (1 : Int32)), .val (.int (1 : Int32)), .val (.int (1 : Int32))] [])
    refine own_via (fun t => XS.iload X22.here hx rfl (hb hby at_112) rfl) ?_
    show own_E _ _ _ _ _ _ _ T22 (mkF m 114 #[.val (.int p1), .val (.int (1 : Int32)), .val (.ref bT), .val (.ref bT), .val (.int (1 : Int32)), .val (.int (1 : Int32)), .val (.int (1 : Int32))] [(.int (1 : Int32))])
    refine own_via (fun t => XS.ifNo X22.here hx rfl (hb hby at_114) rfl ((if0 _ _).trans (feq (by decide : ¬ ((1 : Int32) = (0 : Int32)))).1)) ?_
    show own_E _ _ _ _ _ _ _ T22 (mkF m 117 #[.val (.int p1), .val (.int (1 : Int32)), .val (.ref bT), .val (.ref bT), .val (.int (1 : Int32)), .val (.int (1 : Int32)), .val (.int (1 : Int32))] [])
    refine own_via (fun t => XS.iload X22.here hx rfl (hb hby at_117) rfl) ?_
    show own_E _ _ _ _ _ _ _ T22 (mkF m 119 #[.val (.int p1), .val (.int (1 : Int32)), .val (.ref bT), .val (.ref bT), .val (.int (1 : Int32)), .val (.int (1 : Int32)), .val (.int (1 : Int32))] [(.int (1 : Int32))])
    refine own_via (fun t => XS.ifNo X22.here hx rfl (hb hby at_119) rfl ((if0 _ _).trans (feq (by decide : ¬ ((1 : Int32) = (0 : Int32)))).1)) ?_
    show own_E _ _ _ _ _ _ _ T22 (mkF m 122 #[.val (.int p1), .val (.int (1 : Int32)), .val (.ref bT), .val (.ref bT), .val (.int (1 : Int32)), .val (.int (1 : Int32)), .val (.int (1 : Int32))] [])
    refine own_via (fun t => XS.iload X22.here hx rfl (hb hby at_122) rfl) ?_
    show own_E _ _ _ _ _ _ _ T22 (mkF m 124 #[.val (.int p1), .val (.int (1 : Int32)), .val (.ref bT), .val (.ref bT), .val (.int (1 : Int32)), .val (.int (1 : Int32)), .val (.int (1 : Int32))] [(.int (1 : Int32))])
    refine own_via (fun t => XS.ifNo X22.here hx rfl (hb hby at_124) rfl ((if0 _ _).trans (feq (by decide : ¬ ((1 : Int32) = (0 : Int32)))).1)) ?_
    show own_E _ _ _ _ _ _ _ T22 (mkF m 127 #[.val (.int p1), .val (.int (1 : Int32)), .val (.ref bT), .val (.ref bT), .val (.int (1 : Int32)), .val (.int (1 : Int32)), .val (.int (1 : Int32))] [])
    refine own_via (fun t => XS.iconst X22.here hx rfl (hb hby at_127)) ?_
    show own_E _ _ _ _ _ _ _ T22 (mkF m 128 #[.val (.int p1), .val (.int (1 : Int32)), .val (.ref bT), .val (.ref bT), .val (.int (1 : Int32)), .val (.int (1 : Int32)), .val (.int (1 : Int32))] [(.int (1 : Int32))])
    refine own_via (fun t => XS.goto X22.here hx rfl (pc0 := 128) (pc' := 132) rfl (hb hby at_128) (by decide) (by decide)) ?_
    show own_E _ _ _ _ _ _ _ T22 (mkF m 132 #[.val (.int p1), .val (.int (1 : Int32)), .val (.ref bT), .val (.ref bT), .val (.int (1 : Int32)), .val (.int (1 : Int32)), .val (.int (1 : Int32))] [(.int (1 : Int32))])
    exact own_retN X22 hx hlk Bd.returns (Or.inl rfl) (hb hby at_132) (Nat.le_refl _) (Nat.le_refl _) ⟨rfl, NA19⟩
set_option maxRecDepth 65536 in
set_option maxHeartbeats 40000000 in
theorem comes_1 {Post : Tables → Env → Array Value → State → Outcome → State → Prop} (hpost : ∀ tb e args s v u, (limb_1_1.after args s (.returned v) u = true ∧ limb_1_2.after args s (.returned v) u = true ∧ True) → FrameEnd s (.returned v) u (Jvm.fieldLocs frame_1_writes args s ++ Jvm.arrayLocs frame_1_arrays args s ++ Jvm.staticLocs frame_1_statics s) 0 0 → Post tb e args s (.returned v) u) :
    ArmFor flags0 classFile x code maxLocals ret World_1 tables_1 room_1 Calls_1 rest_1 Pre_1 Post := by
  intro l hfl _ _ p e ha hc hk s m args below hf hA hF happ hP
  obtain ⟨hcalls, hrest, hpre⟩ := hP
  obtain ⟨-, -, -, hnamed, -, -, -, hat⟩ := (Spec.applies_iff hf).mp happ
  obtain ⟨hg, hn⟩ := and_e (Cond.before_iff.mp (show (Jvm.Cond.and given_1 narrow_1).before args s = true from hpre))
  obtain ⟨hcount, hg0⟩ := and_e hg
  have hi0 := hg0
  obtain ⟨w0, rfl⟩ : ∃ w0 : Value, args = #[w0] := by
    have hs : args.size = 1 := by simpa [Cond.value, given_1] using hcount
    obtain ⟨L⟩ := args
    match L, hs with
    | [w0], _ => exact ⟨w0, rfl⟩
  have hw := fun d (hd : d ∈ tables_1) => atoms_spec (ws := Jvm.Cond.code x code maxLocals ret :: tables_1) hat d (List.mem_cons_of_mem _ hd)
  have hfit : Fit s := fun {y c} hc i hi => by
    obtain ⟨ha, rfl⟩ := Array.getElem?_eq_some_iff.mp hc
    have q := List.all_eq_true.mp ((Array.all_eq_true_iff_forall_mem.mp hF) _ (Array.getElem_mem ha)) i (List.mem_range.mpr hi)
    simpa [Array.getElem?_eq_getElem hi] using q
  obtain ⟨i0, ei0⟩ := is_v hi0
  obtain rfl : w0 = (.int i0) := Option.some.inj ei0
  obtain ⟨uxF, v0⟩ := and_e hn
  obtain ⟨uvF, v1⟩ := and_e v0
  obtain ⟨uxS, v2⟩ := and_e v1
  obtain ⟨uoF, v3⟩ := and_e v2
  obtain ⟨uxT, v4⟩ := and_e v3
  obtain ⟨une, v5⟩ := and_e v4
  obtain ⟨uvT, v6⟩ := and_e v5
  have uoT := v6
  obtain ⟨bF, evF⟩ := exa_v uxF
  have S_F := Sta.start evF (Or.inr ⟨hw _ (List.mem_of_getElem? (i := 2) rfl), hw _ (List.mem_of_getElem? (i := 5) rfl)⟩)
  have E_F := Exa.start evF uxF
  obtain ⟨bT, evT⟩ := exa_v uxT
  have S_T := Sta.start evT (Or.inr ⟨hw _ (List.mem_of_getElem? (i := 2) rfl), hw _ (List.mem_of_getElem? (i := 28) rfl)⟩)
  have E_T := Exa.start evT uxT
  obtain ⟨bS, evS⟩ := exa_v uxS
  have S_S := Sta.start evS (Or.inr ⟨hw _ (List.mem_of_getElem? (i := 23) rfl), hw _ (List.mem_of_getElem? (i := 24) rfl)⟩)
  have E_S := Exa.start evS uxS
  have V_F := own_fldI evF uvF
  have O_F := own_fldR evF evS uoF
  have V_T := own_fldI evT uvT
  have O_T := own_fldR evT evS uoT
  have hne : ¬ bF = bT := fun h => gotF (eq_R evF evT rfl rfl) (not_v une) (by rw [h])
  obtain ⟨n, o, h1, h2, h3, _, L, rfl, ⟨rfl, N⟩, hq⟩ := rm0 l s _ hw tables_1 i0 bT bF bS s.heap s.heap.size (Nat.le_refl _) S_T S_F S_S E_T E_F V_T V_F O_T O_F hne p e ha hc hk s m _ below hf ((Spec.applies_iff_loose hf).mp happ).1 ⟨rfl, State.Warmed39.refl s, rfl⟩ trivial
  refine ⟨n, _, h1, h2, h3, hpost _ _ _ _ _ _ ⟨Cond.after_iff.mpr rfl, Cond.after_iff.mpr (eq_i res_at (Term.int_eval (1)) rfl), trivial⟩ ⟨hq.1, hq.2.1, (hq.2.2.sift fun y hy => Or.inr (N y hy)).mono (by decide) (by decide)⟩⟩
theorem main_1_1 : Claimed_1_1 := comes_1 fun _ _ _ _ _ _ h hF => ⟨h.1, hF⟩
theorem main_1_2 : Claimed_1_2 := comes_1 fun _ _ _ _ _ _ h hF => ⟨h.2.1, hF⟩
end Jvm.Pilot.@@N@@
namespace Jvm.Pilot.@@N@@
open Jvm Jvm.ClassFile Sem Op Lib Jvm.Free Jvm.Stand Jvm.Pilot.@@N@@.Jvm.D
/-! MADE BY PROGRAM (witnessworld.py) out of the Statement's table words and the real class files: 12 classes; the members and pool entries that the words name. The judged class is class 1, her method 1. -/
namespace start1
open Jvm.ClassFile
def u (s : String) : CpInfo := .utf8 (stringToUtf16 s)
/-- a pool by its gaps: so many unusable entries, then the entry; so many at the end -/
def gap : Nat → List CpInfo → List CpInfo
  | 0, r => r
  | n + 1, r => .unusable :: gap n r
def poolList (es : List (Nat × CpInfo)) (last : Nat) : List CpInfo := es.foldr (fun e r => gap e.1 (e.2 :: r)) (gap last [])
def pool (es : List (Nat × CpInfo)) (last : Nat) : Array CpInfo := ⟨poolList es last⟩
def fileOf (pool : Array CpInfo) (this : Nat) (attrs : Array Attribute := #[]) (ms : Array MethodInfo := #[]) (fl : Nat := 33) (sup : Nat := 0) (ifs : Array Nat := #[]) (fds : Array FieldInfo := #[]) : ClassFile where
  minorVersion := 0
  majorVersion := 65
  constantPool := pool
  accessFlags := fl
  thisClass := this
  superClass := sup
  interfaces := ifs
  fields := fds
  methods := ms
  attributes := attrs
def plain (name : String) (sup : Option ClassId) : Class where
  name := name
  kind := .ordinary
  loader := none
  accessFlags := 33
  super := sup
  interfaces := #[]
  cf := none
  fields := #[]
  methods := #[]
  instanceTypes := #[]
  staticTypes := #[]
  resolved := #[]
  callSites := []
  init := .initialized
  statics := none
  mirror := none

def pool0 : Array CpInfo := pool [(5, u "<init>"), (0, u "()V"), (1, .class_ 10), (1, u "java/lang/Object")] 113

def k0m0 : Method := { name := "<init>", desc := "()V", sig := { parameters := [], returnType := none }, accessFlags := 1, code := none }
/-- java/lang/Object -/
def k0 : Class := { plain "java/lang/Object" none with
  accessFlags := 33
  interfaces := #[]
  cf := some (fileOf pool0 8 #[] #[{ accessFlags := 1, nameIndex := 5, descriptorIndex := 6, attributes := #[] }] 33 0 #[] #[])
  fields := #[]
  methods := #[k0m0]
  instanceTypes := #[]
  staticTypes := #[]
  resolved := Array.replicate 124 none
  statics := none }

def pool1 : Array CpInfo := pool [(2, .class_ 4), (1, u "java/lang/Object"), (0, u "<init>"), (0, u "()V"), (0, .methodref 8 9), (0, .class_ 10), (0, .nameAndType 11 12), (0, u "com/example/exhaust/exhaust/engine/value/Term"), (0, u "truth"), (0, u "(Z)Lcom/example/exhaust/exhaust/engine/value/Term;"), (0, .class_ 14), (0, u "com/example/exhaust/exhaust/engine/value/Term$Truth"), (0, .methodref 13 16), (0, .nameAndType 17 18), (0, u "value"), (0, u "()Z"), (0, .methodref 8 20), (0, .nameAndType 21 22), (0, u "sort"), (0, u "()Lcom/example/exhaust/exhaust/engine/value/Term$Sort;"), (0, .fieldref 24 25), (0, .class_ 26), (0, .nameAndType 27 28), (0, u "com/example/exhaust/exhaust/engine/value/Term$Sort"), (0, u "TRUTH"), (0, u "Lcom/example/exhaust/exhaust/engine/value/Term$Sort;"), (0, .fieldref 8 30), (0, .nameAndType 31 32), (0, u "TRUE"), (0, u "Lcom/example/exhaust/exhaust/engine/value/Term;"), (0, .fieldref 8 34), (0, .nameAndType 35 32), (0, u "FALSE"), (0, .class_ 37), (0, u "com/example/exhaust/exhaust/engine/value/TermTruthPinLaw"), (2, u "law"), (0, u "(I)Z")] 6

def k1m0 : Method := { name := "<init>", desc := "()V", sig := { parameters := [], returnType := none }, accessFlags := 1, code := none }
def k1c1 : Code := { maxStack := 2, maxLocals := 7, code := code, exceptionTable := #[], attributes := #[] }
def k1m1 : Method := { name := "law", desc := "(I)Z", sig := { parameters := [.int], returnType := some .boolean }, accessFlags := 9, code := some k1c1 }
/-- com/example/exhaust/exhaust/engine/value/TermTruthPinLaw -/
def k1 : Class := { plain "com/example/exhaust/exhaust/engine/value/TermTruthPinLaw" (some 0) with
  accessFlags := 49
  interfaces := #[]
  cf := some (fileOf pool1 36 #[] #[{ accessFlags := 1, nameIndex := 5, descriptorIndex := 6, attributes := #[] }, { accessFlags := 9, nameIndex := 40, descriptorIndex := 41, attributes := #[] }] 49 2 #[] #[])
  fields := #[]
  methods := #[k1m0, k1m1]
  instanceTypes := #[]
  staticTypes := #[]
  resolved := Array.replicate 48 none
  statics := none }

def pool2 : Array CpInfo := pool [(2, .class_ 4), (1, u "java/lang/Object"), (2, .fieldref 8 9), (0, .class_ 10), (0, .nameAndType 11 12), (0, u "com/example/exhaust/exhaust/engine/value/Term"), (0, u "sort"), (0, u "Lcom/example/exhaust/exhaust/engine/value/Term$Sort;"), (0, .class_ 14), (0, u "com/example/exhaust/exhaust/engine/value/Term$Numeral"), (1, .class_ 18), (1, u "com/example/exhaust/exhaust/engine/value/Term$Sort"), (21, .fieldref 8 41), (0, .nameAndType 42 43), (0, u "TRUE"), (0, u "Lcom/example/exhaust/exhaust/engine/value/Term;"), (0, .fieldref 8 45), (0, .nameAndType 46 43), (0, u "FALSE"), (0, .class_ 48), (0, u "com/example/exhaust/exhaust/engine/value/Term$Unknown"), (7, .class_ 57), (0, u "com/example/exhaust/exhaust/engine/value/Term$Bound"), (5, .class_ 64), (0, u "com/example/exhaust/exhaust/engine/value/Term$Truth"), (0, .class_ 66), (0, u "com/example/exhaust/exhaust/engine/value/Term$Quantified"), (18, .class_ 86), (0, u "com/example/exhaust/exhaust/engine/value/Term$Application"), (1, .class_ 90), (1, u "com/example/exhaust/exhaust/engine/value/Term$Operator"), (105, u "truth"), (0, u "(Z)Lcom/example/exhaust/exhaust/engine/value/Term;"), (108, u "()Lcom/example/exhaust/exhaust/engine/value/Term$Sort;")] 33

def k2c0 : Code := { maxStack := 1, maxLocals := 1, code := prog_79_method_2_code, exceptionTable := #[], attributes := #[] }
def k2m0 : Method := { name := "sort", desc := "()Lcom/example/exhaust/exhaust/engine/value/Term$Sort;", sig := { parameters := [], returnType := some (.object "com/example/exhaust/exhaust/engine/value/Term$Sort") }, accessFlags := 1, code := some k2c0 }
def k2c1 : Code := { maxStack := 1, maxLocals := 1, code := prog_79_method_5_code, exceptionTable := #[], attributes := #[] }
def k2m1 : Method := { name := "truth", desc := "(Z)Lcom/example/exhaust/exhaust/engine/value/Term;", sig := { parameters := [.boolean], returnType := some (.object "com/example/exhaust/exhaust/engine/value/Term") }, accessFlags := 9, code := some k2c1 }
/-- com/example/exhaust/exhaust/engine/value/Term -/
def k2 : Class := { plain "com/example/exhaust/exhaust/engine/value/Term" (some 0) with
  accessFlags := 1057
  interfaces := #[]
  cf := some (fileOf pool2 8 #[.nestMembers #[85, 65, 56, 47, 63, 13, 88, 16]] #[{ accessFlags := 1, nameIndex := 11, descriptorIndex := 306, attributes := #[] }, { accessFlags := 9, nameIndex := 196, descriptorIndex := 197, attributes := #[] }] 1057 2 #[] #[{ accessFlags := 25, nameIndex := 42, descriptorIndex := 43, attributes := #[] }, { accessFlags := 25, nameIndex := 46, descriptorIndex := 43, attributes := #[] }, { accessFlags := 18, nameIndex := 11, descriptorIndex := 12, attributes := #[] }])
  fields := #[{ name := "TRUE", type := (.object "com/example/exhaust/exhaust/engine/value/Term"), accessFlags := 25, slot := 0, constantValue := 0 }, { name := "FALSE", type := (.object "com/example/exhaust/exhaust/engine/value/Term"), accessFlags := 25, slot := 1, constantValue := 0 }, { name := "sort", type := (.object "com/example/exhaust/exhaust/engine/value/Term$Sort"), accessFlags := 18, slot := 0, constantValue := 0 }]
  methods := #[k2m0, k2m1]
  instanceTypes := #[(.object "com/example/exhaust/exhaust/engine/value/Term$Sort")]
  staticTypes := #[(.object "com/example/exhaust/exhaust/engine/value/Term"), (.object "com/example/exhaust/exhaust/engine/value/Term")]
  resolved := Array.replicate 340 none
  statics := some 0 }

def pool3 : Array CpInfo := pool [(8, .class_ 10), (1, u "com/example/exhaust/exhaust/engine/value/Term"), (2, .fieldref 14 15), (0, .class_ 16), (0, .nameAndType 17 18), (0, u "com/example/exhaust/exhaust/engine/value/Term$Truth"), (0, u "value"), (0, u "Z"), (9, u "()Z")] 10

def k3c0 : Code := { maxStack := 1, maxLocals := 1, code := prog_86_method_2_code, exceptionTable := #[], attributes := #[] }
def k3m0 : Method := { name := "value", desc := "()Z", sig := { parameters := [], returnType := some .boolean }, accessFlags := 1, code := some k3c0 }
/-- com/example/exhaust/exhaust/engine/value/Term$Truth -/
def k3 : Class := { plain "com/example/exhaust/exhaust/engine/value/Term$Truth" (some 2) with
  accessFlags := 49
  interfaces := #[]
  cf := some (fileOf pool3 14 #[.nestHost 8] #[{ accessFlags := 1, nameIndex := 17, descriptorIndex := 28, attributes := #[] }] 49 8 #[] #[{ accessFlags := 18, nameIndex := 17, descriptorIndex := 18, attributes := #[] }])
  fields := #[{ name := "value", type := .boolean, accessFlags := 18, slot := 1, constantValue := 0 }]
  methods := #[k3m0]
  instanceTypes := #[(.object "com/example/exhaust/exhaust/engine/value/Term$Sort"), .boolean]
  staticTypes := #[]
  resolved := Array.replicate 39 none
  statics := none }

def pool4 : Array CpInfo := pool [(1, .class_ 2), (0, u "java/lang/constant/Constable"), (0, .class_ 4), (0, u "java/lang/Object")] 6

/-- java/lang/constant/Constable -/
def k4 : Class := { plain "java/lang/constant/Constable" (some 0) with
  accessFlags := 1537
  interfaces := #[]
  cf := some (fileOf pool4 1 #[] #[] 1537 3 #[] #[])
  fields := #[]
  methods := #[]
  instanceTypes := #[]
  staticTypes := #[]
  resolved := Array.replicate 11 none
  statics := none }

def pool5 : Array CpInfo := pool [(1, .class_ 2), (0, u "java/lang/Comparable"), (0, .class_ 4), (0, u "java/lang/Object")] 7

/-- java/lang/Comparable -/
def k5 : Class := { plain "java/lang/Comparable" (some 0) with
  accessFlags := 1537
  interfaces := #[]
  cf := some (fileOf pool5 1 #[] #[] 1537 3 #[] #[])
  fields := #[]
  methods := #[]
  instanceTypes := #[]
  staticTypes := #[]
  resolved := Array.replicate 12 none
  statics := none }

def pool6 : Array CpInfo := pool [(1, .class_ 2), (0, u "java/io/Serializable"), (0, .class_ 4), (0, u "java/lang/Object")] 2

/-- java/io/Serializable -/
def k6 : Class := { plain "java/io/Serializable" (some 0) with
  accessFlags := 1537
  interfaces := #[]
  cf := some (fileOf pool6 1 #[] #[] 1537 3 #[] #[])
  fields := #[]
  methods := #[]
  instanceTypes := #[]
  staticTypes := #[]
  resolved := Array.replicate 7 none
  statics := none }

def pool7 : Array CpInfo := pool [(2, .class_ 4), (1, u "java/lang/Enum"), (0, u "name"), (0, u "Ljava/lang/String;"), (2, u "ordinal"), (0, u "I"), (1, .class_ 14), (1, u "java/lang/Object"), (4, u "hash"), (86, .class_ 108), (1, u "java/lang/Enum$EnumDesc"), (2, .class_ 112), (0, u "java/lang/constant/Constable"), (0, .class_ 114), (0, u "java/lang/Comparable"), (0, .class_ 116), (0, u "java/io/Serializable")] 87

/-- java/lang/Enum -/
def k7 : Class := { plain "java/lang/Enum" (some 0) with
  accessFlags := 1057
  interfaces := #[4, 5, 6]
  cf := some (fileOf pool7 2 #[.nestMembers #[106]] #[] 1057 12 #[111, 113, 115] #[{ accessFlags := 18, nameIndex := 5, descriptorIndex := 6, attributes := #[] }, { accessFlags := 18, nameIndex := 9, descriptorIndex := 10, attributes := #[] }, { accessFlags := 2, nameIndex := 19, descriptorIndex := 10, attributes := #[] }])
  fields := #[{ name := "name", type := (.object "java/lang/String"), accessFlags := 18, slot := 0, constantValue := 0 }, { name := "ordinal", type := .int, accessFlags := 18, slot := 1, constantValue := 0 }, { name := "hash", type := .int, accessFlags := 2, slot := 2, constantValue := 0 }]
  methods := #[]
  instanceTypes := #[(.object "java/lang/String"), .int, .int]
  staticTypes := #[]
  resolved := Array.replicate 204 none
  statics := none }

def pool8 : Array CpInfo := pool [(1, .class_ 2), (0, u "com/example/exhaust/exhaust/engine/value/Term$Sort"), (2, u "INTEGER"), (0, u "Lcom/example/exhaust/exhaust/engine/value/Term$Sort;"), (2, u "REAL"), (2, u "TRUTH"), (2, u "$VALUES"), (0, u "[Lcom/example/exhaust/exhaust/engine/value/Term$Sort;"), (6, .class_ 25), (1, u "java/lang/Enum"), (26, .class_ 53), (0, u "com/example/exhaust/exhaust/engine/value/Term")] 2

/-- com/example/exhaust/exhaust/engine/value/Term$Sort -/
def k8 : Class := { plain "com/example/exhaust/exhaust/engine/value/Term$Sort" (some 7) with
  accessFlags := 16433
  interfaces := #[]
  cf := some (fileOf pool8 1 #[.nestHost 52] #[] 16433 23 #[] #[{ accessFlags := 16409, nameIndex := 5, descriptorIndex := 6, attributes := #[] }, { accessFlags := 16409, nameIndex := 9, descriptorIndex := 6, attributes := #[] }, { accessFlags := 16409, nameIndex := 12, descriptorIndex := 6, attributes := #[] }, { accessFlags := 4122, nameIndex := 15, descriptorIndex := 16, attributes := #[] }])
  fields := #[{ name := "INTEGER", type := (.object "com/example/exhaust/exhaust/engine/value/Term$Sort"), accessFlags := 16409, slot := 0, constantValue := 0 }, { name := "REAL", type := (.object "com/example/exhaust/exhaust/engine/value/Term$Sort"), accessFlags := 16409, slot := 1, constantValue := 0 }, { name := "TRUTH", type := (.object "com/example/exhaust/exhaust/engine/value/Term$Sort"), accessFlags := 16409, slot := 2, constantValue := 0 }, { name := "$VALUES", type := (.array (.object "com/example/exhaust/exhaust/engine/value/Term$Sort")), accessFlags := 4122, slot := 3, constantValue := 0 }]
  methods := #[]
  instanceTypes := #[(.object "java/lang/String"), .int, .int]
  staticTypes := #[(.object "com/example/exhaust/exhaust/engine/value/Term$Sort"), (.object "com/example/exhaust/exhaust/engine/value/Term$Sort"), (.object "com/example/exhaust/exhaust/engine/value/Term$Sort"), (.array (.object "com/example/exhaust/exhaust/engine/value/Term$Sort"))]
  resolved := Array.replicate 56 none
  statics := some 1 }

def pool9 : Array CpInfo := pool [(1, u "java/lang/Cloneable"), (0, .class_ 1), (0, u "java/lang/Object"), (0, .class_ 3)] 3

/-- java/lang/Cloneable -/
def k9 : Class := { plain "java/lang/Cloneable" (some 0) with
  accessFlags := 1537
  interfaces := #[]
  cf := some (fileOf pool9 2 #[] #[] 1537 4 #[] #[])
  fields := #[]
  methods := #[]
  instanceTypes := #[]
  staticTypes := #[]
  resolved := Array.replicate 8 none
  statics := none }

/-- the primitive byte -/
def k10 : Class := { plain "byte" none with kind := .primitive 'B', accessFlags := 0x411 }
/-- [B -/
def k11 : Class := { plain "[B" (some 0) with kind := .array 10 .byte, interfaces := #[9, 6], accessFlags := 1041 }

def heap : Heap := #[{ cls := 2, slots := #[.ref 2, .ref 3], vm := .statics 2 },
  { cls := 8, slots := #[.null, .null, .ref 4, .null], vm := .statics 8 },
  { cls := 3, slots := #[.ref 4, .int 1], vm := .none },
  { cls := 3, slots := #[.ref 4, .int 0], vm := .none },
  { cls := 8, slots := #[.null, .int 0, .int 0], vm := .none }]
def classes : Array Class := #[k0, k1, k2, k3, k4, k5, k6, k7, k8, k9, k10, k11]
def interned : List (Array UInt16 × Addr) := []
def slotsUsed : Nat := 13
def theMethod : MethodId := ⟨1, 1⟩
def args0 : Array Value := #[.int 5]
def aboutOver (below : List Frame) : State where
  vm := { classes := classes, interned := interned.toArray }
  heap := heap
  slotsUsed := slotsUsed
  threads := #[{ frames := .invoking theMethod args0 :: below }]
def below0 : List Frame := [.native { method := ⟨0, 0⟩, args := #[] }]
def about1 : State := aboutOver below0
def p0 : Program := .bare "" "" ""
def e0 : Env := launch0.env 0 0 0
theorem w_frames : about1.frames = Frame.invoking theMethod args0 :: below0 := rfl
set_option maxRecDepth 65536 in
theorem w_args : argsFit about1.vm theMethod args0 = true := by decide +kernel
set_option maxRecDepth 65536 in
theorem w_heap : heapFits about1 = true := by decide +kernel
set_option maxRecDepth 65536 in
theorem w_runnable : about1.curStatus? = some .runnable := by decide +kernel
set_option maxRecDepth 65536 in
theorem w_alone : about1.alone = true := by decide +kernel
set_option maxRecDepth 65536 in
theorem w_named : about1.methodNamed? x = some theMethod := by decide +kernel
set_option maxRecDepth 65536 in
theorem w_hears : about1.hears theMethod below0 = true := by decide +kernel
set_option maxRecDepth 65536 in
theorem w_ripe : about1.ripe theMethod args0 below0 = true := by decide +kernel
theorem w_running : about1.status = .running := rfl
set_option maxRecDepth 65536 in
theorem w_room : about1.hasRoom e0.platform room_1 = true :=
  launch0.hasRoom_least _ room_1 (by decide +kernel) (by decide +kernel) (by decide +kernel) (by decide +kernel) (by decide +kernel) (by decide +kernel)
theorem allAtoms_all (ts : List Jvm.Cond) (a : Array Jvm.Value) (st : Jvm.State) : (allAtoms ts).before a st = ts.all (fun c => c.before a st) := by
  induction ts with
  | nil => rfl
  | cons c t ih =>
    show (Jvm.Cond.and c (allAtoms t)).before a st = _
    rw [Jvm.Cond.before_and, ih, List.all_cons]
def words1 : List Jvm.Cond := Jvm.Cond.code x code maxLocals ret :: tables_1
/-- a 'code' word, met by the world's own term for the bytes: nothing is compared byte by byte -/
theorem code_word {y : MethodName} {bytes : ByteArray} {mx : Nat} {rt : Option FieldType} {a : Array Value} {s : State} {m : MethodId} {meth : Method} {c : Code} (h1 : s.methodNamed? y = some m) (h2 : s.vm.method? m = some meth) (h3 : meth.code = some c) (h4 : c.code = bytes)
    (h5 : (c.maxLocals == mx && c.exceptionTable.isEmpty && decide (c.maxStack ≤ mostOperands) && decide (meth.sig.returnType = rt) && !meth.locks && decide (parseMethodDescriptor y.desc = some meth.sig)) = true) : (Jvm.Cond.code y bytes mx rt).before a s = true := by
  simp only [Bool.and_eq_true, beq_iff_eq, Bool.not_eq_true', decide_eq_true_eq] at h5
  obtain ⟨⟨⟨⟨⟨g1, g2⟩, g3⟩, g4⟩, g5⟩, g6⟩ := h5
  simp [Cond.before, Cond.holds, Cond.value, h1, h2, h3, h4, g1, g2, g3, g4, g5, g6]
def isCode : Jvm.Cond → Bool
  | .code _ _ _ _ => true
  | _ => false
theorem all_split {L : List Jvm.Cond} {P : Jvm.Cond → Bool} (h1 : L.all (fun c => isCode c || P c) = true) (h2 : ∀ c ∈ L.filter isCode, P c = true) : L.all P = true := by
  refine List.all_eq_true.mpr fun c hc => ?_
  have h := List.all_eq_true.mp h1 c hc
  rcases Bool.eq_false_or_eq_true (isCode c) with hi | hi
  · exact h2 c (List.mem_filter.mpr ⟨hc, hi⟩)
  · simpa [hi] using h
set_option maxRecDepth 65536 in
theorem w_c0 : (Jvm.Cond.code x code maxLocals ret).before args0 about1 = true := code_word (m := ⟨1, 1⟩) (meth := k1m1) (c := k1c1) (by decide +kernel) rfl rfl rfl (by decide +kernel)
set_option maxRecDepth 65536 in
theorem w_c1 : (Jvm.Cond.code ({ cls := "com/example/exhaust/exhaust/engine/value/Term", name := "truth", desc := "(Z)Lcom/example/exhaust/exhaust/engine/value/Term;" } : Jvm.MethodName) prog_79_method_5_code (1 : Nat) (Option.some (Jvm.ClassFile.FieldType.object "com/example/exhaust/exhaust/engine/value/Term"))).before args0 about1 = true := code_word (m := ⟨2, 1⟩) (meth := k2m1) (c := k2c1) (by decide +kernel) rfl rfl rfl (by decide +kernel)
set_option maxRecDepth 65536 in
theorem w_c2 : (Jvm.Cond.code ({ cls := "com/example/exhaust/exhaust/engine/value/Term$Truth", name := "value", desc := "()Z" } : Jvm.MethodName) prog_86_method_2_code (1 : Nat) (Option.some Jvm.ClassFile.FieldType.boolean)).before args0 about1 = true := code_word (m := ⟨3, 0⟩) (meth := k3m0) (c := k3c0) (by decide +kernel) rfl rfl rfl (by decide +kernel)
set_option maxRecDepth 65536 in
theorem w_c3 : (Jvm.Cond.code ({ cls := "com/example/exhaust/exhaust/engine/value/Term", name := "sort", desc := "()Lcom/example/exhaust/exhaust/engine/value/Term$Sort;" } : Jvm.MethodName) prog_79_method_2_code (1 : Nat) (Option.some (Jvm.ClassFile.FieldType.object "com/example/exhaust/exhaust/engine/value/Term$Sort"))).before args0 about1 = true := code_word (m := ⟨2, 0⟩) (meth := k2m0) (c := k2c0) (by decide +kernel) rfl rfl rfl (by decide +kernel)
def codes1 : List Jvm.Cond := [Jvm.Cond.code x code maxLocals ret, Jvm.Cond.code ({ cls := "com/example/exhaust/exhaust/engine/value/Term", name := "truth", desc := "(Z)Lcom/example/exhaust/exhaust/engine/value/Term;" } : Jvm.MethodName) prog_79_method_5_code (1 : Nat) (Option.some (Jvm.ClassFile.FieldType.object "com/example/exhaust/exhaust/engine/value/Term")), Jvm.Cond.code ({ cls := "com/example/exhaust/exhaust/engine/value/Term$Truth", name := "value", desc := "()Z" } : Jvm.MethodName) prog_86_method_2_code (1 : Nat) (Option.some Jvm.ClassFile.FieldType.boolean), Jvm.Cond.code ({ cls := "com/example/exhaust/exhaust/engine/value/Term", name := "sort", desc := "()Lcom/example/exhaust/exhaust/engine/value/Term$Sort;" } : Jvm.MethodName) prog_79_method_2_code (1 : Nat) (Option.some (Jvm.ClassFile.FieldType.object "com/example/exhaust/exhaust/engine/value/Term$Sort"))]
set_option maxRecDepth 65536 in
theorem codes_eq : words1.filter isCode = codes1 := rfl
theorem w_codes : ∀ c ∈ words1.filter isCode, c.before args0 about1 = true := by
  rw [codes_eq]
  intro c hc
  simp only [codes1, List.mem_cons, List.not_mem_nil, or_false] at hc
  rcases hc with rfl | rfl | rfl | rfl
  · exact w_c0
  · exact w_c1
  · exact w_c2
  · exact w_c3
set_option maxRecDepth 65536 in
theorem w_t1 : (words1.take 24).all (fun c => isCode c || c.before args0 about1) = true := by decide +kernel
set_option maxRecDepth 65536 in
theorem w_t2 : (words1.drop 24).all (fun c => isCode c || c.before args0 about1) = true := by decide +kernel
theorem w_tables : (allAtoms (Jvm.Cond.code x code maxLocals ret :: tables_1)).before args0 about1 = true := by
  rw [allAtoms_all]
  show words1.all (fun c => c.before args0 about1) = true
  refine all_split ?_ w_codes
  rw [← List.take_append_drop 24 words1, List.all_append, w_t1, w_t2]
  rfl
set_option maxRecDepth 65536 in
theorem w_case : (Jvm.Cond.and given_1 narrow_1).before args0 about1 = true := by decide +kernel
theorem w_applies : (headSpec (Jvm.Cond.code x code maxLocals ret :: tables_1) room_1).applies x e0.platform about1 = true :=
  (Spec.applies_iff w_frames).mpr ⟨w_running, w_runnable, w_alone, w_named, w_hears, w_ripe, w_room, w_tables⟩
theorem atStart : AtStart classFile x code maxLocals ret World_1 tables_1 room_1 Calls_1 rest_1 Pre_1 launch0 p0 e0 about1 theMethod args0 below0 :=
  ⟨lists_1, trivial, launch0.admits_env _ _ _, launch0.least_env, fairChoices_fair.cas, fairChoices_fair.clock, w_frames, w_args, w_heap, w_applies, trivial, trivial, w_case⟩
end start1
theorem witness_1 : WitnessClaimed_1 := ⟨start1.p0, start1.e0, start1.about1, start1.theMethod, start1.args0, start1.below0, start1.atStart⟩
end Jvm.Pilot.@@N@@
