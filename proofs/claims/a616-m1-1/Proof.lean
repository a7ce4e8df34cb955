import JvmDerived
import JvmDerived.Pilot.@@N@@Statement
import JvmDerived.Pilot.@@N@@Code
set_option linter.unusedVariables false
set_option linter.unusedSimpArgs false
namespace Jvm.Pilot.@@N@@
open Jvm Jvm.ClassFile Sem Op Lib Jvm.Free Jvm.Stand Jvm.LawKit Jvm.RoadKit Bundle Jvm.Pilot.@@N@@.Jvm.D
section Own
variable {p : Program} {l : Launch} {e : Env} {R : Room} {s : State} {m : MethodId} {args : Array Value} {below : List Frame} {meth : Method} {c : Code} {T T' : State} {locs : List Loc} {cells slots : Nat} {Φ : State → Outcome → Prop} {g g' : JFrame}
/-- from (T, g) the run comes to an end that Φ takes -/
def Go (p : Program) (e : Env) (below : List Frame) (Φ : State → Outcome → Prop) (T : State) (g : JFrame) : Prop := ∃ t o, Steps p.tables e below (T.setTop g) t ∧ Φ t o
theorem Go.of (h : ∀ t, Steps p.tables e below (T'.setTop g') t → Steps p.tables e below (T.setTop g) t) (k : Go p e below Φ T' g') : Go p e below Φ T g := by
  obtain ⟨t, o, h1, h2⟩ := k
  exact ⟨t, o, h t h1, h2⟩
theorem Go.tr (h : Steps p.tables e below (T.setTop g) (T'.setTop g')) (k : Go p e below Φ T' g') : Go p e below Φ T g := by
  obtain ⟨t, o, h1, h2⟩ := k
  exact ⟨t, o, h.trans h1, h2⟩
/-- what a body owes at its end -/
def EndQ (s : State) (below : List Frame) (Q : Option Value → Heap → List Loc → Prop) (C S : Nat) (t : State) (o : Outcome) : Prop := t.status = .running ∧ Ended t below o ∧ ∃ v L, o = .returned v ∧ Q v t.heap L ∧ FrameEnd s o t L C S
theorem Go.ret (X : Stand p l e R s m args below meth c T locs cells slots) (hx : p.tables.exec = Jvm.exec) (hlocks : meth.locks = false) {pc : Nat} {Ls : Array Slot} {w : Value} {t : FieldType} {i : Instr} {rest : List Value} (hret : meth.sig.returnType = some t) (hn : narrow t w = w)
    (hi : (i = .ireturn ∧ (t = .int ∨ t = .boolean ∨ t = .byte ∨ t = .char ∨ t = .short) ∧ ∃ z, w = .int z) ∨ (i = .lreturn ∧ t = .long ∧ ∃ z, w = .long z) ∨ (i = .dreturn ∧ t = .double ∧ ∃ z, w = .double z) ∨ (i = .freturn ∧ t = .float ∧ ∃ z, w = .float z) ∨ (i = .areturn ∧ t.isReference = true ∧ w.isRef = true))
    (hd : decode c.code pc = .ok (i, 1)) {Q : Option Value → Heap → List Loc → Prop} {C S : Nat} (hC : cells ≤ C) (hS : slots ≤ S) (hQ : Q (some w) T.heap locs) : Go p e below (EndQ s below Q C S) T (mkF m pc Ls (w :: rest)) := by
  obtain ⟨fs, hr, hrun, hended, hW, hsame⟩ := X.leave (v := some w) (fun h => by rw [hret] at h; cases h) hlocks
  exact ⟨_, _, retOut X hx hret hn hi hd hr, hrun, hended, _, _, rfl, hQ, ⟨_, rfl⟩, hW, hsame.mono hC hS⟩
theorem Go.retV (X : Stand p l e R s m args below meth c T locs cells slots) (hx : p.tables.exec = Jvm.exec) (hlocks : meth.locks = false) {pc : Nat} {Ls : Array Slot} (hret : meth.sig.returnType = none)
    (hd : decode c.code pc = .ok (.return_, 1)) {Q : Option Value → Heap → List Loc → Prop} {C S : Nat} (hC : cells ≤ C) (hS : slots ≤ S) (hQ : Q none T.heap locs) : Go p e below (EndQ s below Q C S) T (mkF m pc Ls []) := by
  obtain ⟨fs, hr, hrun, hended, hW, hsame⟩ := X.leave (v := none) (fun _ => rfl) hlocks
  exact ⟨_, _, X.returnOut hx hret hd hr, hrun, hended, _, _, rfl, hQ, ⟨_, rfl⟩, hW, hsame.mono hC hS⟩
def own_ushr (x y : Int32) : Int32 := (x.toUInt32 >>> (y &&& 31).toUInt32).toInt32
def own_ushrL (x : Int64) (y : Int32) : Int64 := (x.toUInt64 >>> (y &&& 0x3f).toInt64.toUInt64).toInt64
theorem own_one {v : Int32} (h : v = 1) : narrow .boolean (.int v) = .int v := by rw [h]; rfl
theorem own_nar_ref {t : FieldType} {v : Value} (h : v.isRef = true) (ht : t.isReference = true := by rfl) : narrow t v = v := by cases v <;> simp [Value.isRef] at h <;> cases t <;> first | rfl | cases ht
theorem own_fits_ref {t : FieldType} {v : Value} (h : v.isRef = true) (ht : t.isReference = true := by rfl) : fits t v = true := by cases v <;> simp [Value.isRef] at h <;> cases t <;> first | rfl | cases ht
end Own
theorem own_d1_0 : decode prog_9_method_1_code 0 = .ok (.aload_n 0, 1) := by decide +kernel
theorem own_d1_1 : decode prog_9_method_1_code 1 = .ok (.invokespecial 1, 3) := by decide +kernel
theorem own_d1_4 : decode prog_9_method_1_code 4 = .ok (.aload_n 0, 1) := by decide +kernel
theorem own_d1_5 : decode prog_9_method_1_code 5 = .ok (.lload_n 1, 1) := by decide +kernel
theorem own_d1_6 : decode prog_9_method_1_code 6 = .ok (.putfield 7, 3) := by decide +kernel
theorem own_d1_9 : decode prog_9_method_1_code 9 = .ok (.return_, 1) := by decide +kernel
theorem own_d3_0 : decode prog_9_method_3_code 0 = .ok (.aload_n 0, 1) := by decide +kernel
theorem own_d3_1 : decode prog_9_method_3_code 1 = .ok (.dup, 1) := by decide +kernel
theorem own_d3_2 : decode prog_9_method_3_code 2 = .ok (.getfield 7, 3) := by decide +kernel
theorem own_d3_5 : decode prog_9_method_3_code 5 = .ok (.ldc2_w 16, 3) := by decide +kernel
theorem own_d3_8 : decode prog_9_method_3_code 8 = .ok (.ladd, 1) := by decide +kernel
theorem own_d3_9 : decode prog_9_method_3_code 9 = .ok (.putfield 7, 3) := by decide +kernel
theorem own_d3_12 : decode prog_9_method_3_code 12 = .ok (.aload_n 0, 1) := by decide +kernel
theorem own_d3_13 : decode prog_9_method_3_code 13 = .ok (.getfield 7, 3) := by decide +kernel
theorem own_d3_16 : decode prog_9_method_3_code 16 = .ok (.lstore_n 1, 1) := by decide +kernel
theorem own_d3_17 : decode prog_9_method_3_code 17 = .ok (.lload_n 1, 1) := by decide +kernel
theorem own_d3_18 : decode prog_9_method_3_code 18 = .ok (.lload_n 1, 1) := by decide +kernel
theorem own_d3_19 : decode prog_9_method_3_code 19 = .ok (.bipush 30, 2) := by decide +kernel
theorem own_d3_21 : decode prog_9_method_3_code 21 = .ok (.lushr, 1) := by decide +kernel
theorem own_d3_22 : decode prog_9_method_3_code 22 = .ok (.lxor, 1) := by decide +kernel
theorem own_d3_23 : decode prog_9_method_3_code 23 = .ok (.ldc2_w 18, 3) := by decide +kernel
theorem own_d3_26 : decode prog_9_method_3_code 26 = .ok (.lmul, 1) := by decide +kernel
theorem own_d3_27 : decode prog_9_method_3_code 27 = .ok (.lstore_n 1, 1) := by decide +kernel
theorem own_d3_28 : decode prog_9_method_3_code 28 = .ok (.lload_n 1, 1) := by decide +kernel
theorem own_d3_29 : decode prog_9_method_3_code 29 = .ok (.lload_n 1, 1) := by decide +kernel
theorem own_d3_30 : decode prog_9_method_3_code 30 = .ok (.bipush 27, 2) := by decide +kernel
theorem own_d3_32 : decode prog_9_method_3_code 32 = .ok (.lushr, 1) := by decide +kernel
theorem own_d3_33 : decode prog_9_method_3_code 33 = .ok (.lxor, 1) := by decide +kernel
theorem own_d3_34 : decode prog_9_method_3_code 34 = .ok (.ldc2_w 20, 3) := by decide +kernel
theorem own_d3_37 : decode prog_9_method_3_code 37 = .ok (.lmul, 1) := by decide +kernel
theorem own_d3_38 : decode prog_9_method_3_code 38 = .ok (.lstore_n 1, 1) := by decide +kernel
theorem own_d3_39 : decode prog_9_method_3_code 39 = .ok (.lload_n 1, 1) := by decide +kernel
theorem own_d3_40 : decode prog_9_method_3_code 40 = .ok (.lload_n 1, 1) := by decide +kernel
theorem own_d3_41 : decode prog_9_method_3_code 41 = .ok (.bipush 31, 2) := by decide +kernel
theorem own_d3_43 : decode prog_9_method_3_code 43 = .ok (.lushr, 1) := by decide +kernel
theorem own_d3_44 : decode prog_9_method_3_code 44 = .ok (.lxor, 1) := by decide +kernel
theorem own_d3_45 : decode prog_9_method_3_code 45 = .ok (.lreturn, 1) := by decide +kernel
theorem own_pn0 : plainName "com/example/signalbox/signalbox/game/SeededRandom" = true := by first | (simp [plainName, overriddenIn]; done) | decide +kernel
theorem own_pn1 : plainName "com/example/signalbox/signalbox/game/SeededRandomNextLongPinLaw" = true := by first | (simp [plainName, overriddenIn]; done) | decide +kernel
theorem own_pd0 : parseMethodDescriptor "(J)V" = some ⟨[.long], none⟩ := by decide +kernel
theorem own_pd1 : parseMethodDescriptor "()J" = some ⟨[], some .long⟩ := by decide +kernel
theorem own_ef1 (m : MethodId) (a : Addr) (x : Int64) : entryFrame m #[(.ref a), (.long x)] 3 = mkF m 0 #[.val (.ref a), .val (.long x), .second] [] := by first | (simp [entryFrame, mkF, argsToLocals, Value.category]; done) | rfl
def Q1 (Z : State) (a : Addr) (x : Int64) (w : Int64) (h0 : Heap) (n0 : Nat) (vr : Option Value) (hr : Heap) (Lr : List Loc) : Prop := vr = none ∧ Fr n0 Lr ∧ Keep h0 hr [a] ∧ Exa Z hr a "com/example/signalbox/signalbox/game/SeededRandom" ∧ Fld Z hr a "com/example/signalbox/signalbox/game/SeededRandom" "state" "J" (.long x)
set_option maxRecDepth 65536 in
set_option maxHeartbeats 40000000 in
theorem rm1 (l : Launch) (Z : State) (a0 : Array Value) (hw : ∀ d ∈ tables_1, d.before a0 Z = true) (ws : List Jvm.Cond) (a : Addr) (x : Int64) (w : Int64) (h0 : Heap) (n0 : Nat) (Z0 : n0 ≤ h0.size) (F_a_state : Fld Z h0 a "com/example/signalbox/signalbox/game/SeededRandom" "state" "J" (.long w)) (E_a : Exa Z h0 a "com/example/signalbox/signalbox/game/SeededRandom") (g_a : n0 ≤ a) :
    MetFree l (⟨"com/example/signalbox/signalbox/game/SeededRandom", "<init>", "(J)V"⟩ : MethodName) (head1 (Jvm.Cond.code (⟨"com/example/signalbox/signalbox/game/SeededRandom", "<init>", "(J)V"⟩ : MethodName) prog_9_method_1_code 3 none :: ws) ({ frames := 1, cells := 0, slots := 0, locals := 12 } : Room)) (fun aQ UQ => aQ = #[(.ref a), (.long x)] ∧ Z.Warmed39 UQ.vm ∧ UQ.heap = h0) (fun _ _ _ _ _ => True) (fun _ UQ oQ VQ => ∃ vQ LQ, oQ = .returned vQ ∧ Q1 Z a x w h0 n0 vQ VQ.heap LQ ∧ FrameEnd UQ oQ VQ LQ ({ frames := 1, cells := 0, slots := 0, locals := 12 } : Room).cells ({ frames := 1, cells := 0, slots := 0, locals := 12 } : Room).slots) := by
  refine MetFree.of_bodySF (plainFor_of_name own_pn0) hisR ?_
  intro p e s m args below meth c s₁ Bd hml0 hP hK
  obtain ⟨rfl, hZ, hh⟩ := hP
  have hx := Bd.exec
  have hby := Bd.bytes
  have hml : c.maxLocals = 3 := hml0
  have hown : s.vm.findClass "com/example/signalbox/signalbox/game/SeededRandom" = some m.cls := findClass_of_methodNamed Bd.named
  have hnm := (name_of_methodNamed Bd.named Bd.method).1
  have X0 : Stand p l e ({ frames := 1, cells := 0, slots := 0, locals := 12 } : Room) s m #[(.ref a), (.long x)] below meth c s₁ [] 0 0 := Stand.of_body Bd
  have e0 : s₁.heap = h0 := by rw [← hh, Bd.state]; rfl
  have N0 := Fr.nil n0
  show Go p e below (EndQ s below (Q1 Z a x w h0 n0) ({ frames := 1, cells := 0, slots := 0, locals := 12 } : Room).cells ({ frames := 1, cells := 0, slots := 0, locals := 12 } : Room).slots) s₁ (entryFrame m #[(.ref a), (.long x)] 3)
  obtain ⟨Φ, hΦ⟩ : ∃ Φ, Φ = EndQ s below (Q1 Z a x w h0 n0) ({ frames := 1, cells := 0, slots := 0, locals := 12 } : Room).cells ({ frames := 1, cells := 0, slots := 0, locals := 12 } : Room).slots := ⟨_, rfl⟩
  rw [← hΦ, own_ef1]
  show Go p e below Φ s₁ (mkF m 0 #[.val (.ref a), .val (.long x), .second] [])
  refine Go.of (fun t k => XS.aloadN X0.here hx rfl (hb hby own_d1_0) rfl rfl  k) ?_
  show Go p e below Φ s₁ (mkF m 1 #[.val (.ref a), .val (.long x), .second] [(.ref a)])
  obtain ⟨T1, X1, e1, st1⟩ := initO X0 hx hZ hown (hw _ (List.mem_of_getElem? (i := 6) rfl)) (hw _ (List.mem_of_getElem? (i := 7) rfl)) (hw _ (List.mem_of_getElem? (i := 8) rfl)) e0 (g := (mkF m 1 #[.val (.ref a), .val (.long x), .second] [(.ref a)])) rfl (by rw [hml]; rfl) rfl (hb hby own_d1_1) (by decide) (W := 0) (by show 2 * 0 + _ ≤ _; exact Nat.le_of_eq rfl) (by decide)
  refine Go.of st1 ?_
  show Go p e below Φ T1 (mkF m 4 #[.val (.ref a), .val (.long x), .second] [])
  refine Go.of (fun t k => XS.aloadN X1.here hx rfl (hb hby own_d1_4) rfl rfl  k) ?_
  show Go p e below Φ T1 (mkF m 5 #[.val (.ref a), .val (.long x), .second] [(.ref a)])
  refine Go.of (fun t k => XS.lloadN X1.here hx rfl (hb hby own_d1_5) rfl  k) ?_
  show Go p e below Φ T1 (mkF m 6 #[.val (.ref a), .val (.long x), .second] [(.long x), (.ref a)])
  obtain ⟨T2, h2, X2, e2, W2, st2⟩ := putF X1 hx hZ hown (host := "") (Or.inl (hw _ (List.mem_of_getElem? (i := 9) rfl))) Via.refl e1 F_a_state E_a (Or.inl (hw _ (List.mem_of_getElem? (i := 10) rfl))) (hw _ (List.mem_of_getElem? (i := 1) rfl)) (ty := .long) (by decide) rfl rfl (g := (mkF m 6 #[.val (.ref a), .val (.long x), .second] [(.long x), (.ref a)])) rfl rfl (hb hby own_d1_6)
  have N2 := Fr.snoc X2 N0 g_a
  have F_a_state := F_a_state.same W2
  have E_a := E_a.wr W2
  have K2 : Keep h0 h2 [a] := (Keep.refl h0 [a]).wr W2 (Or.inl (List.mem_of_getElem? (i := 0) rfl))
  have Z2 := Nat.le_trans Z0 (Keep.of_wr W2).1
  obtain ⟨lc2, X2, N2⟩ : ∃ lc, Stand p l e ({ frames := 1, cells := 0, slots := 0, locals := 12 } : Room) s m #[(.ref a), (.long x)] below meth c T2 lc 0 0 ∧ Fr n0 lc := ⟨_, X2, N2⟩
  refine Go.of st2 ?_
  show Go p e below Φ T2 (mkF m 9 #[.val (.ref a), .val (.long x), .second] [])
  rw [hΦ]
  refine Go.retV X2 hx Bd.notSynchronized Bd.returns (hb hby own_d1_9) (by decide) (by decide) ?_
  rw [e2]
  exact ⟨rfl, N2, K2, E_a, F_a_state⟩
def own_mix (w : Int64) : Int64 := ((((((w + (-7046029254386353131 : Int64)) ^^^ (own_ushrL (w + (-7046029254386353131 : Int64)) (30 : Int32))) * (-4658895280553007687 : Int64)) ^^^ (own_ushrL (((w + (-7046029254386353131 : Int64)) ^^^ (own_ushrL (w + (-7046029254386353131 : Int64)) (30 : Int32))) * (-4658895280553007687 : Int64)) (27 : Int32))) * (-7723592293110705685 : Int64)) ^^^ (own_ushrL (((((w + (-7046029254386353131 : Int64)) ^^^ (own_ushrL (w + (-7046029254386353131 : Int64)) (30 : Int32))) * (-4658895280553007687 : Int64)) ^^^ (own_ushrL (((w + (-7046029254386353131 : Int64)) ^^^ (own_ushrL (w + (-7046029254386353131 : Int64)) (30 : Int32))) * (-4658895280553007687 : Int64)) (27 : Int32))) * (-7723592293110705685 : Int64)) (31 : Int32)))
theorem own_ef3 (m : MethodId) (a : Addr) : entryFrame m #[(.ref a)] 3 = mkF m 0 #[.val (.ref a), .unset, .unset] [] := by first | (simp [entryFrame, mkF, argsToLocals, Value.category]; done) | rfl
def Q3 (Z : State) (a : Addr) (w : Int64) (h0 : Heap) (n0 : Nat) (vr : Option Value) (hr : Heap) (Lr : List Loc) : Prop := vr = some (.long (own_mix w)) ∧ Fr n0 Lr ∧ Keep h0 hr [a] ∧ Exa Z hr a "com/example/signalbox/signalbox/game/SeededRandom" ∧ Fld Z hr a "com/example/signalbox/signalbox/game/SeededRandom" "state" "J" (.long (w + (-7046029254386353131 : Int64)))
set_option maxRecDepth 65536 in
set_option maxHeartbeats 40000000 in
theorem rm3 (l : Launch) (Z : State) (a0 : Array Value) (hw : ∀ d ∈ tables_1, d.before a0 Z = true) (ws : List Jvm.Cond) (a : Addr) (w : Int64) (h0 : Heap) (n0 : Nat) (Z0 : n0 ≤ h0.size) (F_a_state : Fld Z h0 a "com/example/signalbox/signalbox/game/SeededRandom" "state" "J" (.long w)) (E_a : Exa Z h0 a "com/example/signalbox/signalbox/game/SeededRandom") (g_a : n0 ≤ a) :
    MetFree l (⟨"com/example/signalbox/signalbox/game/SeededRandom", "nextLong", "()J"⟩ : MethodName) (head1 (Jvm.Cond.code (⟨"com/example/signalbox/signalbox/game/SeededRandom", "nextLong", "()J"⟩ : MethodName) prog_9_method_3_code 3 (some .long) :: ws) ({ frames := 0, cells := 0, slots := 0, locals := 0 } : Room)) (fun aQ UQ => aQ = #[(.ref a)] ∧ Z.Warmed39 UQ.vm ∧ UQ.heap = h0) (fun _ _ _ _ _ => True) (fun _ UQ oQ VQ => ∃ vQ LQ, oQ = .returned vQ ∧ Q3 Z a w h0 n0 vQ VQ.heap LQ ∧ FrameEnd UQ oQ VQ LQ ({ frames := 0, cells := 0, slots := 0, locals := 0 } : Room).cells ({ frames := 0, cells := 0, slots := 0, locals := 0 } : Room).slots) := by
  refine MetFree.of_bodySF (plainFor_of_name own_pn0) hisR ?_
  intro p e s m args below meth c s₁ Bd hml0 hP hK
  obtain ⟨rfl, hZ, hh⟩ := hP
  have hx := Bd.exec
  have hby := Bd.bytes
  have hml : c.maxLocals = 3 := hml0
  have hown : s.vm.findClass "com/example/signalbox/signalbox/game/SeededRandom" = some m.cls := findClass_of_methodNamed Bd.named
  have hnm := (name_of_methodNamed Bd.named Bd.method).1
  have X0 : Stand p l e ({ frames := 0, cells := 0, slots := 0, locals := 0 } : Room) s m #[(.ref a)] below meth c s₁ [] 0 0 := Stand.of_body Bd
  have e0 : s₁.heap = h0 := by rw [← hh, Bd.state]; rfl
  have N0 := Fr.nil n0
  show Go p e below (EndQ s below (Q3 Z a w h0 n0) ({ frames := 0, cells := 0, slots := 0, locals := 0 } : Room).cells ({ frames := 0, cells := 0, slots := 0, locals := 0 } : Room).slots) s₁ (entryFrame m #[(.ref a)] 3)
  obtain ⟨Φ, hΦ⟩ : ∃ Φ, Φ = EndQ s below (Q3 Z a w h0 n0) ({ frames := 0, cells := 0, slots := 0, locals := 0 } : Room).cells ({ frames := 0, cells := 0, slots := 0, locals := 0 } : Room).slots := ⟨_, rfl⟩
  rw [← hΦ, own_ef3]
  show Go p e below Φ s₁ (mkF m 0 #[.val (.ref a), .unset, .unset] [])
  refine Go.of (fun t k => XS.aloadN X0.here hx rfl (hb hby own_d3_0) rfl rfl  k) ?_
  show Go p e below Φ s₁ (mkF m 1 #[.val (.ref a), .unset, .unset] [(.ref a)])
  refine Go.of (fun t k => XS.dup X0.here hx rfl (hb hby own_d3_1) rfl rfl k) ?_
  show Go p e below Φ s₁ (mkF m 2 #[.val (.ref a), .unset, .unset] [(.ref a), (.ref a)])
  obtain ⟨T1, X1, e1, st1⟩ := getF X0 hx hZ hown (host := "") (Or.inl (hw _ (List.mem_of_getElem? (i := 9) rfl))) Via.refl e0 F_a_state (g := (mkF m 2 #[.val (.ref a), .unset, .unset] [(.ref a), (.ref a)])) rfl rfl (hb hby own_d3_2)
  refine Go.of st1 ?_
  show Go p e below Φ T1 (mkF m 5 #[.val (.ref a), .unset, .unset] [(.long w), (.ref a)])
  refine Go.of (fun t k => X1.ldc2Long hx hown (mvT hZ (hw _ (List.mem_of_getElem? (i := 17) rfl))) (g := (mkF m 5 #[.val (.ref a), .unset, .unset] [(.long w), (.ref a)])) rfl (hb hby own_d3_5) t k) ?_
  show Go p e below Φ T1 (mkF m 8 #[.val (.ref a), .unset, .unset] [(.long (-7046029254386353131 : Int64)), (.long w), (.ref a)])
  refine Go.of (fun t k => XS.ladd X1.here hx rfl (hb hby own_d3_8) rfl k) ?_
  show Go p e below Φ T1 (mkF m 9 #[.val (.ref a), .unset, .unset] [(.long (w + (-7046029254386353131 : Int64))), (.ref a)])
  obtain ⟨T2, h2, X2, e2, W2, st2⟩ := putF X1 hx hZ hown (host := "") (Or.inl (hw _ (List.mem_of_getElem? (i := 9) rfl))) Via.refl e1 F_a_state E_a (Or.inl (hw _ (List.mem_of_getElem? (i := 10) rfl))) (hw _ (List.mem_of_getElem? (i := 1) rfl)) (ty := .long) (by decide) rfl rfl (g := (mkF m 9 #[.val (.ref a), .unset, .unset] [(.long (w + (-7046029254386353131 : Int64))), (.ref a)])) rfl rfl (hb hby own_d3_9)
  have N2 := Fr.snoc X2 N0 g_a
  have F_a_state := F_a_state.same W2
  have E_a := E_a.wr W2
  have K2 : Keep h0 h2 [a] := (Keep.refl h0 [a]).wr W2 (Or.inl (List.mem_of_getElem? (i := 0) rfl))
  have Z2 := Nat.le_trans Z0 (Keep.of_wr W2).1
  obtain ⟨lc2, X2, N2⟩ : ∃ lc, Stand p l e ({ frames := 0, cells := 0, slots := 0, locals := 0 } : Room) s m #[(.ref a)] below meth c T2 lc 0 0 ∧ Fr n0 lc := ⟨_, X2, N2⟩
  refine Go.of st2 ?_
  show Go p e below Φ T2 (mkF m 12 #[.val (.ref a), .unset, .unset] [])
  refine Go.of (fun t k => XS.aloadN X2.here hx rfl (hb hby own_d3_12) rfl rfl  k) ?_
  show Go p e below Φ T2 (mkF m 13 #[.val (.ref a), .unset, .unset] [(.ref a)])
  obtain ⟨T3, X3, e3, st3⟩ := getF X2 hx hZ hown (host := "") (Or.inl (hw _ (List.mem_of_getElem? (i := 9) rfl))) Via.refl e2 F_a_state (g := (mkF m 13 #[.val (.ref a), .unset, .unset] [(.ref a)])) rfl rfl (hb hby own_d3_13)
  refine Go.of st3 ?_
  show Go p e below Φ T3 (mkF m 16 #[.val (.ref a), .unset, .unset] [(.long (w + (-7046029254386353131 : Int64)))])
  refine Go.of (fun t k => XS.lstoreN X3.here hx rfl (hb hby own_d3_16) rfl (l' := #[.val (.ref a), .val (.long (w + (-7046029254386353131 : Int64))), .second]) rfl k) ?_
  show Go p e below Φ T3 (mkF m 17 #[.val (.ref a), .val (.long (w + (-7046029254386353131 : Int64))), .second] [])
  refine Go.of (fun t k => XS.lloadN X3.here hx rfl (hb hby own_d3_17) rfl  k) ?_
  show Go p e below Φ T3 (mkF m 18 #[.val (.ref a), .val (.long (w + (-7046029254386353131 : Int64))), .second] [(.long (w + (-7046029254386353131 : Int64)))])
  refine Go.of (fun t k => XS.lloadN X3.here hx rfl (hb hby own_d3_18) rfl  k) ?_
  show Go p e below Φ T3 (mkF m 19 #[.val (.ref a), .val (.long (w + (-7046029254386353131 : Int64))), .second] [(.long (w + (-7046029254386353131 : Int64))), (.long (w + (-7046029254386353131 : Int64)))])
  refine Go.of (fun t k => XS.bipush X3.here hx rfl (hb hby own_d3_19) k) ?_
  show Go p e below Φ T3 (mkF m 21 #[.val (.ref a), .val (.long (w + (-7046029254386353131 : Int64))), .second] [(.int (30 : Int32)), (.long (w + (-7046029254386353131 : Int64))), (.long (w + (-7046029254386353131 : Int64)))])
  refine Go.of (fun t k => XS.lushr X3.here hx rfl (hb hby own_d3_21) rfl k) ?_
  show Go p e below Φ T3 (mkF m 22 #[.val (.ref a), .val (.long (w + (-7046029254386353131 : Int64))), .second] [(.long (own_ushrL (w + (-7046029254386353131 : Int64)) (30 : Int32))), (.long (w + (-7046029254386353131 : Int64)))])
  refine Go.of (fun t k => XS.lxor X3.here hx rfl (hb hby own_d3_22) rfl k) ?_
  show Go p e below Φ T3 (mkF m 23 #[.val (.ref a), .val (.long (w + (-7046029254386353131 : Int64))), .second] [(.long ((w + (-7046029254386353131 : Int64)) ^^^ (own_ushrL (w + (-7046029254386353131 : Int64)) (30 : Int32))))])
  refine Go.of (fun t k => X3.ldc2Long hx hown (mvT hZ (hw _ (List.mem_of_getElem? (i := 18) rfl))) (g := (mkF m 23 #[.val (.ref a), .val (.long (w + (-7046029254386353131 : Int64))), .second] [(.long ((w + (-7046029254386353131 : Int64)) ^^^ (own_ushrL (w + (-7046029254386353131 : Int64)) (30 : Int32))))])) rfl (hb hby own_d3_23) t k) ?_
  show Go p e below Φ T3 (mkF m 26 #[.val (.ref a), .val (.long (w + (-7046029254386353131 : Int64))), .second] [(.long (-4658895280553007687 : Int64)), (.long ((w + (-7046029254386353131 : Int64)) ^^^ (own_ushrL (w + (-7046029254386353131 : Int64)) (30 : Int32))))])
  refine Go.of (fun t k => XS.lmul X3.here hx rfl (hb hby own_d3_26) rfl k) ?_
  show Go p e below Φ T3 (mkF m 27 #[.val (.ref a), .val (.long (w + (-7046029254386353131 : Int64))), .second] [(.long (((w + (-7046029254386353131 : Int64)) ^^^ (own_ushrL (w + (-7046029254386353131 : Int64)) (30 : Int32))) * (-4658895280553007687 : Int64)))])
  refine Go.of (fun t k => XS.lstoreN X3.here hx rfl (hb hby own_d3_27) rfl (l' := #[.val (.ref a), .val (.long (((w + (-7046029254386353131 : Int64)) ^^^ (own_ushrL (w + (-7046029254386353131 : Int64)) (30 : Int32))) * (-4658895280553007687 : Int64))), .second]) rfl k) ?_
  show Go p e below Φ T3 (mkF m 28 #[.val (.ref a), .val (.long (((w + (-7046029254386353131 : Int64)) ^^^ (own_ushrL (w + (-7046029254386353131 : Int64)) (30 : Int32))) * (-4658895280553007687 : Int64))), .second] [])
  refine Go.of (fun t k => XS.lloadN X3.here hx rfl (hb hby own_d3_28) rfl  k) ?_
  show Go p e below Φ T3 (mkF m 29 #[.val (.ref a), .val (.long (((w + (-7046029254386353131 : Int64)) ^^^ (own_ushrL (w + (-7046029254386353131 : Int64)) (30 : Int32))) * (-4658895280553007687 : Int64))), .second] [(.long (((w + (-7046029254386353131 : Int64)) ^^^ (own_ushrL (w + (-7046029254386353131 : Int64)) (30 : Int32))) * (-4658895280553007687 : Int64)))])
  refine Go.of (fun t k => XS.lloadN X3.here hx rfl (hb hby own_d3_29) rfl  k) ?_
  show Go p e below Φ T3 (mkF m 30 #[.val (.ref a), .val (.long (((w + (-7046029254386353131 : Int64)) ^^^ (own_ushrL (w + (-7046029254386353131 : Int64)) (30 : Int32))) * (-4658895280553007687 : Int64))), .second] [(.long (((w + (-7046029254386353131 : Int64)) ^^^ (own_ushrL (w + (-7046029254386353131 : Int64)) (30 : Int32))) * (-4658895280553007687 : Int64))), (.long (((w + (-7046029254386353131 : Int64)) ^^^ (own_ushrL (w + (-7046029254386353131 : Int64)) (30 : Int32))) * (-4658895280553007687 : Int64)))])
  refine Go.of (fun t k => XS.bipush X3.here hx rfl (hb hby own_d3_30) k) ?_
  show Go p e below Φ T3 (mkF m 32 #[.val (.ref a), .val (.long (((w + (-7046029254386353131 : Int64)) ^^^ (own_ushrL (w + (-7046029254386353131 : Int64)) (30 : Int32))) * (-4658895280553007687 : Int64))), .second] [(.int (27 : Int32)), (.long (((w + (-7046029254386353131 : Int64)) ^^^ (own_ushrL (w + (-7046029254386353131 : Int64)) (30 : Int32))) * (-4658895280553007687 : Int64))), (.long (((w + (-7046029254386353131 : Int64)) ^^^ (own_ushrL (w + (-7046029254386353131 : Int64)) (30 : Int32))) * (-4658895280553007687 : Int64)))])
  refine Go.of (fun t k => XS.lushr X3.here hx rfl (hb hby own_d3_32) rfl k) ?_
  show Go p e below Φ T3 (mkF m 33 #[.val (.ref a), .val (.long (((w + (-7046029254386353131 : Int64)) ^^^ (own_ushrL (w + (-7046029254386353131 : Int64)) (30 : Int32))) * (-4658895280553007687 : Int64))), .second] [(.long (own_ushrL (((w + (-7046029254386353131 : Int64)) ^^^ (own_ushrL (w + (-7046029254386353131 : Int64)) (30 : Int32))) * (-4658895280553007687 : Int64)) (27 : Int32))), (.long (((w + (-7046029254386353131 : Int64)) ^^^ (own_ushrL (w + (-7046029254386353131 : Int64)) (30 : Int32))) * (-4658895280553007687 : Int64)))])
  refine Go.of (fun t k => XS.lxor X3.here hx rfl (hb hby own_d3_33) rfl k) ?_
  show Go p e below Φ T3 (mkF m 34 #[.val (.ref a), .val (.long (((w + (-7046029254386353131 : Int64)) ^^^ (own_ushrL (w + (-7046029254386353131 : Int64)) (30 : Int32))) * (-4658895280553007687 : Int64))), .second] [(.long ((((w + (-7046029254386353131 : Int64)) ^^^ (own_ushrL (w + (-7046029254386353131 : Int64)) (30 : Int32))) * (-4658895280553007687 : Int64)) ^^^ (own_ushrL (((w + (-7046029254386353131 : Int64)) ^^^ (own_ushrL (w + (-7046029254386353131 : Int64)) (30 : Int32))) * (-4658895280553007687 : Int64)) (27 : Int32))))])
  refine Go.of (fun t k => X3.ldc2Long hx hown (mvT hZ (hw _ (List.mem_of_getElem? (i := 19) rfl))) (g := (mkF m 34 #[.val (.ref a), .val (.long (((w + (-7046029254386353131 : Int64)) ^^^ (own_ushrL (w + (-7046029254386353131 : Int64)) (30 : Int32))) * (-4658895280553007687 : Int64))), .second] [(.long ((((w + (-7046029254386353131 : Int64)) ^^^ (own_ushrL (w + (-7046029254386353131 : Int64)) (30 : Int32))) * (-4658895280553007687 : Int64)) ^^^ (own_ushrL (((w + (-7046029254386353131 : Int64)) ^^^ (own_ushrL (w + (-7046029254386353131 : Int64)) (30 : Int32))) * (-4658895280553007687 : Int64)) (27 : Int32))))])) rfl (hb hby own_d3_34) t k) ?_
  show Go p e below Φ T3 (mkF m 37 #[.val (.ref a), .val (.long (((w + (-7046029254386353131 : Int64)) ^^^ (own_ushrL (w + (-7046029254386353131 : Int64)) (30 : Int32))) * (-4658895280553007687 : Int64))), .second] [(.long (-7723592293110705685 : Int64)), (.long ((((w + (-7046029254386353131 : Int64)) ^^^ (own_ushrL (w + (-7046029254386353131 : Int64)) (30 : Int32))) * (-4658895280553007687 : Int64)) ^^^ (own_ushrL (((w + (-7046029254386353131 : Int64)) ^^^ (own_ushrL (w + (-7046029254386353131 : Int64)) (30 : Int32))) * (-4658895280553007687 : Int64)) (27 : Int32))))])
  refine Go.of (fun t k => XS.lmul X3.here hx rfl (hb hby own_d3_37) rfl k) ?_
  show Go p e below Φ T3 (mkF m 38 #[.val (.ref a), .val (.long (((w + (-7046029254386353131 : Int64)) ^^^ (own_ushrL (w + (-7046029254386353131 : Int64)) (30 : Int32))) * (-4658895280553007687 : Int64))), .second] [(.long (((((w + (-7046029254386353131 : Int64)) ^^^ (own_ushrL (w + (-7046029254386353131 : Int64)) (30 : Int32))) * (-4658895280553007687 : Int64)) ^^^ (own_ushrL (((w + (-7046029254386353131 : Int64)) ^^^ (own_ushrL (w + (-7046029254386353131 : Int64)) (30 : Int32))) * (-4658895280553007687 : Int64)) (27 : Int32))) * (-7723592293110705685 : Int64)))])
  refine Go.of (fun t k => XS.lstoreN X3.here hx rfl (hb hby own_d3_38) rfl (l' := #[.val (.ref a), .val (.long (((((w + (-7046029254386353131 : Int64)) ^^^ (own_ushrL (w + (-7046029254386353131 : Int64)) (30 : Int32))) * (-4658895280553007687 : Int64)) ^^^ (own_ushrL (((w + (-7046029254386353131 : Int64)) ^^^ (own_ushrL (w + (-7046029254386353131 : Int64)) (30 : Int32))) * (-4658895280553007687 : Int64)) (27 : Int32))) * (-7723592293110705685 : Int64))), .second]) rfl k) ?_
  show Go p e below Φ T3 (mkF m 39 #[.val (.ref a), .val (.long (((((w + (-7046029254386353131 : Int64)) ^^^ (own_ushrL (w + (-7046029254386353131 : Int64)) (30 : Int32))) * (-4658895280553007687 : Int64)) ^^^ (own_ushrL (((w + (-7046029254386353131 : Int64)) ^^^ (own_ushrL (w + (-7046029254386353131 : Int64)) (30 : Int32))) * (-4658895280553007687 : Int64)) (27 : Int32))) * (-7723592293110705685 : Int64))), .second] [])
  refine Go.of (fun t k => XS.lloadN X3.here hx rfl (hb hby own_d3_39) rfl  k) ?_
  show Go p e below Φ T3 (mkF m 40 #[.val (.ref a), .val (.long (((((w + (-7046029254386353131 : Int64)) ^^^ (own_ushrL (w + (-7046029254386353131 : Int64)) (30 : Int32))) * (-4658895280553007687 : Int64)) ^^^ (own_ushrL (((w + (-7046029254386353131 : Int64)) ^^^ (own_ushrL (w + (-7046029254386353131 : Int64)) (30 : Int32))) * (-4658895280553007687 : Int64)) (27 : Int32))) * (-7723592293110705685 : Int64))), .second] [(.long (((((w + (-7046029254386353131 : Int64)) ^^^ (own_ushrL (w + (-7046029254386353131 : Int64)) (30 : Int32))) * (-4658895280553007687 : Int64)) ^^^ (own_ushrL (((w + (-7046029254386353131 : Int64)) ^^^ (own_ushrL (w + (-7046029254386353131 : Int64)) (30 : Int32))) * (-4658895280553007687 : Int64)) (27 : Int32))) * (-7723592293110705685 : Int64)))])
  refine Go.of (fun t k => XS.lloadN X3.here hx rfl (hb hby own_d3_40) rfl  k) ?_
  show Go p e below Φ T3 (mkF m 41 #[.val (.ref a), .val (.long (((((w + (-7046029254386353131 : Int64)) ^^^ (own_ushrL (w + (-7046029254386353131 : Int64)) (30 : Int32))) * (-4658895280553007687 : Int64)) ^^^ (own_ushrL (((w + (-7046029254386353131 : Int64)) ^^^ (own_ushrL (w + (-7046029254386353131 : Int64)) (30 : Int32))) * (-4658895280553007687 : Int64)) (27 : Int32))) * (-7723592293110705685 : Int64))), .second] [(.long (((((w + (-7046029254386353131 : Int64)) ^^^ (own_ushrL (w + (-7046029254386353131 : Int64)) (30 : Int32))) * (-4658895280553007687 : Int64)) ^^^ (own_ushrL (((w + (-7046029254386353131 : Int64)) ^^^ (own_ushrL (w + (-7046029254386353131 : Int64)) (30 : Int32))) * (-4658895280553007687 : Int64)) (27 : Int32))) * (-7723592293110705685 : Int64))), (.long (((((w + (-7046029254386353131 : Int64)) ^^^ (own_ushrL (w + (-7046029254386353131 : Int64)) (30 : Int32))) * (-4658895280553007687 : Int64)) ^^^ (own_ushrL (((w + (-7046029254386353131 : Int64)) ^^^ (own_ushrL (w + (-7046029254386353131 : Int64)) (30 : Int32))) * (-4658895280553007687 : Int64)) (27 : Int32))) * (-7723592293110705685 : Int64)))])
  refine Go.of (fun t k => XS.bipush X3.here hx rfl (hb hby own_d3_41) k) ?_
  show Go p e below Φ T3 (mkF m 43 #[.val (.ref a), .val (.long (((((w + (-7046029254386353131 : Int64)) ^^^ (own_ushrL (w + (-7046029254386353131 : Int64)) (30 : Int32))) * (-4658895280553007687 : Int64)) ^^^ (own_ushrL (((w + (-7046029254386353131 : Int64)) ^^^ (own_ushrL (w + (-7046029254386353131 : Int64)) (30 : Int32))) * (-4658895280553007687 : Int64)) (27 : Int32))) * (-7723592293110705685 : Int64))), .second] [(.int (31 : Int32)), (.long (((((w + (-7046029254386353131 : Int64)) ^^^ (own_ushrL (w + (-7046029254386353131 : Int64)) (30 : Int32))) * (-4658895280553007687 : Int64)) ^^^ (own_ushrL (((w + (-7046029254386353131 : Int64)) ^^^ (own_ushrL (w + (-7046029254386353131 : Int64)) (30 : Int32))) * (-4658895280553007687 : Int64)) (27 : Int32))) * (-7723592293110705685 : Int64))), (.long (((((w + (-7046029254386353131 : Int64)) ^^^ (own_ushrL (w + (-7046029254386353131 : Int64)) (30 : Int32))) * (-4658895280553007687 : Int64)) ^^^ (own_ushrL (((w + (-7046029254386353131 : Int64)) ^^^ (own_ushrL (w + (-7046029254386353131 : Int64)) (30 : Int32))) * (-4658895280553007687 : Int64)) (27 : Int32))) * (-7723592293110705685 : Int64)))])
  refine Go.of (fun t k => XS.lushr X3.here hx rfl (hb hby own_d3_43) rfl k) ?_
  show Go p e below Φ T3 (mkF m 44 #[.val (.ref a), .val (.long (((((w + (-7046029254386353131 : Int64)) ^^^ (own_ushrL (w + (-7046029254386353131 : Int64)) (30 : Int32))) * (-4658895280553007687 : Int64)) ^^^ (own_ushrL (((w + (-7046029254386353131 : Int64)) ^^^ (own_ushrL (w + (-7046029254386353131 : Int64)) (30 : Int32))) * (-4658895280553007687 : Int64)) (27 : Int32))) * (-7723592293110705685 : Int64))), .second] [(.long (own_ushrL (((((w + (-7046029254386353131 : Int64)) ^^^ (own_ushrL (w + (-7046029254386353131 : Int64)) (30 : Int32))) * (-4658895280553007687 : Int64)) ^^^ (own_ushrL (((w + (-7046029254386353131 : Int64)) ^^^ (own_ushrL (w + (-7046029254386353131 : Int64)) (30 : Int32))) * (-4658895280553007687 : Int64)) (27 : Int32))) * (-7723592293110705685 : Int64)) (31 : Int32))), (.long (((((w + (-7046029254386353131 : Int64)) ^^^ (own_ushrL (w + (-7046029254386353131 : Int64)) (30 : Int32))) * (-4658895280553007687 : Int64)) ^^^ (own_ushrL (((w + (-7046029254386353131 : Int64)) ^^^ (own_ushrL (w + (-7046029254386353131 : Int64)) (30 : Int32))) * (-4658895280553007687 : Int64)) (27 : Int32))) * (-7723592293110705685 : Int64)))])
  refine Go.of (fun t k => XS.lxor X3.here hx rfl (hb hby own_d3_44) rfl k) ?_
  show Go p e below Φ T3 (mkF m 45 #[.val (.ref a), .val (.long (((((w + (-7046029254386353131 : Int64)) ^^^ (own_ushrL (w + (-7046029254386353131 : Int64)) (30 : Int32))) * (-4658895280553007687 : Int64)) ^^^ (own_ushrL (((w + (-7046029254386353131 : Int64)) ^^^ (own_ushrL (w + (-7046029254386353131 : Int64)) (30 : Int32))) * (-4658895280553007687 : Int64)) (27 : Int32))) * (-7723592293110705685 : Int64))), .second] [(.long ((((((w + (-7046029254386353131 : Int64)) ^^^ (own_ushrL (w + (-7046029254386353131 : Int64)) (30 : Int32))) * (-4658895280553007687 : Int64)) ^^^ (own_ushrL (((w + (-7046029254386353131 : Int64)) ^^^ (own_ushrL (w + (-7046029254386353131 : Int64)) (30 : Int32))) * (-4658895280553007687 : Int64)) (27 : Int32))) * (-7723592293110705685 : Int64)) ^^^ (own_ushrL (((((w + (-7046029254386353131 : Int64)) ^^^ (own_ushrL (w + (-7046029254386353131 : Int64)) (30 : Int32))) * (-4658895280553007687 : Int64)) ^^^ (own_ushrL (((w + (-7046029254386353131 : Int64)) ^^^ (own_ushrL (w + (-7046029254386353131 : Int64)) (30 : Int32))) * (-4658895280553007687 : Int64)) (27 : Int32))) * (-7723592293110705685 : Int64)) (31 : Int32))))])
  rw [hΦ]
  refine Go.ret X3 hx Bd.notSynchronized Bd.returns rfl (Or.inr (Or.inl ⟨rfl, rfl, _, rfl⟩)) (hb hby own_d3_45) (by decide) (by decide) ?_
  rw [e3]
  exact ⟨by rw [own_mix], N2, K2, E_a, F_a_state⟩
theorem own_x4 (x a y b : BitVec 64) (h : x ^^^ a = y ^^^ b) : x ^^^ y = a ^^^ b := by
  have e : x = y ^^^ b ^^^ a := by rw [← h, BitVec.xor_assoc, BitVec.xor_self, BitVec.xor_zero]
  subst e
  rw [BitVec.xor_comm (y ^^^ b ^^^ a) y, ← BitVec.xor_assoc, ← BitVec.xor_assoc, BitVec.xor_self, BitVec.zero_xor, BitVec.xor_comm]
theorem own_xs (k : Nat) (hk : 0 < k) (x y : BitVec 64) (h : x ^^^ (x >>> k) = y ^^^ (y >>> k)) : x = y := by
  have h2 : (x ^^^ y) = (x ^^^ y) >>> k := by
    rw [BitVec.ushiftRight_xor_distrib]; exact own_x4 _ _ _ _ h
  have h3 : (x ^^^ y).toNat = (x ^^^ y).toNat / 2 ^ k := by
    have q := congrArg BitVec.toNat h2
    rw [BitVec.toNat_ushiftRight, Nat.shiftRight_eq_div_pow] at q
    exact q
  have h4 : (x ^^^ y).toNat = 0 := by
    apply Classical.byContradiction
    intro hn
    have := Nat.div_lt_self (Nat.pos_of_ne_zero hn) (Nat.one_lt_two_pow (Nat.ne_of_gt hk))
    omega
  have h5 : x ^^^ y = 0#64 := BitVec.eq_of_toNat_eq (by rw [h4]; rfl)
  exact BitVec.xor_eq_zero_iff.mp h5
theorem own_u30 (x : Int64) : (own_ushrL x 30).toBitVec = x.toBitVec >>> 30 := rfl
theorem own_u27 (x : Int64) : (own_ushrL x 27).toBitVec = x.toBitVec >>> 27 := rfl
theorem own_u31 (x : Int64) : (own_ushrL x 31).toBitVec = x.toBitVec >>> 31 := rfl
theorem own_s30 {x y : Int64} (h : x ^^^ own_ushrL x 30 = y ^^^ own_ushrL y 30) : x = y := Int64.toBitVec_inj.mp (own_xs 30 (by decide) _ _ (by have q := congrArg Int64.toBitVec h; rw [Int64.toBitVec_xor, Int64.toBitVec_xor, own_u30, own_u30] at q; exact q))
theorem own_s27 {x y : Int64} (h : x ^^^ own_ushrL x 27 = y ^^^ own_ushrL y 27) : x = y := Int64.toBitVec_inj.mp (own_xs 27 (by decide) _ _ (by have q := congrArg Int64.toBitVec h; rw [Int64.toBitVec_xor, Int64.toBitVec_xor, own_u27, own_u27] at q; exact q))
theorem own_s31 {x y : Int64} (h : x ^^^ own_ushrL x 31 = y ^^^ own_ushrL y 31) : x = y := Int64.toBitVec_inj.mp (own_xs 31 (by decide) _ _ (by have q := congrArg Int64.toBitVec h; rw [Int64.toBitVec_xor, Int64.toBitVec_xor, own_u31, own_u31] at q; exact q))
theorem own_mul {x y : Int64} (c ci : Int64) (hc : c * ci = 1) (h : x * c = y * c) : x = y := by
  have q := congrArg (· * ci) h
  simp only [Int64.mul_assoc, hc, Int64.mul_one] at q
  exact q
theorem own_add {x y : Int64} (c ci : Int64) (hc : c + ci = 0) (h : x + c = y + c) : x = y := by
  have q := congrArg (· + ci) h
  simp only [Int64.add_assoc, hc, Int64.add_zero] at q
  exact q
theorem own_inj {x y : Int64} (h : own_mix x = own_mix y) : x = y := by
  rw [own_mix, own_mix] at h
  have h1 := own_s31 h
  have h2 := own_mul _ (3573116690164977347 : Int64) (by decide) h1
  have h3 := own_s27 h2
  have h4 := own_mul _ (-7575587736534282103 : Int64) (by decide) h3
  have h5 := own_s30 h4
  exact own_add _ (7046029254386353131 : Int64) (by decide) h5
theorem own_vec : own_mix (0 : Int64) = (-2152535657050944081 : Int64) := by decide +kernel
theorem own_plain (i0 : Int64) (i1 : Int64) (y4_state : Int64) (hy4_state : y4_state = (i0 + (-7046029254386353131 : Int64))) (y9_state : Int64) (hy9_state : y9_state = (i0 + (-7046029254386353131 : Int64))) (x49 : Int64) (hx49 : x49 = (own_mix i0)) (y10_state : Int64) (hy10_state : y10_state = (y9_state + (-7046029254386353131 : Int64))) (x56 : Int64) (hx56 : x56 = (own_mix y9_state)) (y11_state : Int64) (hy11_state : y11_state = (y4_state + (-7046029254386353131 : Int64))) (x63 : Int64) (hx63 : x63 = (own_mix y4_state)) (y12_state : Int64) (hy12_state : y12_state = (i1 + (-7046029254386353131 : Int64))) (x70 : Int64) (hx70 : x70 = (own_mix i1)) (y13_state : Int64) (hy13_state : y13_state = ((0 : Int64) + (-7046029254386353131 : Int64))) (x77 : Int64) (hx77 : x77 = (own_mix (0 : Int64))) (v92 : Int32) (hv92 : v92 = (if x56 = x63 then (1 : Int32) else (0 : Int32))) (v105 : Int32) (hv105 : v105 = (if i0 = i1 then (1 : Int32) else (0 : Int32))) (v118 : Int32) (hv118 : v118 = (if x49 = x70 then (1 : Int32) else (0 : Int32))) (v126 : Int32) (hv126 : v126 = (if v105 = v118 then (1 : Int32) else (0 : Int32))) (v142 : Int32) (hv142 : v142 = (if x77 = (-2152535657050944081 : Int64) then (1 : Int32) else (0 : Int32))) (v164 : Int32) (hv164 : v164 = (if v92 = (0 : Int32) then (0 : Int32) else (if v126 = (0 : Int32) then (0 : Int32) else (if v142 = (0 : Int32) then (0 : Int32) else (1 : Int32)))))  : v164 = (1 : Int32) := by
  have e1 : x56 = x63 := by rw [hx56, hx63, hy9_state, hy4_state]
  have e2 : x77 = (-2152535657050944081 : Int64) := by rw [hx77, own_vec]
  have e3 : v105 = v118 := by
    rw [hv105, hv118]
    by_cases h : i0 = i1
    · rw [if_pos h, if_pos (by rw [hx49, hx70, h])]
    · rw [if_neg h, if_neg (fun q => h (own_inj (by rw [← hx49, ← hx70]; exact q)))]
  rw [if_pos e1] at hv92
  rw [if_pos e3] at hv126
  rw [if_pos e2] at hv142
  rw [hv164, hv92, hv126, hv142]
  rfl
theorem own_ef0 (m : MethodId) (i0 : Int64) (i1 : Int64) : entryFrame m #[(.long i0), (.long i1)] maxLocals = mkF m 0 #[.val (.long i0), .second, .val (.long i1), .second, .unset, .unset, .unset, .unset, .unset, .unset, .unset, .unset, .unset, .unset, .unset, .unset, .unset, .unset, .unset, .unset, .unset] [] := by first | (simp [entryFrame, mkF, argsToLocals, Value.category, maxLocals]; done) | rfl
def Q0 (Z : State) (i0 : Int64) (i1 : Int64) (h0 : Heap) (n0 : Nat) (vr : Option Value) (hr : Heap) (Lr : List Loc) : Prop := vr = some (.int 1) ∧ Fr n0 Lr
set_option maxRecDepth 65536 in
set_option maxHeartbeats 40000000 in
theorem rm0 (l : Launch) (Z : State) (a0 : Array Value) (hw : ∀ d ∈ tables_1, d.before a0 Z = true) (ws : List Jvm.Cond) (i0 : Int64) (i1 : Int64) (h0 : Heap) (n0 : Nat) (Z0 : n0 ≤ h0.size) :
    MetFree l x (head1 (Jvm.Cond.code x code maxLocals ret :: ws) room_1) (fun aQ UQ => aQ = #[(.long i0), (.long i1)] ∧ Z.Warmed39 UQ.vm ∧ UQ.heap = h0) (fun _ _ _ _ _ => True) (fun _ UQ oQ VQ => ∃ vQ LQ, oQ = .returned vQ ∧ Q0 Z i0 i1 h0 n0 vQ VQ.heap LQ ∧ FrameEnd UQ oQ VQ LQ 16 128) := by
  refine MetFree.of_bodySF (plainFor_of_name own_pn1) hisR ?_
  intro p e s m args below meth c s₁ Bd hml0 hP hK
  obtain ⟨rfl, hZ, hh⟩ := hP
  have hx := Bd.exec
  have hby := Bd.bytes
  have hml : c.maxLocals = 21 := hml0
  have hown : s.vm.findClass "com/example/signalbox/signalbox/game/SeededRandomNextLongPinLaw" = some m.cls := findClass_of_methodNamed Bd.named
  have hnm := (name_of_methodNamed Bd.named Bd.method).1
  have X0 : Stand p l e room_1 s m #[(.long i0), (.long i1)] below meth c s₁ [] 0 0 := Stand.of_body Bd
  have e0 : s₁.heap = h0 := by rw [← hh, Bd.state]; rfl
  have N0 := Fr.nil n0
  show Go p e below (EndQ s below (Q0 Z i0 i1 h0 n0) 16 128) s₁ (entryFrame m #[(.long i0), (.long i1)] maxLocals)
  obtain ⟨Φ, hΦ⟩ : ∃ Φ, Φ = EndQ s below (Q0 Z i0 i1 h0 n0) 16 128 := ⟨_, rfl⟩
  rw [← hΦ, own_ef0]
  show Go p e below Φ s₁ (mkF m 0 #[.val (.long i0), .second, .val (.long i1), .second, .unset, .unset, .unset, .unset, .unset, .unset, .unset, .unset, .unset, .unset, .unset, .unset, .unset, .unset, .unset, .unset, .unset] [])
  obtain ⟨T1, h1, X1, e1, E1, A1, D1, -, st1⟩ := newO X0 hx hZ hown (hw _ (List.mem_of_getElem? (i := 0) rfl)) (hw _ (List.mem_of_getElem? (i := 1) rfl)) (hw _ (List.mem_of_getElem? (i := 2) rfl)) e0 (g := (mkF m 0 #[.val (.long i0), .second, .val (.long i1), .second, .unset, .unset, .unset, .unset, .unset, .unset, .unset, .unset, .unset, .unset, .unset, .unset, .unset, .unset, .unset, .unset, .unset] [])) rfl (hb hby at_0) (by decide) (by decide)
  obtain ⟨b1, g1⟩ : ∃ z, z = h0.size := ⟨_, rfl⟩
  rw [← g1] at A1 D1 st1
  have g_b1 : n0 ≤ b1 := Nat.le_trans Z0 (Nat.le_of_eq g1.symm)
  have Z1 := Nat.le_trans Z0 E1.1
  have E_b1 := A1
  have F_b1_state : Fld Z h1 b1 "com/example/signalbox/signalbox/game/SeededRandom" "state" "J" (.long (0 : Int64)) := D1 (Or.inl (hw _ (List.mem_of_getElem? (i := 10) rfl))) (ty := .long) (by decide)
  refine Go.of st1 ?_
  show Go p e below Φ T1 (mkF m 3 #[.val (.long i0), .second, .val (.long i1), .second, .unset, .unset, .unset, .unset, .unset, .unset, .unset, .unset, .unset, .unset, .unset, .unset, .unset, .unset, .unset, .unset, .unset] [(.ref b1)])
  refine Go.of (fun t k => XS.dup X1.here hx rfl (hb hby at_3) rfl rfl k) ?_
  show Go p e below Φ T1 (mkF m 4 #[.val (.long i0), .second, .val (.long i1), .second, .unset, .unset, .unset, .unset, .unset, .unset, .unset, .unset, .unset, .unset, .unset, .unset, .unset, .unset, .unset, .unset, .unset] [(.ref b1), (.ref b1)])
  refine Go.of (fun t k => XS.lloadN X1.here hx rfl (hb hby at_4) rfl  k) ?_
  show Go p e below Φ T1 (mkF m 5 #[.val (.long i0), .second, .val (.long i1), .second, .unset, .unset, .unset, .unset, .unset, .unset, .unset, .unset, .unset, .unset, .unset, .unset, .unset, .unset, .unset, .unset, .unset] [(.long i0), (.ref b1), (.ref b1)])
  obtain ⟨_, _, ⟨T2, L2, k2, n2⟩, -, X2, ⟨Lc2, hQ2, l2, y2, z2⟩, st2⟩ := X1.specialBack hx (y := (⟨"com/example/signalbox/signalbox/game/SeededRandom", "<init>", "(J)V"⟩ : MethodName)) rfl hown (mvT hZ (hw _ (List.mem_of_getElem? (i := 3) rfl))) (mvT hZ (hw _ (List.mem_of_getElem? (i := 4) rfl))) (mvT hZ (hw _ (List.mem_of_getElem? (i := 5) rfl))) (by decide) (backOf (W := 1) (rm1 l Z a0 hw [] b1 i0 (0 : Int64) h1 n0 Z1 F_b1_state E_b1 g_b1) hZ (hw _ (List.mem_of_getElem? (i := 5) rfl)) (hw _ (List.mem_of_getElem? (i := 2) rfl)) (by decide) (by decide)) (g := (mkF m 5 #[.val (.long i0), .second, .val (.long i1), .second, .unset, .unset, .unset, .unset, .unset, .unset, .unset, .unset, .unset, .unset, .unset, .unset, .unset, .unset, .unset, .unset, .unset] [(.long i0), (.ref b1), (.ref b1)])) rfl (by rw [hml]; rfl) (Steps.refl _) (a := b1) (argsL := [(.long i0)]) (rest := [(.ref b1)]) (lenOf own_pd0 rfl) rfl (by show 2 * 0 + _ ≤ _; exact Nat.le_of_eq rfl) (hb hby at_5) (fun _ _ => ⟨rfl, e1, (by decide : 1 + 0 ≤ _), (by decide : 1 + 0 ≤ _)⟩)
  dsimp only [Pt.U, Pt.locs, Pt.cells, Pt.slots] at X2 l2 y2 z2 st2 hQ2
  subst l2 y2 z2
  obtain ⟨rfl, N2q, K2q, c2_0, c2_1⟩ := hQ2
  have N2 := Fr.app N0 N2q
  obtain ⟨lc2, X2, N2⟩ : ∃ lc, Stand p l e room_1 s m #[(.long i0), (.long i1)] below meth c T2 lc 1 1 ∧ Fr n0 lc := ⟨_, X2, N2⟩
  have E_b1 := c2_0
  have F_b1_state := c2_1
  have Z2 := Nat.le_trans Z1 K2q.1
  refine Go.tr st2 ?_
  show Go p e below Φ T2 (mkF m 8 #[.val (.long i0), .second, .val (.long i1), .second, .unset, .unset, .unset, .unset, .unset, .unset, .unset, .unset, .unset, .unset, .unset, .unset, .unset, .unset, .unset, .unset, .unset] [(.ref b1)])
  refine Go.of (fun t k => XS.astore X2.here hx rfl (hb hby at_8) rfl rfl (l' := #[.val (.long i0), .second, .val (.long i1), .second, .val (.ref b1), .unset, .unset, .unset, .unset, .unset, .unset, .unset, .unset, .unset, .unset, .unset, .unset, .unset, .unset, .unset, .unset]) rfl k) ?_
  show Go p e below Φ T2 (mkF m 10 #[.val (.long i0), .second, .val (.long i1), .second, .val (.ref b1), .unset, .unset, .unset, .unset, .unset, .unset, .unset, .unset, .unset, .unset, .unset, .unset, .unset, .unset, .unset, .unset] [])
  obtain ⟨T3, h3, X3, e3, E3, A3, D3, -, st3⟩ := newO X2 hx hZ hown (hw _ (List.mem_of_getElem? (i := 0) rfl)) (hw _ (List.mem_of_getElem? (i := 1) rfl)) (hw _ (List.mem_of_getElem? (i := 2) rfl)) rfl (g := (mkF m 10 #[.val (.long i0), .second, .val (.long i1), .second, .val (.ref b1), .unset, .unset, .unset, .unset, .unset, .unset, .unset, .unset, .unset, .unset, .unset, .unset, .unset, .unset, .unset, .unset] [])) rfl (hb hby at_10) (by decide) (by decide)
  obtain ⟨b3, g3⟩ : ∃ z, z = T2.heap.size := ⟨_, rfl⟩
  rw [← g3] at A3 D3 st3
  have ne_b1_b3 : b1 ≠ b3 := Nat.ne_of_lt (Nat.lt_of_lt_of_le E_b1.lt (Nat.le_of_eq g3.symm))
  have g_b3 : n0 ≤ b3 := Nat.le_trans Z2 (Nat.le_of_eq g3.symm)
  have Z3 := Nat.le_trans Z2 E3.1
  have E_b1 := E_b1.ext E3
  have F_b1_state := F_b1_state.ext E3
  have E_b3 := A3
  have F_b3_state : Fld Z h3 b3 "com/example/signalbox/signalbox/game/SeededRandom" "state" "J" (.long (0 : Int64)) := D3 (Or.inl (hw _ (List.mem_of_getElem? (i := 10) rfl))) (ty := .long) (by decide)
  refine Go.of st3 ?_
  show Go p e below Φ T3 (mkF m 13 #[.val (.long i0), .second, .val (.long i1), .second, .val (.ref b1), .unset, .unset, .unset, .unset, .unset, .unset, .unset, .unset, .unset, .unset, .unset, .unset, .unset, .unset, .unset, .unset] [(.ref b3)])
  refine Go.of (fun t k => XS.dup X3.here hx rfl (hb hby at_13) rfl rfl k) ?_
  show Go p e below Φ T3 (mkF m 14 #[.val (.long i0), .second, .val (.long i1), .second, .val (.ref b1), .unset, .unset, .unset, .unset, .unset, .unset, .unset, .unset, .unset, .unset, .unset, .unset, .unset, .unset, .unset, .unset] [(.ref b3), (.ref b3)])
  refine Go.of (fun t k => XS.lloadN X3.here hx rfl (hb hby at_14) rfl  k) ?_
  show Go p e below Φ T3 (mkF m 15 #[.val (.long i0), .second, .val (.long i1), .second, .val (.ref b1), .unset, .unset, .unset, .unset, .unset, .unset, .unset, .unset, .unset, .unset, .unset, .unset, .unset, .unset, .unset, .unset] [(.long i0), (.ref b3), (.ref b3)])
  refine Go.of (fun t k => X3.ldc2Long hx hown (mvT hZ (hw _ (List.mem_of_getElem? (i := 11) rfl))) (g := (mkF m 15 #[.val (.long i0), .second, .val (.long i1), .second, .val (.ref b1), .unset, .unset, .unset, .unset, .unset, .unset, .unset, .unset, .unset, .unset, .unset, .unset, .unset, .unset, .unset, .unset] [(.long i0), (.ref b3), (.ref b3)])) rfl (hb hby at_15) t k) ?_
  show Go p e below Φ T3 (mkF m 18 #[.val (.long i0), .second, .val (.long i1), .second, .val (.ref b1), .unset, .unset, .unset, .unset, .unset, .unset, .unset, .unset, .unset, .unset, .unset, .unset, .unset, .unset, .unset, .unset] [(.long (-7046029254386353131 : Int64)), (.long i0), (.ref b3), (.ref b3)])
  refine Go.of (fun t k => XS.ladd X3.here hx rfl (hb hby at_18) rfl k) ?_
  show Go p e below Φ T3 (mkF m 19 #[.val (.long i0), .second, .val (.long i1), .second, .val (.ref b1), .unset, .unset, .unset, .unset, .unset, .unset, .unset, .unset, .unset, .unset, .unset, .unset, .unset, .unset, .unset, .unset] [(.long (i0 + (-7046029254386353131 : Int64))), (.ref b3), (.ref b3)])
  obtain ⟨_, _, ⟨T4, L4, k4, n4⟩, -, X4, ⟨Lc4, hQ4, l4, y4, z4⟩, st4⟩ := X3.specialBack hx (y := (⟨"com/example/signalbox/signalbox/game/SeededRandom", "<init>", "(J)V"⟩ : MethodName)) rfl hown (mvT hZ (hw _ (List.mem_of_getElem? (i := 3) rfl))) (mvT hZ (hw _ (List.mem_of_getElem? (i := 4) rfl))) (mvT hZ (hw _ (List.mem_of_getElem? (i := 5) rfl))) (by decide) (backOf (W := 1) (rm1 l Z a0 hw [] b3 (i0 + (-7046029254386353131 : Int64)) (0 : Int64) h3 n0 Z3 F_b3_state E_b3 g_b3) hZ (hw _ (List.mem_of_getElem? (i := 5) rfl)) (hw _ (List.mem_of_getElem? (i := 2) rfl)) (by decide) (by decide)) (g := (mkF m 19 #[.val (.long i0), .second, .val (.long i1), .second, .val (.ref b1), .unset, .unset, .unset, .unset, .unset, .unset, .unset, .unset, .unset, .unset, .unset, .unset, .unset, .unset, .unset, .unset] [(.long (i0 + (-7046029254386353131 : Int64))), (.ref b3), (.ref b3)])) rfl (by rw [hml]; rfl) (Steps.refl _) (a := b3) (argsL := [(.long (i0 + (-7046029254386353131 : Int64)))]) (rest := [(.ref b3)]) (lenOf own_pd0 rfl) rfl (by show 2 * 0 + _ ≤ _; exact Nat.le_of_eq rfl) (hb hby at_19) (fun _ _ => ⟨rfl, e3, (by decide : 2 + 0 ≤ _), (by decide : 2 + 0 ≤ _)⟩)
  dsimp only [Pt.U, Pt.locs, Pt.cells, Pt.slots] at X4 l4 y4 z4 st4 hQ4
  subst l4 y4 z4
  obtain ⟨rfl, N4q, K4q, c4_0, c4_1⟩ := hQ4
  have N4 := Fr.app N2 N4q
  obtain ⟨lc4, X4, N4⟩ : ∃ lc, Stand p l e room_1 s m #[(.long i0), (.long i1)] below meth c T4 lc 2 2 ∧ Fr n0 lc := ⟨_, X4, N4⟩
  have E_b1 := E_b1.keep K4q
  have F_b1_state := F_b1_state.keep K4q (ninS ne_b1_b3 nin0)
  have E_b3 := c4_0
  obtain ⟨y4_state, hy4_state⟩ : ∃ z : Int64, z = (i0 + (-7046029254386353131 : Int64)) := ⟨_, rfl⟩
  rw [← hy4_state] at c4_1
  have F_b3_state := c4_1
  have Z4 := Nat.le_trans Z3 K4q.1
  refine Go.tr st4 ?_
  show Go p e below Φ T4 (mkF m 22 #[.val (.long i0), .second, .val (.long i1), .second, .val (.ref b1), .unset, .unset, .unset, .unset, .unset, .unset, .unset, .unset, .unset, .unset, .unset, .unset, .unset, .unset, .unset, .unset] [(.ref b3)])
  refine Go.of (fun t k => XS.astore X4.here hx rfl (hb hby at_22) rfl rfl (l' := #[.val (.long i0), .second, .val (.long i1), .second, .val (.ref b1), .val (.ref b3), .unset, .unset, .unset, .unset, .unset, .unset, .unset, .unset, .unset, .unset, .unset, .unset, .unset, .unset, .unset]) rfl k) ?_
  show Go p e below Φ T4 (mkF m 24 #[.val (.long i0), .second, .val (.long i1), .second, .val (.ref b1), .val (.ref b3), .unset, .unset, .unset, .unset, .unset, .unset, .unset, .unset, .unset, .unset, .unset, .unset, .unset, .unset, .unset] [])
  obtain ⟨T5, h5, X5, e5, E5, A5, D5, -, st5⟩ := newO X4 hx hZ hown (hw _ (List.mem_of_getElem? (i := 0) rfl)) (hw _ (List.mem_of_getElem? (i := 1) rfl)) (hw _ (List.mem_of_getElem? (i := 2) rfl)) rfl (g := (mkF m 24 #[.val (.long i0), .second, .val (.long i1), .second, .val (.ref b1), .val (.ref b3), .unset, .unset, .unset, .unset, .unset, .unset, .unset, .unset, .unset, .unset, .unset, .unset, .unset, .unset, .unset] [])) rfl (hb hby at_24) (by decide) (by decide)
  obtain ⟨b5, g5⟩ : ∃ z, z = T4.heap.size := ⟨_, rfl⟩
  rw [← g5] at A5 D5 st5
  have ne_b1_b5 : b1 ≠ b5 := Nat.ne_of_lt (Nat.lt_of_lt_of_le E_b1.lt (Nat.le_of_eq g5.symm))
  have ne_b3_b5 : b3 ≠ b5 := Nat.ne_of_lt (Nat.lt_of_lt_of_le E_b3.lt (Nat.le_of_eq g5.symm))
  have g_b5 : n0 ≤ b5 := Nat.le_trans Z4 (Nat.le_of_eq g5.symm)
  have Z5 := Nat.le_trans Z4 E5.1
  have E_b1 := E_b1.ext E5
  have F_b1_state := F_b1_state.ext E5
  have E_b3 := E_b3.ext E5
  have F_b3_state := F_b3_state.ext E5
  have E_b5 := A5
  have F_b5_state : Fld Z h5 b5 "com/example/signalbox/signalbox/game/SeededRandom" "state" "J" (.long (0 : Int64)) := D5 (Or.inl (hw _ (List.mem_of_getElem? (i := 10) rfl))) (ty := .long) (by decide)
  refine Go.of st5 ?_
  show Go p e below Φ T5 (mkF m 27 #[.val (.long i0), .second, .val (.long i1), .second, .val (.ref b1), .val (.ref b3), .unset, .unset, .unset, .unset, .unset, .unset, .unset, .unset, .unset, .unset, .unset, .unset, .unset, .unset, .unset] [(.ref b5)])
  refine Go.of (fun t k => XS.dup X5.here hx rfl (hb hby at_27) rfl rfl k) ?_
  show Go p e below Φ T5 (mkF m 28 #[.val (.long i0), .second, .val (.long i1), .second, .val (.ref b1), .val (.ref b3), .unset, .unset, .unset, .unset, .unset, .unset, .unset, .unset, .unset, .unset, .unset, .unset, .unset, .unset, .unset] [(.ref b5), (.ref b5)])
  refine Go.of (fun t k => XS.lloadN X5.here hx rfl (hb hby at_28) rfl  k) ?_
  show Go p e below Φ T5 (mkF m 29 #[.val (.long i0), .second, .val (.long i1), .second, .val (.ref b1), .val (.ref b3), .unset, .unset, .unset, .unset, .unset, .unset, .unset, .unset, .unset, .unset, .unset, .unset, .unset, .unset, .unset] [(.long i1), (.ref b5), (.ref b5)])
  obtain ⟨_, _, ⟨T6, L6, k6, n6⟩, -, X6, ⟨Lc6, hQ6, l6, y6, z6⟩, st6⟩ := X5.specialBack hx (y := (⟨"com/example/signalbox/signalbox/game/SeededRandom", "<init>", "(J)V"⟩ : MethodName)) rfl hown (mvT hZ (hw _ (List.mem_of_getElem? (i := 3) rfl))) (mvT hZ (hw _ (List.mem_of_getElem? (i := 4) rfl))) (mvT hZ (hw _ (List.mem_of_getElem? (i := 5) rfl))) (by decide) (backOf (W := 1) (rm1 l Z a0 hw [] b5 i1 (0 : Int64) h5 n0 Z5 F_b5_state E_b5 g_b5) hZ (hw _ (List.mem_of_getElem? (i := 5) rfl)) (hw _ (List.mem_of_getElem? (i := 2) rfl)) (by decide) (by decide)) (g := (mkF m 29 #[.val (.long i0), .second, .val (.long i1), .second, .val (.ref b1), .val (.ref b3), .unset, .unset, .unset, .unset, .unset, .unset, .unset, .unset, .unset, .unset, .unset, .unset, .unset, .unset, .unset] [(.long i1), (.ref b5), (.ref b5)])) rfl (by rw [hml]; rfl) (Steps.refl _) (a := b5) (argsL := [(.long i1)]) (rest := [(.ref b5)]) (lenOf own_pd0 rfl) rfl (by show 2 * 0 + _ ≤ _; exact Nat.le_of_eq rfl) (hb hby at_29) (fun _ _ => ⟨rfl, e5, (by decide : 3 + 0 ≤ _), (by decide : 3 + 0 ≤ _)⟩)
  dsimp only [Pt.U, Pt.locs, Pt.cells, Pt.slots] at X6 l6 y6 z6 st6 hQ6
  subst l6 y6 z6
  obtain ⟨rfl, N6q, K6q, c6_0, c6_1⟩ := hQ6
  have N6 := Fr.app N4 N6q
  obtain ⟨lc6, X6, N6⟩ : ∃ lc, Stand p l e room_1 s m #[(.long i0), (.long i1)] below meth c T6 lc 3 3 ∧ Fr n0 lc := ⟨_, X6, N6⟩
  have E_b1 := E_b1.keep K6q
  have F_b1_state := F_b1_state.keep K6q (ninS ne_b1_b5 nin0)
  have E_b3 := E_b3.keep K6q
  have F_b3_state := F_b3_state.keep K6q (ninS ne_b3_b5 nin0)
  have E_b5 := c6_0
  have F_b5_state := c6_1
  have Z6 := Nat.le_trans Z5 K6q.1
  refine Go.tr st6 ?_
  show Go p e below Φ T6 (mkF m 32 #[.val (.long i0), .second, .val (.long i1), .second, .val (.ref b1), .val (.ref b3), .unset, .unset, .unset, .unset, .unset, .unset, .unset, .unset, .unset, .unset, .unset, .unset, .unset, .unset, .unset] [(.ref b5)])
  refine Go.of (fun t k => XS.astore X6.here hx rfl (hb hby at_32) rfl rfl (l' := #[.val (.long i0), .second, .val (.long i1), .second, .val (.ref b1), .val (.ref b3), .val (.ref b5), .unset, .unset, .unset, .unset, .unset, .unset, .unset, .unset, .unset, .unset, .unset, .unset, .unset, .unset]) rfl k) ?_
  show Go p e below Φ T6 (mkF m 34 #[.val (.long i0), .second, .val (.long i1), .second, .val (.ref b1), .val (.ref b3), .val (.ref b5), .unset, .unset, .unset, .unset, .unset, .unset, .unset, .unset, .unset, .unset, .unset, .unset, .unset, .unset] [])
  obtain ⟨T7, h7, X7, e7, E7, A7, D7, -, st7⟩ := newO X6 hx hZ hown (hw _ (List.mem_of_getElem? (i := 0) rfl)) (hw _ (List.mem_of_getElem? (i := 1) rfl)) (hw _ (List.mem_of_getElem? (i := 2) rfl)) rfl (g := (mkF m 34 #[.val (.long i0), .second, .val (.long i1), .second, .val (.ref b1), .val (.ref b3), .val (.ref b5), .unset, .unset, .unset, .unset, .unset, .unset, .unset, .unset, .unset, .unset, .unset, .unset, .unset, .unset] [])) rfl (hb hby at_34) (by decide) (by decide)
  obtain ⟨b7, g7⟩ : ∃ z, z = T6.heap.size := ⟨_, rfl⟩
  rw [← g7] at A7 D7 st7
  have ne_b1_b7 : b1 ≠ b7 := Nat.ne_of_lt (Nat.lt_of_lt_of_le E_b1.lt (Nat.le_of_eq g7.symm))
  have ne_b3_b7 : b3 ≠ b7 := Nat.ne_of_lt (Nat.lt_of_lt_of_le E_b3.lt (Nat.le_of_eq g7.symm))
  have ne_b5_b7 : b5 ≠ b7 := Nat.ne_of_lt (Nat.lt_of_lt_of_le E_b5.lt (Nat.le_of_eq g7.symm))
  have g_b7 : n0 ≤ b7 := Nat.le_trans Z6 (Nat.le_of_eq g7.symm)
  have Z7 := Nat.le_trans Z6 E7.1
  have E_b1 := E_b1.ext E7
  have F_b1_state := F_b1_state.ext E7
  have E_b3 := E_b3.ext E7
  have F_b3_state := F_b3_state.ext E7
  have E_b5 := E_b5.ext E7
  have F_b5_state := F_b5_state.ext E7
  have E_b7 := A7
  have F_b7_state : Fld Z h7 b7 "com/example/signalbox/signalbox/game/SeededRandom" "state" "J" (.long (0 : Int64)) := D7 (Or.inl (hw _ (List.mem_of_getElem? (i := 10) rfl))) (ty := .long) (by decide)
  refine Go.of st7 ?_
  show Go p e below Φ T7 (mkF m 37 #[.val (.long i0), .second, .val (.long i1), .second, .val (.ref b1), .val (.ref b3), .val (.ref b5), .unset, .unset, .unset, .unset, .unset, .unset, .unset, .unset, .unset, .unset, .unset, .unset, .unset, .unset] [(.ref b7)])
  refine Go.of (fun t k => XS.dup X7.here hx rfl (hb hby at_37) rfl rfl k) ?_
  show Go p e below Φ T7 (mkF m 38 #[.val (.long i0), .second, .val (.long i1), .second, .val (.ref b1), .val (.ref b3), .val (.ref b5), .unset, .unset, .unset, .unset, .unset, .unset, .unset, .unset, .unset, .unset, .unset, .unset, .unset, .unset] [(.ref b7), (.ref b7)])
  refine Go.of (fun t k => XS.lconst X7.here hx rfl (hb hby at_38) k) ?_
  show Go p e below Φ T7 (mkF m 39 #[.val (.long i0), .second, .val (.long i1), .second, .val (.ref b1), .val (.ref b3), .val (.ref b5), .unset, .unset, .unset, .unset, .unset, .unset, .unset, .unset, .unset, .unset, .unset, .unset, .unset, .unset] [(.long (0 : Int64)), (.ref b7), (.ref b7)])
  obtain ⟨_, _, ⟨T8, L8, k8, n8⟩, -, X8, ⟨Lc8, hQ8, l8, y8, z8⟩, st8⟩ := X7.specialBack hx (y := (⟨"com/example/signalbox/signalbox/game/SeededRandom", "<init>", "(J)V"⟩ : MethodName)) rfl hown (mvT hZ (hw _ (List.mem_of_getElem? (i := 3) rfl))) (mvT hZ (hw _ (List.mem_of_getElem? (i := 4) rfl))) (mvT hZ (hw _ (List.mem_of_getElem? (i := 5) rfl))) (by decide) (backOf (W := 1) (rm1 l Z a0 hw [] b7 (0 : Int64) (0 : Int64) h7 n0 Z7 F_b7_state E_b7 g_b7) hZ (hw _ (List.mem_of_getElem? (i := 5) rfl)) (hw _ (List.mem_of_getElem? (i := 2) rfl)) (by decide) (by decide)) (g := (mkF m 39 #[.val (.long i0), .second, .val (.long i1), .second, .val (.ref b1), .val (.ref b3), .val (.ref b5), .unset, .unset, .unset, .unset, .unset, .unset, .unset, .unset, .unset, .unset, .unset, .unset, .unset, .unset] [(.long (0 : Int64)), (.ref b7), (.ref b7)])) rfl (by rw [hml]; rfl) (Steps.refl _) (a := b7) (argsL := [(.long (0 : Int64))]) (rest := [(.ref b7)]) (lenOf own_pd0 rfl) rfl (by show 2 * 0 + _ ≤ _; exact Nat.le_of_eq rfl) (hb hby at_39) (fun _ _ => ⟨rfl, e7, (by decide : 4 + 0 ≤ _), (by decide : 4 + 0 ≤ _)⟩)
  dsimp only [Pt.U, Pt.locs, Pt.cells, Pt.slots] at X8 l8 y8 z8 st8 hQ8
  subst l8 y8 z8
  obtain ⟨rfl, N8q, K8q, c8_0, c8_1⟩ := hQ8
  have N8 := Fr.app N6 N8q
  obtain ⟨lc8, X8, N8⟩ : ∃ lc, Stand p l e room_1 s m #[(.long i0), (.long i1)] below meth c T8 lc 4 4 ∧ Fr n0 lc := ⟨_, X8, N8⟩
  have E_b1 := E_b1.keep K8q
  have F_b1_state := F_b1_state.keep K8q (ninS ne_b1_b7 nin0)
  have E_b3 := E_b3.keep K8q
  have F_b3_state := F_b3_state.keep K8q (ninS ne_b3_b7 nin0)
  have E_b5 := E_b5.keep K8q
  have F_b5_state := F_b5_state.keep K8q (ninS ne_b5_b7 nin0)
  have E_b7 := c8_0
  have F_b7_state := c8_1
  have Z8 := Nat.le_trans Z7 K8q.1
  refine Go.tr st8 ?_
  show Go p e below Φ T8 (mkF m 42 #[.val (.long i0), .second, .val (.long i1), .second, .val (.ref b1), .val (.ref b3), .val (.ref b5), .unset, .unset, .unset, .unset, .unset, .unset, .unset, .unset, .unset, .unset, .unset, .unset, .unset, .unset] [(.ref b7)])
  refine Go.of (fun t k => XS.astore X8.here hx rfl (hb hby at_42) rfl rfl (l' := #[.val (.long i0), .second, .val (.long i1), .second, .val (.ref b1), .val (.ref b3), .val (.ref b5), .val (.ref b7), .unset, .unset, .unset, .unset, .unset, .unset, .unset, .unset, .unset, .unset, .unset, .unset, .unset]) rfl k) ?_
  show Go p e below Φ T8 (mkF m 44 #[.val (.long i0), .second, .val (.long i1), .second, .val (.ref b1), .val (.ref b3), .val (.ref b5), .val (.ref b7), .unset, .unset, .unset, .unset, .unset, .unset, .unset, .unset, .unset, .unset, .unset, .unset, .unset] [])
  refine Go.of (fun t k => XS.aload X8.here hx rfl (hb hby at_44) rfl rfl  k) ?_
  show Go p e below Φ T8 (mkF m 46 #[.val (.long i0), .second, .val (.long i1), .second, .val (.ref b1), .val (.ref b3), .val (.ref b5), .val (.ref b7), .unset, .unset, .unset, .unset, .unset, .unset, .unset, .unset, .unset, .unset, .unset, .unset, .unset] [(.ref b1)])
  obtain ⟨cq9, kq9, q9a, q9b, q9c⟩ := isOf hZ rfl E_b1
  obtain ⟨_, _, ⟨T9, L9, k9, n9⟩, -, X9, ⟨Lc9, hQ9, l9, y9, z9⟩, st9⟩ := X8.virtualBack hx (y := (⟨"com/example/signalbox/signalbox/game/SeededRandom", "nextLong", "()J"⟩ : MethodName)) (z := (⟨"com/example/signalbox/signalbox/game/SeededRandom", "nextLong", "()J"⟩ : MethodName)) hown (mvT hZ (hw _ (List.mem_of_getElem? (i := 12) rfl))) (mvT hZ (hw _ (List.mem_of_getElem? (i := 13) rfl))) (notFace_of_selects (args := #[]) (mvT hZ (hw _ (List.mem_of_getElem? (i := 15) rfl)))) (mvT hZ (hw _ (List.mem_of_getElem? (i := 15) rfl))) (mvT hZ (hw _ (List.mem_of_getElem? (i := 14) rfl))) (by decide) (backOf (W := 0) (rm3 l Z a0 hw [] b1 i0 T8.heap n0 Z8 F_b1_state E_b1 g_b1) hZ (hw _ (List.mem_of_getElem? (i := 16) rfl)) (hw _ (List.mem_of_getElem? (i := 2) rfl)) (by decide) (by decide)) q9a q9c (g := (mkF m 46 #[.val (.long i0), .second, .val (.long i1), .second, .val (.ref b1), .val (.ref b3), .val (.ref b5), .val (.ref b7), .unset, .unset, .unset, .unset, .unset, .unset, .unset, .unset, .unset, .unset, .unset, .unset, .unset] [(.ref b1)])) rfl (by rw [hml]; rfl) (Steps.refl _) (argsL := []) (rest := []) (lenOf own_pd1 rfl) rfl (by show 2 * 0 + _ ≤ _; exact Nat.le_of_eq rfl) (hb hby at_46) (fun _ _ => ⟨rfl, rfl, (by decide : 4 + 0 ≤ _), (by decide : 4 + 0 ≤ _)⟩)
  dsimp only [Pt.U, Pt.locs, Pt.cells, Pt.slots] at X9 l9 y9 z9 st9 hQ9
  subst l9 y9 z9
  obtain ⟨rfl, N9q, K9q, c9_0, c9_1⟩ := hQ9
  have N9 := Fr.app N8 N9q
  obtain ⟨lc9, X9, N9⟩ : ∃ lc, Stand p l e room_1 s m #[(.long i0), (.long i1)] below meth c T9 lc 4 4 ∧ Fr n0 lc := ⟨_, X9, N9⟩
  have E_b3 := E_b3.keep K9q
  have F_b3_state := F_b3_state.keep K9q (ninS (Ne.symm ne_b1_b3) nin0)
  have E_b5 := E_b5.keep K9q
  have F_b5_state := F_b5_state.keep K9q (ninS (Ne.symm ne_b1_b5) nin0)
  have E_b7 := E_b7.keep K9q
  have F_b7_state := F_b7_state.keep K9q (ninS (Ne.symm ne_b1_b7) nin0)
  have E_b1 := c9_0
  obtain ⟨y9_state, hy9_state⟩ : ∃ z : Int64, z = (i0 + (-7046029254386353131 : Int64)) := ⟨_, rfl⟩
  rw [← hy9_state] at c9_1
  have F_b1_state := c9_1
  have Z9 := Nat.le_trans Z8 K9q.1
  refine Go.tr st9 ?_
  show Go p e below Φ T9 (mkF m 49 #[.val (.long i0), .second, .val (.long i1), .second, .val (.ref b1), .val (.ref b3), .val (.ref b5), .val (.ref b7), .unset, .unset, .unset, .unset, .unset, .unset, .unset, .unset, .unset, .unset, .unset, .unset, .unset] [(.long (own_mix i0))])
  obtain ⟨x49, hx49⟩ : ∃ z : Int64, z = (own_mix i0) := ⟨_, rfl⟩
  rw [← hx49]
  refine Go.of (fun t k => XS.lstore X9.here hx rfl (hb hby at_49) rfl (l' := #[.val (.long i0), .second, .val (.long i1), .second, .val (.ref b1), .val (.ref b3), .val (.ref b5), .val (.ref b7), .val (.long x49), .second, .unset, .unset, .unset, .unset, .unset, .unset, .unset, .unset, .unset, .unset, .unset]) rfl k) ?_
  show Go p e below Φ T9 (mkF m 51 #[.val (.long i0), .second, .val (.long i1), .second, .val (.ref b1), .val (.ref b3), .val (.ref b5), .val (.ref b7), .val (.long x49), .second, .unset, .unset, .unset, .unset, .unset, .unset, .unset, .unset, .unset, .unset, .unset] [])
  refine Go.of (fun t k => XS.aload X9.here hx rfl (hb hby at_51) rfl rfl  k) ?_
  show Go p e below Φ T9 (mkF m 53 #[.val (.long i0), .second, .val (.long i1), .second, .val (.ref b1), .val (.ref b3), .val (.ref b5), .val (.ref b7), .val (.long x49), .second, .unset, .unset, .unset, .unset, .unset, .unset, .unset, .unset, .unset, .unset, .unset] [(.ref b1)])
  obtain ⟨cq10, kq10, q10a, q10b, q10c⟩ := isOf hZ rfl E_b1
  obtain ⟨_, _, ⟨T10, L10, k10, n10⟩, -, X10, ⟨Lc10, hQ10, l10, y10, z10⟩, st10⟩ := X9.virtualBack hx (y := (⟨"com/example/signalbox/signalbox/game/SeededRandom", "nextLong", "()J"⟩ : MethodName)) (z := (⟨"com/example/signalbox/signalbox/game/SeededRandom", "nextLong", "()J"⟩ : MethodName)) hown (mvT hZ (hw _ (List.mem_of_getElem? (i := 12) rfl))) (mvT hZ (hw _ (List.mem_of_getElem? (i := 13) rfl))) (notFace_of_selects (args := #[]) (mvT hZ (hw _ (List.mem_of_getElem? (i := 15) rfl)))) (mvT hZ (hw _ (List.mem_of_getElem? (i := 15) rfl))) (mvT hZ (hw _ (List.mem_of_getElem? (i := 14) rfl))) (by decide) (backOf (W := 0) (rm3 l Z a0 hw [] b1 y9_state T9.heap n0 Z9 F_b1_state E_b1 g_b1) hZ (hw _ (List.mem_of_getElem? (i := 16) rfl)) (hw _ (List.mem_of_getElem? (i := 2) rfl)) (by decide) (by decide)) q10a q10c (g := (mkF m 53 #[.val (.long i0), .second, .val (.long i1), .second, .val (.ref b1), .val (.ref b3), .val (.ref b5), .val (.ref b7), .val (.long x49), .second, .unset, .unset, .unset, .unset, .unset, .unset, .unset, .unset, .unset, .unset, .unset] [(.ref b1)])) rfl (by rw [hml]; rfl) (Steps.refl _) (argsL := []) (rest := []) (lenOf own_pd1 rfl) rfl (by show 2 * 0 + _ ≤ _; exact Nat.le_of_eq rfl) (hb hby at_53) (fun _ _ => ⟨rfl, rfl, (by decide : 4 + 0 ≤ _), (by decide : 4 + 0 ≤ _)⟩)
  dsimp only [Pt.U, Pt.locs, Pt.cells, Pt.slots] at X10 l10 y10 z10 st10 hQ10
  subst l10 y10 z10
  obtain ⟨rfl, N10q, K10q, c10_0, c10_1⟩ := hQ10
  have N10 := Fr.app N9 N10q
  obtain ⟨lc10, X10, N10⟩ : ∃ lc, Stand p l e room_1 s m #[(.long i0), (.long i1)] below meth c T10 lc 4 4 ∧ Fr n0 lc := ⟨_, X10, N10⟩
  have E_b3 := E_b3.keep K10q
  have F_b3_state := F_b3_state.keep K10q (ninS (Ne.symm ne_b1_b3) nin0)
  have E_b5 := E_b5.keep K10q
  have F_b5_state := F_b5_state.keep K10q (ninS (Ne.symm ne_b1_b5) nin0)
  have E_b7 := E_b7.keep K10q
  have F_b7_state := F_b7_state.keep K10q (ninS (Ne.symm ne_b1_b7) nin0)
  have E_b1 := c10_0
  obtain ⟨y10_state, hy10_state⟩ : ∃ z : Int64, z = (y9_state + (-7046029254386353131 : Int64)) := ⟨_, rfl⟩
  rw [← hy10_state] at c10_1
  have F_b1_state := c10_1
  have Z10 := Nat.le_trans Z9 K10q.1
  refine Go.tr st10 ?_
  show Go p e below Φ T10 (mkF m 56 #[.val (.long i0), .second, .val (.long i1), .second, .val (.ref b1), .val (.ref b3), .val (.ref b5), .val (.ref b7), .val (.long x49), .second, .unset, .unset, .unset, .unset, .unset, .unset, .unset, .unset, .unset, .unset, .unset] [(.long (own_mix y9_state))])
  obtain ⟨x56, hx56⟩ : ∃ z : Int64, z = (own_mix y9_state) := ⟨_, rfl⟩
  rw [← hx56]
  refine Go.of (fun t k => XS.lstore X10.here hx rfl (hb hby at_56) rfl (l' := #[.val (.long i0), .second, .val (.long i1), .second, .val (.ref b1), .val (.ref b3), .val (.ref b5), .val (.ref b7), .val (.long x49), .second, .val (.long x56), .second, .unset, .unset, .unset, .unset, .unset, .unset, .unset, .unset, .unset]) rfl k) ?_
  show Go p e below Φ T10 (mkF m 58 #[.val (.long i0), .second, .val (.long i1), .second, .val (.ref b1), .val (.ref b3), .val (.ref b5), .val (.ref b7), .val (.long x49), .second, .val (.long x56), .second, .unset, .unset, .unset, .unset, .unset, .unset, .unset, .unset, .unset] [])
  refine Go.of (fun t k => XS.aload X10.here hx rfl (hb hby at_58) rfl rfl  k) ?_
  show Go p e below Φ T10 (mkF m 60 #[.val (.long i0), .second, .val (.long i1), .second, .val (.ref b1), .val (.ref b3), .val (.ref b5), .val (.ref b7), .val (.long x49), .second, .val (.long x56), .second, .unset, .unset, .unset, .unset, .unset, .unset, .unset, .unset, .unset] [(.ref b3)])
  obtain ⟨cq11, kq11, q11a, q11b, q11c⟩ := isOf hZ rfl E_b3
  obtain ⟨_, _, ⟨T11, L11, k11, n11⟩, -, X11, ⟨Lc11, hQ11, l11, y11, z11⟩, st11⟩ := X10.virtualBack hx (y := (⟨"com/example/signalbox/signalbox/game/SeededRandom", "nextLong", "()J"⟩ : MethodName)) (z := (⟨"com/example/signalbox/signalbox/game/SeededRandom", "nextLong", "()J"⟩ : MethodName)) hown (mvT hZ (hw _ (List.mem_of_getElem? (i := 12) rfl))) (mvT hZ (hw _ (List.mem_of_getElem? (i := 13) rfl))) (notFace_of_selects (args := #[]) (mvT hZ (hw _ (List.mem_of_getElem? (i := 15) rfl)))) (mvT hZ (hw _ (List.mem_of_getElem? (i := 15) rfl))) (mvT hZ (hw _ (List.mem_of_getElem? (i := 14) rfl))) (by decide) (backOf (W := 0) (rm3 l Z a0 hw [] b3 y4_state T10.heap n0 Z10 F_b3_state E_b3 g_b3) hZ (hw _ (List.mem_of_getElem? (i := 16) rfl)) (hw _ (List.mem_of_getElem? (i := 2) rfl)) (by decide) (by decide)) q11a q11c (g := (mkF m 60 #[.val (.long i0), .second, .val (.long i1), .second, .val (.ref b1), .val (.ref b3), .val (.ref b5), .val (.ref b7), .val (.long x49), .second, .val (.long x56), .second, .unset, .unset, .unset, .unset, .unset, .unset, .unset, .unset, .unset] [(.ref b3)])) rfl (by rw [hml]; rfl) (Steps.refl _) (argsL := []) (rest := []) (lenOf own_pd1 rfl) rfl (by show 2 * 0 + _ ≤ _; exact Nat.le_of_eq rfl) (hb hby at_60) (fun _ _ => ⟨rfl, rfl, (by decide : 4 + 0 ≤ _), (by decide : 4 + 0 ≤ _)⟩)
  dsimp only [Pt.U, Pt.locs, Pt.cells, Pt.slots] at X11 l11 y11 z11 st11 hQ11
  subst l11 y11 z11
  obtain ⟨rfl, N11q, K11q, c11_0, c11_1⟩ := hQ11
  have N11 := Fr.app N10 N11q
  obtain ⟨lc11, X11, N11⟩ : ∃ lc, Stand p l e room_1 s m #[(.long i0), (.long i1)] below meth c T11 lc 4 4 ∧ Fr n0 lc := ⟨_, X11, N11⟩
  have E_b1 := E_b1.keep K11q
  have F_b1_state := F_b1_state.keep K11q (ninS ne_b1_b3 nin0)
  have E_b5 := E_b5.keep K11q
  have F_b5_state := F_b5_state.keep K11q (ninS (Ne.symm ne_b3_b5) nin0)
  have E_b7 := E_b7.keep K11q
  have F_b7_state := F_b7_state.keep K11q (ninS (Ne.symm ne_b3_b7) nin0)
  have E_b3 := c11_0
  obtain ⟨y11_state, hy11_state⟩ : ∃ z : Int64, z = (y4_state + (-7046029254386353131 : Int64)) := ⟨_, rfl⟩
  rw [← hy11_state] at c11_1
  have F_b3_state := c11_1
  have Z11 := Nat.le_trans Z10 K11q.1
  refine Go.tr st11 ?_
  show Go p e below Φ T11 (mkF m 63 #[.val (.long i0), .second, .val (.long i1), .second, .val (.ref b1), .val (.ref b3), .val (.ref b5), .val (.ref b7), .val (.long x49), .second, .val (.long x56), .second, .unset, .unset, .unset, .unset, .unset, .unset, .unset, .unset, .unset] [(.long (own_mix y4_state))])
  obtain ⟨x63, hx63⟩ : ∃ z : Int64, z = (own_mix y4_state) := ⟨_, rfl⟩
  rw [← hx63]
  refine Go.of (fun t k => XS.lstore X11.here hx rfl (hb hby at_63) rfl (l' := #[.val (.long i0), .second, .val (.long i1), .second, .val (.ref b1), .val (.ref b3), .val (.ref b5), .val (.ref b7), .val (.long x49), .second, .val (.long x56), .second, .val (.long x63), .second, .unset, .unset, .unset, .unset, .unset, .unset, .unset]) rfl k) ?_
  show Go p e below Φ T11 (mkF m 65 #[.val (.long i0), .second, .val (.long i1), .second, .val (.ref b1), .val (.ref b3), .val (.ref b5), .val (.ref b7), .val (.long x49), .second, .val (.long x56), .second, .val (.long x63), .second, .unset, .unset, .unset, .unset, .unset, .unset, .unset] [])
  refine Go.of (fun t k => XS.aload X11.here hx rfl (hb hby at_65) rfl rfl  k) ?_
  show Go p e below Φ T11 (mkF m 67 #[.val (.long i0), .second, .val (.long i1), .second, .val (.ref b1), .val (.ref b3), .val (.ref b5), .val (.ref b7), .val (.long x49), .second, .val (.long x56), .second, .val (.long x63), .second, .unset, .unset, .unset, .unset, .unset, .unset, .unset] [(.ref b5)])
  obtain ⟨cq12, kq12, q12a, q12b, q12c⟩ := isOf hZ rfl E_b5
  obtain ⟨_, _, ⟨T12, L12, k12, n12⟩, -, X12, ⟨Lc12, hQ12, l12, y12, z12⟩, st12⟩ := X11.virtualBack hx (y := (⟨"com/example/signalbox/signalbox/game/SeededRandom", "nextLong", "()J"⟩ : MethodName)) (z := (⟨"com/example/signalbox/signalbox/game/SeededRandom", "nextLong", "()J"⟩ : MethodName)) hown (mvT hZ (hw _ (List.mem_of_getElem? (i := 12) rfl))) (mvT hZ (hw _ (List.mem_of_getElem? (i := 13) rfl))) (notFace_of_selects (args := #[]) (mvT hZ (hw _ (List.mem_of_getElem? (i := 15) rfl)))) (mvT hZ (hw _ (List.mem_of_getElem? (i := 15) rfl))) (mvT hZ (hw _ (List.mem_of_getElem? (i := 14) rfl))) (by decide) (backOf (W := 0) (rm3 l Z a0 hw [] b5 i1 T11.heap n0 Z11 F_b5_state E_b5 g_b5) hZ (hw _ (List.mem_of_getElem? (i := 16) rfl)) (hw _ (List.mem_of_getElem? (i := 2) rfl)) (by decide) (by decide)) q12a q12c (g := (mkF m 67 #[.val (.long i0), .second, .val (.long i1), .second, .val (.ref b1), .val (.ref b3), .val (.ref b5), .val (.ref b7), .val (.long x49), .second, .val (.long x56), .second, .val (.long x63), .second, .unset, .unset, .unset, .unset, .unset, .unset, .unset] [(.ref b5)])) rfl (by rw [hml]; rfl) (Steps.refl _) (argsL := []) (rest := []) (lenOf own_pd1 rfl) rfl (by show 2 * 0 + _ ≤ _; exact Nat.le_of_eq rfl) (hb hby at_67) (fun _ _ => ⟨rfl, rfl, (by decide : 4 + 0 ≤ _), (by decide : 4 + 0 ≤ _)⟩)
  dsimp only [Pt.U, Pt.locs, Pt.cells, Pt.slots] at X12 l12 y12 z12 st12 hQ12
  subst l12 y12 z12
  obtain ⟨rfl, N12q, K12q, c12_0, c12_1⟩ := hQ12
  have N12 := Fr.app N11 N12q
  obtain ⟨lc12, X12, N12⟩ : ∃ lc, Stand p l e room_1 s m #[(.long i0), (.long i1)] below meth c T12 lc 4 4 ∧ Fr n0 lc := ⟨_, X12, N12⟩
  have E_b1 := E_b1.keep K12q
  have F_b1_state := F_b1_state.keep K12q (ninS ne_b1_b5 nin0)
  have E_b3 := E_b3.keep K12q
  have F_b3_state := F_b3_state.keep K12q (ninS ne_b3_b5 nin0)
  have E_b7 := E_b7.keep K12q
  have F_b7_state := F_b7_state.keep K12q (ninS (Ne.symm ne_b5_b7) nin0)
  have E_b5 := c12_0
  obtain ⟨y12_state, hy12_state⟩ : ∃ z : Int64, z = (i1 + (-7046029254386353131 : Int64)) := ⟨_, rfl⟩
  rw [← hy12_state] at c12_1
  have F_b5_state := c12_1
  have Z12 := Nat.le_trans Z11 K12q.1
  refine Go.tr st12 ?_
  show Go p e below Φ T12 (mkF m 70 #[.val (.long i0), .second, .val (.long i1), .second, .val (.ref b1), .val (.ref b3), .val (.ref b5), .val (.ref b7), .val (.long x49), .second, .val (.long x56), .second, .val (.long x63), .second, .unset, .unset, .unset, .unset, .unset, .unset, .unset] [(.long (own_mix i1))])
  obtain ⟨x70, hx70⟩ : ∃ z : Int64, z = (own_mix i1) := ⟨_, rfl⟩
  rw [← hx70]
  refine Go.of (fun t k => XS.lstore X12.here hx rfl (hb hby at_70) rfl (l' := #[.val (.long i0), .second, .val (.long i1), .second, .val (.ref b1), .val (.ref b3), .val (.ref b5), .val (.ref b7), .val (.long x49), .second, .val (.long x56), .second, .val (.long x63), .second, .val (.long x70), .second, .unset, .unset, .unset, .unset, .unset]) rfl k) ?_
  show Go p e below Φ T12 (mkF m 72 #[.val (.long i0), .second, .val (.long i1), .second, .val (.ref b1), .val (.ref b3), .val (.ref b5), .val (.ref b7), .val (.long x49), .second, .val (.long x56), .second, .val (.long x63), .second, .val (.long x70), .second, .unset, .unset, .unset, .unset, .unset] [])
  refine Go.of (fun t k => XS.aload X12.here hx rfl (hb hby at_72) rfl rfl  k) ?_
  show Go p e below Φ T12 (mkF m 74 #[.val (.long i0), .second, .val (.long i1), .second, .val (.ref b1), .val (.ref b3), .val (.ref b5), .val (.ref b7), .val (.long x49), .second, .val (.long x56), .second, .val (.long x63), .second, .val (.long x70), .second, .unset, .unset, .unset, .unset, .unset] [(.ref b7)])
  obtain ⟨cq13, kq13, q13a, q13b, q13c⟩ := isOf hZ rfl E_b7
  obtain ⟨_, _, ⟨T13, L13, k13, n13⟩, -, X13, ⟨Lc13, hQ13, l13, y13, z13⟩, st13⟩ := X12.virtualBack hx (y := (⟨"com/example/signalbox/signalbox/game/SeededRandom", "nextLong", "()J"⟩ : MethodName)) (z := (⟨"com/example/signalbox/signalbox/game/SeededRandom", "nextLong", "()J"⟩ : MethodName)) hown (mvT hZ (hw _ (List.mem_of_getElem? (i := 12) rfl))) (mvT hZ (hw _ (List.mem_of_getElem? (i := 13) rfl))) (notFace_of_selects (args := #[]) (mvT hZ (hw _ (List.mem_of_getElem? (i := 15) rfl)))) (mvT hZ (hw _ (List.mem_of_getElem? (i := 15) rfl))) (mvT hZ (hw _ (List.mem_of_getElem? (i := 14) rfl))) (by decide) (backOf (W := 0) (rm3 l Z a0 hw [] b7 (0 : Int64) T12.heap n0 Z12 F_b7_state E_b7 g_b7) hZ (hw _ (List.mem_of_getElem? (i := 16) rfl)) (hw _ (List.mem_of_getElem? (i := 2) rfl)) (by decide) (by decide)) q13a q13c (g := (mkF m 74 #[.val (.long i0), .second, .val (.long i1), .second, .val (.ref b1), .val (.ref b3), .val (.ref b5), .val (.ref b7), .val (.long x49), .second, .val (.long x56), .second, .val (.long x63), .second, .val (.long x70), .second, .unset, .unset, .unset, .unset, .unset] [(.ref b7)])) rfl (by rw [hml]; rfl) (Steps.refl _) (argsL := []) (rest := []) (lenOf own_pd1 rfl) rfl (by show 2 * 0 + _ ≤ _; exact Nat.le_of_eq rfl) (hb hby at_74) (fun _ _ => ⟨rfl, rfl, (by decide : 4 + 0 ≤ _), (by decide : 4 + 0 ≤ _)⟩)
  dsimp only [Pt.U, Pt.locs, Pt.cells, Pt.slots] at X13 l13 y13 z13 st13 hQ13
  subst l13 y13 z13
  obtain ⟨rfl, N13q, K13q, c13_0, c13_1⟩ := hQ13
  have N13 := Fr.app N12 N13q
  obtain ⟨lc13, X13, N13⟩ : ∃ lc, Stand p l e room_1 s m #[(.long i0), (.long i1)] below meth c T13 lc 4 4 ∧ Fr n0 lc := ⟨_, X13, N13⟩
  have E_b1 := E_b1.keep K13q
  have F_b1_state := F_b1_state.keep K13q (ninS ne_b1_b7 nin0)
  have E_b3 := E_b3.keep K13q
  have F_b3_state := F_b3_state.keep K13q (ninS ne_b3_b7 nin0)
  have E_b5 := E_b5.keep K13q
  have F_b5_state := F_b5_state.keep K13q (ninS ne_b5_b7 nin0)
  have E_b7 := c13_0
  obtain ⟨y13_state, hy13_state⟩ : ∃ z : Int64, z = ((0 : Int64) + (-7046029254386353131 : Int64)) := ⟨_, rfl⟩
  rw [← hy13_state] at c13_1
  have F_b7_state := c13_1
  have Z13 := Nat.le_trans Z12 K13q.1
  refine Go.tr st13 ?_
  show Go p e below Φ T13 (mkF m 77 #[.val (.long i0), .second, .val (.long i1), .second, .val (.ref b1), .val (.ref b3), .val (.ref b5), .val (.ref b7), .val (.long x49), .second, .val (.long x56), .second, .val (.long x63), .second, .val (.long x70), .second, .unset, .unset, .unset, .unset, .unset] [(.long (own_mix (0 : Int64)))])
  obtain ⟨x77, hx77⟩ : ∃ z : Int64, z = (own_mix (0 : Int64)) := ⟨_, rfl⟩
  rw [← hx77]
  refine Go.of (fun t k => XS.lstore X13.here hx rfl (hb hby at_77) rfl (l' := #[.val (.long i0), .second, .val (.long i1), .second, .val (.ref b1), .val (.ref b3), .val (.ref b5), .val (.ref b7), .val (.long x49), .second, .val (.long x56), .second, .val (.long x63), .second, .val (.long x70), .second, .val (.long x77), .second, .unset, .unset, .unset]) rfl k) ?_
  show Go p e below Φ T13 (mkF m 79 #[.val (.long i0), .second, .val (.long i1), .second, .val (.ref b1), .val (.ref b3), .val (.ref b5), .val (.ref b7), .val (.long x49), .second, .val (.long x56), .second, .val (.long x63), .second, .val (.long x70), .second, .val (.long x77), .second, .unset, .unset, .unset] [])
  refine Go.of (fun t k => XS.lload X13.here hx rfl (hb hby at_79) rfl  k) ?_
  show Go p e below Φ T13 (mkF m 81 #[.val (.long i0), .second, .val (.long i1), .second, .val (.ref b1), .val (.ref b3), .val (.ref b5), .val (.ref b7), .val (.long x49), .second, .val (.long x56), .second, .val (.long x63), .second, .val (.long x70), .second, .val (.long x77), .second, .unset, .unset, .unset] [(.long x56)])
  refine Go.of (fun t k => XS.lload X13.here hx rfl (hb hby at_81) rfl  k) ?_
  show Go p e below Φ T13 (mkF m 83 #[.val (.long i0), .second, .val (.long i1), .second, .val (.ref b1), .val (.ref b3), .val (.ref b5), .val (.ref b7), .val (.long x49), .second, .val (.long x56), .second, .val (.long x63), .second, .val (.long x70), .second, .val (.long x77), .second, .unset, .unset, .unset] [(.long x63), (.long x56)])
  refine Go.of (fun t k => XT.lcmp X13.here hx rfl (hb hby at_83) rfl k) ?_
  show Go p e below Φ T13 (mkF m 84 #[.val (.long i0), .second, .val (.long i1), .second, .val (.ref b1), .val (.ref b3), .val (.ref b5), .val (.ref b7), .val (.long x49), .second, .val (.long x56), .second, .val (.long x63), .second, .val (.long x70), .second, .val (.long x77), .second, .unset, .unset, .unset] [(.int (XT.cmpL x56 x63))])
  suffices j92_14 :  ∀ v92 : Int32, v92 = (if x56 = x63 then (1 : Int32) else (0 : Int32)) → Go p e below Φ T13 (mkF m 92 #[.val (.long i0), .second, .val (.long i1), .second, .val (.ref b1), .val (.ref b3), .val (.ref b5), .val (.ref b7), .val (.long x49), .second, .val (.long x56), .second, .val (.long x63), .second, .val (.long x70), .second, .val (.long x77), .second, .unset, .unset, .unset] [(.int v92)]) by
    by_cases hc84 : x56 = x63
    · refine Go.of (fun t k => XS.ifNo X13.here hx rfl (hb hby at_84) rfl (XT.ll_ne_f hc84) k) ?_
      show Go p e below Φ T13 (mkF m 87 #[.val (.long i0), .second, .val (.long i1), .second, .val (.ref b1), .val (.ref b3), .val (.ref b5), .val (.ref b7), .val (.long x49), .second, .val (.long x56), .second, .val (.long x63), .second, .val (.long x70), .second, .val (.long x77), .second, .unset, .unset, .unset] [])
      refine Go.of (fun t k => XS.iconst X13.here hx rfl (hb hby at_87) k) ?_
      show Go p e below Φ T13 (mkF m 88 #[.val (.long i0), .second, .val (.long i1), .second, .val (.ref b1), .val (.ref b3), .val (.ref b5), .val (.ref b7), .val (.long x49), .second, .val (.long x56), .second, .val (.long x63), .second, .val (.long x70), .second, .val (.long x77), .second, .unset, .unset, .unset] [(.int (1 : Int32))])
      refine Go.of (fun t k => XS.goto X13.here hx rfl (pc0 := 88) (pc' := 92) rfl (hb hby at_88) (by decide) (by decide) k) ?_
      show Go p e below Φ T13 (mkF m 92 #[.val (.long i0), .second, .val (.long i1), .second, .val (.ref b1), .val (.ref b3), .val (.ref b5), .val (.ref b7), .val (.long x49), .second, .val (.long x56), .second, .val (.long x63), .second, .val (.long x70), .second, .val (.long x77), .second, .unset, .unset, .unset] [(.int (1 : Int32))])
      exact j92_14 _ (by rw [if_pos hc84])
    · refine Go.of (fun t k => XS.ifYes X13.here hx rfl (pc0 := 84) (pc' := 91) rfl (hb hby at_84) rfl (XT.ll_ne_t hc84) (by decide) (by decide) k) ?_
      show Go p e below Φ T13 (mkF m 91 #[.val (.long i0), .second, .val (.long i1), .second, .val (.ref b1), .val (.ref b3), .val (.ref b5), .val (.ref b7), .val (.long x49), .second, .val (.long x56), .second, .val (.long x63), .second, .val (.long x70), .second, .val (.long x77), .second, .unset, .unset, .unset] [])
      refine Go.of (fun t k => XS.iconst X13.here hx rfl (hb hby at_91) k) ?_
      show Go p e below Φ T13 (mkF m 92 #[.val (.long i0), .second, .val (.long i1), .second, .val (.ref b1), .val (.ref b3), .val (.ref b5), .val (.ref b7), .val (.long x49), .second, .val (.long x56), .second, .val (.long x63), .second, .val (.long x70), .second, .val (.long x77), .second, .unset, .unset, .unset] [(.int (0 : Int32))])
      exact j92_14 _ (by rw [if_neg hc84])
  intro v92 hv92
  show Go p e below Φ T13 (mkF m 92 #[.val (.long i0), .second, .val (.long i1), .second, .val (.ref b1), .val (.ref b3), .val (.ref b5), .val (.ref b7), .val (.long x49), .second, .val (.long x56), .second, .val (.long x63), .second, .val (.long x70), .second, .val (.long x77), .second, .unset, .unset, .unset] [(.int v92)])
  refine Go.of (fun t k => XS.istore X13.here hx rfl (hb hby at_92) rfl (l' := #[.val (.long i0), .second, .val (.long i1), .second, .val (.ref b1), .val (.ref b3), .val (.ref b5), .val (.ref b7), .val (.long x49), .second, .val (.long x56), .second, .val (.long x63), .second, .val (.long x70), .second, .val (.long x77), .second, .val (.int v92), .unset, .unset]) rfl k) ?_
  show Go p e below Φ T13 (mkF m 94 #[.val (.long i0), .second, .val (.long i1), .second, .val (.ref b1), .val (.ref b3), .val (.ref b5), .val (.ref b7), .val (.long x49), .second, .val (.long x56), .second, .val (.long x63), .second, .val (.long x70), .second, .val (.long x77), .second, .val (.int v92), .unset, .unset] [])
  refine Go.of (fun t k => XS.lloadN X13.here hx rfl (hb hby at_94) rfl  k) ?_
  show Go p e below Φ T13 (mkF m 95 #[.val (.long i0), .second, .val (.long i1), .second, .val (.ref b1), .val (.ref b3), .val (.ref b5), .val (.ref b7), .val (.long x49), .second, .val (.long x56), .second, .val (.long x63), .second, .val (.long x70), .second, .val (.long x77), .second, .val (.int v92), .unset, .unset] [(.long i0)])
  refine Go.of (fun t k => XS.lloadN X13.here hx rfl (hb hby at_95) rfl  k) ?_
  show Go p e below Φ T13 (mkF m 96 #[.val (.long i0), .second, .val (.long i1), .second, .val (.ref b1), .val (.ref b3), .val (.ref b5), .val (.ref b7), .val (.long x49), .second, .val (.long x56), .second, .val (.long x63), .second, .val (.long x70), .second, .val (.long x77), .second, .val (.int v92), .unset, .unset] [(.long i1), (.long i0)])
  refine Go.of (fun t k => XT.lcmp X13.here hx rfl (hb hby at_96) rfl k) ?_
  show Go p e below Φ T13 (mkF m 97 #[.val (.long i0), .second, .val (.long i1), .second, .val (.ref b1), .val (.ref b3), .val (.ref b5), .val (.ref b7), .val (.long x49), .second, .val (.long x56), .second, .val (.long x63), .second, .val (.long x70), .second, .val (.long x77), .second, .val (.int v92), .unset, .unset] [(.int (XT.cmpL i0 i1))])
  suffices j105_15 :  ∀ v105 : Int32, v105 = (if i0 = i1 then (1 : Int32) else (0 : Int32)) → Go p e below Φ T13 (mkF m 105 #[.val (.long i0), .second, .val (.long i1), .second, .val (.ref b1), .val (.ref b3), .val (.ref b5), .val (.ref b7), .val (.long x49), .second, .val (.long x56), .second, .val (.long x63), .second, .val (.long x70), .second, .val (.long x77), .second, .val (.int v92), .unset, .unset] [(.int v105)]) by
    by_cases hc97 : i0 = i1
    · refine Go.of (fun t k => XS.ifNo X13.here hx rfl (hb hby at_97) rfl (XT.ll_ne_f hc97) k) ?_
      show Go p e below Φ T13 (mkF m 100 #[.val (.long i0), .second, .val (.long i1), .second, .val (.ref b1), .val (.ref b3), .val (.ref b5), .val (.ref b7), .val (.long x49), .second, .val (.long x56), .second, .val (.long x63), .second, .val (.long x70), .second, .val (.long x77), .second, .val (.int v92), .unset, .unset] [])
      refine Go.of (fun t k => XS.iconst X13.here hx rfl (hb hby at_100) k) ?_
      show Go p e below Φ T13 (mkF m 101 #[.val (.long i0), .second, .val (.long i1), .second, .val (.ref b1), .val (.ref b3), .val (.ref b5), .val (.ref b7), .val (.long x49), .second, .val (.long x56), .second, .val (.long x63), .second, .val (.long x70), .second, .val (.long x77), .second, .val (.int v92), .unset, .unset] [(.int (1 : Int32))])
      refine Go.of (fun t k => XS.goto X13.here hx rfl (pc0 := 101) (pc' := 105) rfl (hb hby at_101) (by decide) (by decide) k) ?_
      show Go p e below Φ T13 (mkF m 105 #[.val (.long i0), .second, .val (.long i1), .second, .val (.ref b1), .val (.ref b3), .val (.ref b5), .val (.ref b7), .val (.long x49), .second, .val (.long x56), .second, .val (.long x63), .second, .val (.long x70), .second, .val (.long x77), .second, .val (.int v92), .unset, .unset] [(.int (1 : Int32))])
      exact j105_15 _ (by rw [if_pos hc97])
    · refine Go.of (fun t k => XS.ifYes X13.here hx rfl (pc0 := 97) (pc' := 104) rfl (hb hby at_97) rfl (XT.ll_ne_t hc97) (by decide) (by decide) k) ?_
      show Go p e below Φ T13 (mkF m 104 #[.val (.long i0), .second, .val (.long i1), .second, .val (.ref b1), .val (.ref b3), .val (.ref b5), .val (.ref b7), .val (.long x49), .second, .val (.long x56), .second, .val (.long x63), .second, .val (.long x70), .second, .val (.long x77), .second, .val (.int v92), .unset, .unset] [])
      refine Go.of (fun t k => XS.iconst X13.here hx rfl (hb hby at_104) k) ?_
      show Go p e below Φ T13 (mkF m 105 #[.val (.long i0), .second, .val (.long i1), .second, .val (.ref b1), .val (.ref b3), .val (.ref b5), .val (.ref b7), .val (.long x49), .second, .val (.long x56), .second, .val (.long x63), .second, .val (.long x70), .second, .val (.long x77), .second, .val (.int v92), .unset, .unset] [(.int (0 : Int32))])
      exact j105_15 _ (by rw [if_neg hc97])
  intro v105 hv105
  show Go p e below Φ T13 (mkF m 105 #[.val (.long i0), .second, .val (.long i1), .second, .val (.ref b1), .val (.ref b3), .val (.ref b5), .val (.ref b7), .val (.long x49), .second, .val (.long x56), .second, .val (.long x63), .second, .val (.long x70), .second, .val (.long x77), .second, .val (.int v92), .unset, .unset] [(.int v105)])
  refine Go.of (fun t k => XS.lload X13.here hx rfl (hb hby at_105) rfl  k) ?_
  show Go p e below Φ T13 (mkF m 107 #[.val (.long i0), .second, .val (.long i1), .second, .val (.ref b1), .val (.ref b3), .val (.ref b5), .val (.ref b7), .val (.long x49), .second, .val (.long x56), .second, .val (.long x63), .second, .val (.long x70), .second, .val (.long x77), .second, .val (.int v92), .unset, .unset] [(.long x49), (.int v105)])
  refine Go.of (fun t k => XS.lload X13.here hx rfl (hb hby at_107) rfl  k) ?_
  show Go p e below Φ T13 (mkF m 109 #[.val (.long i0), .second, .val (.long i1), .second, .val (.ref b1), .val (.ref b3), .val (.ref b5), .val (.ref b7), .val (.long x49), .second, .val (.long x56), .second, .val (.long x63), .second, .val (.long x70), .second, .val (.long x77), .second, .val (.int v92), .unset, .unset] [(.long x70), (.long x49), (.int v105)])
  refine Go.of (fun t k => XT.lcmp X13.here hx rfl (hb hby at_109) rfl k) ?_
  show Go p e below Φ T13 (mkF m 110 #[.val (.long i0), .second, .val (.long i1), .second, .val (.ref b1), .val (.ref b3), .val (.ref b5), .val (.ref b7), .val (.long x49), .second, .val (.long x56), .second, .val (.long x63), .second, .val (.long x70), .second, .val (.long x77), .second, .val (.int v92), .unset, .unset] [(.int (XT.cmpL x49 x70)), (.int v105)])
  suffices j118_16 :  ∀ v118 : Int32, v118 = (if x49 = x70 then (1 : Int32) else (0 : Int32)) → Go p e below Φ T13 (mkF m 118 #[.val (.long i0), .second, .val (.long i1), .second, .val (.ref b1), .val (.ref b3), .val (.ref b5), .val (.ref b7), .val (.long x49), .second, .val (.long x56), .second, .val (.long x63), .second, .val (.long x70), .second, .val (.long x77), .second, .val (.int v92), .unset, .unset] [(.int v118), (.int v105)]) by
    by_cases hc110 : x49 = x70
    · refine Go.of (fun t k => XS.ifNo X13.here hx rfl (hb hby at_110) rfl (XT.ll_ne_f hc110) k) ?_
      show Go p e below Φ T13 (mkF m 113 #[.val (.long i0), .second, .val (.long i1), .second, .val (.ref b1), .val (.ref b3), .val (.ref b5), .val (.ref b7), .val (.long x49), .second, .val (.long x56), .second, .val (.long x63), .second, .val (.long x70), .second, .val (.long x77), .second, .val (.int v92), .unset, .unset] [(.int v105)])
      refine Go.of (fun t k => XS.iconst X13.here hx rfl (hb hby at_113) k) ?_
      show Go p e below Φ T13 (mkF m 114 #[.val (.long i0), .second, .val (.long i1), .second, .val (.ref b1), .val (.ref b3), .val (.ref b5), .val (.ref b7), .val (.long x49), .second, .val (.long x56), .second, .val (.long x63), .second, .val (.long x70), .second, .val (.long x77), .second, .val (.int v92), .unset, .unset] [(.int (1 : Int32)), (.int v105)])
      refine Go.of (fun t k => XS.goto X13.here hx rfl (pc0 := 114) (pc' := 118) rfl (hb hby at_114) (by decide) (by decide) k) ?_
      show Go p e below Φ T13 (mkF m 118 #[.val (.long i0), .second, .val (.long i1), .second, .val (.ref b1), .val (.ref b3), .val (.ref b5), .val (.ref b7), .val (.long x49), .second, .val (.long x56), .second, .val (.long x63), .second, .val (.long x70), .second, .val (.long x77), .second, .val (.int v92), .unset, .unset] [(.int (1 : Int32)), (.int v105)])
      exact j118_16 _ (by rw [if_pos hc110])
    · refine Go.of (fun t k => XS.ifYes X13.here hx rfl (pc0 := 110) (pc' := 117) rfl (hb hby at_110) rfl (XT.ll_ne_t hc110) (by decide) (by decide) k) ?_
      show Go p e below Φ T13 (mkF m 117 #[.val (.long i0), .second, .val (.long i1), .second, .val (.ref b1), .val (.ref b3), .val (.ref b5), .val (.ref b7), .val (.long x49), .second, .val (.long x56), .second, .val (.long x63), .second, .val (.long x70), .second, .val (.long x77), .second, .val (.int v92), .unset, .unset] [(.int v105)])
      refine Go.of (fun t k => XS.iconst X13.here hx rfl (hb hby at_117) k) ?_
      show Go p e below Φ T13 (mkF m 118 #[.val (.long i0), .second, .val (.long i1), .second, .val (.ref b1), .val (.ref b3), .val (.ref b5), .val (.ref b7), .val (.long x49), .second, .val (.long x56), .second, .val (.long x63), .second, .val (.long x70), .second, .val (.long x77), .second, .val (.int v92), .unset, .unset] [(.int (0 : Int32)), (.int v105)])
      exact j118_16 _ (by rw [if_neg hc110])
  intro v118 hv118
  show Go p e below Φ T13 (mkF m 118 #[.val (.long i0), .second, .val (.long i1), .second, .val (.ref b1), .val (.ref b3), .val (.ref b5), .val (.ref b7), .val (.long x49), .second, .val (.long x56), .second, .val (.long x63), .second, .val (.long x70), .second, .val (.long x77), .second, .val (.int v92), .unset, .unset] [(.int v118), (.int v105)])
  suffices j126_17 :  ∀ v126 : Int32, v126 = (if v105 = v118 then (1 : Int32) else (0 : Int32)) → Go p e below Φ T13 (mkF m 126 #[.val (.long i0), .second, .val (.long i1), .second, .val (.ref b1), .val (.ref b3), .val (.ref b5), .val (.ref b7), .val (.long x49), .second, .val (.long x56), .second, .val (.long x63), .second, .val (.long x70), .second, .val (.long x77), .second, .val (.int v92), .unset, .unset] [(.int v126)]) by
    by_cases hc118 : v105 = v118
    · refine Go.of (fun t k => XS.icmpNo X13.here hx rfl (hb hby at_118) rfl (XT.ii_ne_f hc118) k) ?_
      show Go p e below Φ T13 (mkF m 121 #[.val (.long i0), .second, .val (.long i1), .second, .val (.ref b1), .val (.ref b3), .val (.ref b5), .val (.ref b7), .val (.long x49), .second, .val (.long x56), .second, .val (.long x63), .second, .val (.long x70), .second, .val (.long x77), .second, .val (.int v92), .unset, .unset] [])
      refine Go.of (fun t k => XS.iconst X13.here hx rfl (hb hby at_121) k) ?_
      show Go p e below Φ T13 (mkF m 122 #[.val (.long i0), .second, .val (.long i1), .second, .val (.ref b1), .val (.ref b3), .val (.ref b5), .val (.ref b7), .val (.long x49), .second, .val (.long x56), .second, .val (.long x63), .second, .val (.long x70), .second, .val (.long x77), .second, .val (.int v92), .unset, .unset] [(.int (1 : Int32))])
      refine Go.of (fun t k => XS.goto X13.here hx rfl (pc0 := 122) (pc' := 126) rfl (hb hby at_122) (by decide) (by decide) k) ?_
      show Go p e below Φ T13 (mkF m 126 #[.val (.long i0), .second, .val (.long i1), .second, .val (.ref b1), .val (.ref b3), .val (.ref b5), .val (.ref b7), .val (.long x49), .second, .val (.long x56), .second, .val (.long x63), .second, .val (.long x70), .second, .val (.long x77), .second, .val (.int v92), .unset, .unset] [(.int (1 : Int32))])
      exact j126_17 _ (by rw [if_pos hc118])
    · refine Go.of (fun t k => XS.icmpYes X13.here hx rfl (pc0 := 118) (pc' := 125) rfl (hb hby at_118) rfl (XT.ii_ne_t hc118) (by decide) (by decide) k) ?_
      show Go p e below Φ T13 (mkF m 125 #[.val (.long i0), .second, .val (.long i1), .second, .val (.ref b1), .val (.ref b3), .val (.ref b5), .val (.ref b7), .val (.long x49), .second, .val (.long x56), .second, .val (.long x63), .second, .val (.long x70), .second, .val (.long x77), .second, .val (.int v92), .unset, .unset] [])
      refine Go.of (fun t k => XS.iconst X13.here hx rfl (hb hby at_125) k) ?_
      show Go p e below Φ T13 (mkF m 126 #[.val (.long i0), .second, .val (.long i1), .second, .val (.ref b1), .val (.ref b3), .val (.ref b5), .val (.ref b7), .val (.long x49), .second, .val (.long x56), .second, .val (.long x63), .second, .val (.long x70), .second, .val (.long x77), .second, .val (.int v92), .unset, .unset] [(.int (0 : Int32))])
      exact j126_17 _ (by rw [if_neg hc118])
  intro v126 hv126
  show Go p e below Φ T13 (mkF m 126 #[.val (.long i0), .second, .val (.long i1), .second, .val (.ref b1), .val (.ref b3), .val (.ref b5), .val (.ref b7), .val (.long x49), .second, .val (.long x56), .second, .val (.long x63), .second, .val (.long x70), .second, .val (.long x77), .second, .val (.int v92), .unset, .unset] [(.int v126)])
  refine Go.of (fun t k => XS.istore X13.here hx rfl (hb hby at_126) rfl (l' := #[.val (.long i0), .second, .val (.long i1), .second, .val (.ref b1), .val (.ref b3), .val (.ref b5), .val (.ref b7), .val (.long x49), .second, .val (.long x56), .second, .val (.long x63), .second, .val (.long x70), .second, .val (.long x77), .second, .val (.int v92), .val (.int v126), .unset]) rfl k) ?_
  show Go p e below Φ T13 (mkF m 128 #[.val (.long i0), .second, .val (.long i1), .second, .val (.ref b1), .val (.ref b3), .val (.ref b5), .val (.ref b7), .val (.long x49), .second, .val (.long x56), .second, .val (.long x63), .second, .val (.long x70), .second, .val (.long x77), .second, .val (.int v92), .val (.int v126), .unset] [])
  refine Go.of (fun t k => XS.lload X13.here hx rfl (hb hby at_128) rfl  k) ?_
  show Go p e below Φ T13 (mkF m 130 #[.val (.long i0), .second, .val (.long i1), .second, .val (.ref b1), .val (.ref b3), .val (.ref b5), .val (.ref b7), .val (.long x49), .second, .val (.long x56), .second, .val (.long x63), .second, .val (.long x70), .second, .val (.long x77), .second, .val (.int v92), .val (.int v126), .unset] [(.long x77)])
  refine Go.of (fun t k => X13.ldc2Long hx hown (mvT hZ (hw _ (List.mem_of_getElem? (i := 20) rfl))) (g := (mkF m 130 #[.val (.long i0), .second, .val (.long i1), .second, .val (.ref b1), .val (.ref b3), .val (.ref b5), .val (.ref b7), .val (.long x49), .second, .val (.long x56), .second, .val (.long x63), .second, .val (.long x70), .second, .val (.long x77), .second, .val (.int v92), .val (.int v126), .unset] [(.long x77)])) rfl (hb hby at_130) t k) ?_
  show Go p e below Φ T13 (mkF m 133 #[.val (.long i0), .second, .val (.long i1), .second, .val (.ref b1), .val (.ref b3), .val (.ref b5), .val (.ref b7), .val (.long x49), .second, .val (.long x56), .second, .val (.long x63), .second, .val (.long x70), .second, .val (.long x77), .second, .val (.int v92), .val (.int v126), .unset] [(.long (-2152535657050944081 : Int64)), (.long x77)])
  refine Go.of (fun t k => XT.lcmp X13.here hx rfl (hb hby at_133) rfl k) ?_
  show Go p e below Φ T13 (mkF m 134 #[.val (.long i0), .second, .val (.long i1), .second, .val (.ref b1), .val (.ref b3), .val (.ref b5), .val (.ref b7), .val (.long x49), .second, .val (.long x56), .second, .val (.long x63), .second, .val (.long x70), .second, .val (.long x77), .second, .val (.int v92), .val (.int v126), .unset] [(.int (XT.cmpL x77 (-2152535657050944081 : Int64)))])
  suffices j142_18 :  ∀ v142 : Int32, v142 = (if x77 = (-2152535657050944081 : Int64) then (1 : Int32) else (0 : Int32)) → Go p e below Φ T13 (mkF m 142 #[.val (.long i0), .second, .val (.long i1), .second, .val (.ref b1), .val (.ref b3), .val (.ref b5), .val (.ref b7), .val (.long x49), .second, .val (.long x56), .second, .val (.long x63), .second, .val (.long x70), .second, .val (.long x77), .second, .val (.int v92), .val (.int v126), .unset] [(.int v142)]) by
    by_cases hc134 : x77 = (-2152535657050944081 : Int64)
    · refine Go.of (fun t k => XS.ifNo X13.here hx rfl (hb hby at_134) rfl (XT.ll_ne_f hc134) k) ?_
      show Go p e below Φ T13 (mkF m 137 #[.val (.long i0), .second, .val (.long i1), .second, .val (.ref b1), .val (.ref b3), .val (.ref b5), .val (.ref b7), .val (.long x49), .second, .val (.long x56), .second, .val (.long x63), .second, .val (.long x70), .second, .val (.long x77), .second, .val (.int v92), .val (.int v126), .unset] [])
      refine Go.of (fun t k => XS.iconst X13.here hx rfl (hb hby at_137) k) ?_
      show Go p e below Φ T13 (mkF m 138 #[.val (.long i0), .second, .val (.long i1), .second, .val (.ref b1), .val (.ref b3), .val (.ref b5), .val (.ref b7), .val (.long x49), .second, .val (.long x56), .second, .val (.long x63), .second, .val (.long x70), .second, .val (.long x77), .second, .val (.int v92), .val (.int v126), .unset] [(.int (1 : Int32))])
      refine Go.of (fun t k => XS.goto X13.here hx rfl (pc0 := 138) (pc' := 142) rfl (hb hby at_138) (by decide) (by decide) k) ?_
      show Go p e below Φ T13 (mkF m 142 #[.val (.long i0), .second, .val (.long i1), .second, .val (.ref b1), .val (.ref b3), .val (.ref b5), .val (.ref b7), .val (.long x49), .second, .val (.long x56), .second, .val (.long x63), .second, .val (.long x70), .second, .val (.long x77), .second, .val (.int v92), .val (.int v126), .unset] [(.int (1 : Int32))])
      exact j142_18 _ (by rw [if_pos hc134])
    · refine Go.of (fun t k => XS.ifYes X13.here hx rfl (pc0 := 134) (pc' := 141) rfl (hb hby at_134) rfl (XT.ll_ne_t hc134) (by decide) (by decide) k) ?_
      show Go p e below Φ T13 (mkF m 141 #[.val (.long i0), .second, .val (.long i1), .second, .val (.ref b1), .val (.ref b3), .val (.ref b5), .val (.ref b7), .val (.long x49), .second, .val (.long x56), .second, .val (.long x63), .second, .val (.long x70), .second, .val (.long x77), .second, .val (.int v92), .val (.int v126), .unset] [])
      refine Go.of (fun t k => XS.iconst X13.here hx rfl (hb hby at_141) k) ?_
      show Go p e below Φ T13 (mkF m 142 #[.val (.long i0), .second, .val (.long i1), .second, .val (.ref b1), .val (.ref b3), .val (.ref b5), .val (.ref b7), .val (.long x49), .second, .val (.long x56), .second, .val (.long x63), .second, .val (.long x70), .second, .val (.long x77), .second, .val (.int v92), .val (.int v126), .unset] [(.int (0 : Int32))])
      exact j142_18 _ (by rw [if_neg hc134])
  intro v142 hv142
  show Go p e below Φ T13 (mkF m 142 #[.val (.long i0), .second, .val (.long i1), .second, .val (.ref b1), .val (.ref b3), .val (.ref b5), .val (.ref b7), .val (.long x49), .second, .val (.long x56), .second, .val (.long x63), .second, .val (.long x70), .second, .val (.long x77), .second, .val (.int v92), .val (.int v126), .unset] [(.int v142)])
  refine Go.of (fun t k => XS.istore X13.here hx rfl (hb hby at_142) rfl (l' := #[.val (.long i0), .second, .val (.long i1), .second, .val (.ref b1), .val (.ref b3), .val (.ref b5), .val (.ref b7), .val (.long x49), .second, .val (.long x56), .second, .val (.long x63), .second, .val (.long x70), .second, .val (.long x77), .second, .val (.int v92), .val (.int v126), .val (.int v142)]) rfl k) ?_
  show Go p e below Φ T13 (mkF m 144 #[.val (.long i0), .second, .val (.long i1), .second, .val (.ref b1), .val (.ref b3), .val (.ref b5), .val (.ref b7), .val (.long x49), .second, .val (.long x56), .second, .val (.long x63), .second, .val (.long x70), .second, .val (.long x77), .second, .val (.int v92), .val (.int v126), .val (.int v142)] [])
  refine Go.of (fun t k => XS.iload X13.here hx rfl (hb hby at_144) rfl  k) ?_
  show Go p e below Φ T13 (mkF m 146 #[.val (.long i0), .second, .val (.long i1), .second, .val (.ref b1), .val (.ref b3), .val (.ref b5), .val (.ref b7), .val (.long x49), .second, .val (.long x56), .second, .val (.long x63), .second, .val (.long x70), .second, .val (.long x77), .second, .val (.int v92), .val (.int v126), .val (.int v142)] [(.int v92)])
  suffices j164_19 :  ∀ v164 : Int32, v164 = (if v92 = (0 : Int32) then (0 : Int32) else (if v126 = (0 : Int32) then (0 : Int32) else (if v142 = (0 : Int32) then (0 : Int32) else (1 : Int32)))) → Go p e below Φ T13 (mkF m 164 #[.val (.long i0), .second, .val (.long i1), .second, .val (.ref b1), .val (.ref b3), .val (.ref b5), .val (.ref b7), .val (.long x49), .second, .val (.long x56), .second, .val (.long x63), .second, .val (.long x70), .second, .val (.long x77), .second, .val (.int v92), .val (.int v126), .val (.int v142)] [(.int v164)]) by
    by_cases hc146 : v92 = (0 : Int32)
    · refine Go.of (fun t k => XS.ifYes X13.here hx rfl (pc0 := 146) (pc' := 163) rfl (hb hby at_146) rfl (XT.i0_eq_t hc146) (by decide) (by decide) k) ?_
      show Go p e below Φ T13 (mkF m 163 #[.val (.long i0), .second, .val (.long i1), .second, .val (.ref b1), .val (.ref b3), .val (.ref b5), .val (.ref b7), .val (.long x49), .second, .val (.long x56), .second, .val (.long x63), .second, .val (.long x70), .second, .val (.long x77), .second, .val (.int v92), .val (.int v126), .val (.int v142)] [])
      refine Go.of (fun t k => XS.iconst X13.here hx rfl (hb hby at_163) k) ?_
      show Go p e below Φ T13 (mkF m 164 #[.val (.long i0), .second, .val (.long i1), .second, .val (.ref b1), .val (.ref b3), .val (.ref b5), .val (.ref b7), .val (.long x49), .second, .val (.long x56), .second, .val (.long x63), .second, .val (.long x70), .second, .val (.long x77), .second, .val (.int v92), .val (.int v126), .val (.int v142)] [(.int (0 : Int32))])
      exact j164_19 _ (by rw [if_pos hc146])
    · refine Go.of (fun t k => XS.ifNo X13.here hx rfl (hb hby at_146) rfl (XT.i0_eq_f hc146) k) ?_
      show Go p e below Φ T13 (mkF m 149 #[.val (.long i0), .second, .val (.long i1), .second, .val (.ref b1), .val (.ref b3), .val (.ref b5), .val (.ref b7), .val (.long x49), .second, .val (.long x56), .second, .val (.long x63), .second, .val (.long x70), .second, .val (.long x77), .second, .val (.int v92), .val (.int v126), .val (.int v142)] [])
      refine Go.of (fun t k => XS.iload X13.here hx rfl (hb hby at_149) rfl  k) ?_
      show Go p e below Φ T13 (mkF m 151 #[.val (.long i0), .second, .val (.long i1), .second, .val (.ref b1), .val (.ref b3), .val (.ref b5), .val (.ref b7), .val (.long x49), .second, .val (.long x56), .second, .val (.long x63), .second, .val (.long x70), .second, .val (.long x77), .second, .val (.int v92), .val (.int v126), .val (.int v142)] [(.int v126)])
      by_cases hc151 : v126 = (0 : Int32)
      · refine Go.of (fun t k => XS.ifYes X13.here hx rfl (pc0 := 151) (pc' := 163) rfl (hb hby at_151) rfl (XT.i0_eq_t hc151) (by decide) (by decide) k) ?_
        show Go p e below Φ T13 (mkF m 163 #[.val (.long i0), .second, .val (.long i1), .second, .val (.ref b1), .val (.ref b3), .val (.ref b5), .val (.ref b7), .val (.long x49), .second, .val (.long x56), .second, .val (.long x63), .second, .val (.long x70), .second, .val (.long x77), .second, .val (.int v92), .val (.int v126), .val (.int v142)] [])
        refine Go.of (fun t k => XS.iconst X13.here hx rfl (hb hby at_163) k) ?_
        show Go p e below Φ T13 (mkF m 164 #[.val (.long i0), .second, .val (.long i1), .second, .val (.ref b1), .val (.ref b3), .val (.ref b5), .val (.ref b7), .val (.long x49), .second, .val (.long x56), .second, .val (.long x63), .second, .val (.long x70), .second, .val (.long x77), .second, .val (.int v92), .val (.int v126), .val (.int v142)] [(.int (0 : Int32))])
        exact j164_19 _ (by rw [if_neg hc146, if_pos hc151])
      · refine Go.of (fun t k => XS.ifNo X13.here hx rfl (hb hby at_151) rfl (XT.i0_eq_f hc151) k) ?_
        show Go p e below Φ T13 (mkF m 154 #[.val (.long i0), .second, .val (.long i1), .second, .val (.ref b1), .val (.ref b3), .val (.ref b5), .val (.ref b7), .val (.long x49), .second, .val (.long x56), .second, .val (.long x63), .second, .val (.long x70), .second, .val (.long x77), .second, .val (.int v92), .val (.int v126), .val (.int v142)] [])
        refine Go.of (fun t k => XS.iload X13.here hx rfl (hb hby at_154) rfl  k) ?_
        show Go p e below Φ T13 (mkF m 156 #[.val (.long i0), .second, .val (.long i1), .second, .val (.ref b1), .val (.ref b3), .val (.ref b5), .val (.ref b7), .val (.long x49), .second, .val (.long x56), .second, .val (.long x63), .second, .val (.long x70), .second, .val (.long x77), .second, .val (.int v92), .val (.int v126), .val (.int v142)] [(.int v142)])
        by_cases hc156 : v142 = (0 : Int32)
        · refine Go.of (fun t k => XS.ifYes X13.here hx rfl (pc0 := 156) (pc' := 163) rfl (hb hby at_156) rfl (XT.i0_eq_t hc156) (by decide) (by decide) k) ?_
          show Go p e below Φ T13 (mkF m 163 #[.val (.long i0), .second, .val (.long i1), .second, .val (.ref b1), .val (.ref b3), .val (.ref b5), .val (.ref b7), .val (.long x49), .second, .val (.long x56), .second, .val (.long x63), .second, .val (.long x70), .second, .val (.long x77), .second, .val (.int v92), .val (.int v126), .val (.int v142)] [])
          refine Go.of (fun t k => XS.iconst X13.here hx rfl (hb hby at_163) k) ?_
          show Go p e below Φ T13 (mkF m 164 #[.val (.long i0), .second, .val (.long i1), .second, .val (.ref b1), .val (.ref b3), .val (.ref b5), .val (.ref b7), .val (.long x49), .second, .val (.long x56), .second, .val (.long x63), .second, .val (.long x70), .second, .val (.long x77), .second, .val (.int v92), .val (.int v126), .val (.int v142)] [(.int (0 : Int32))])
          exact j164_19 _ (by rw [if_neg hc146, if_neg hc151, if_pos hc156])
        · refine Go.of (fun t k => XS.ifNo X13.here hx rfl (hb hby at_156) rfl (XT.i0_eq_f hc156) k) ?_
          show Go p e below Φ T13 (mkF m 159 #[.val (.long i0), .second, .val (.long i1), .second, .val (.ref b1), .val (.ref b3), .val (.ref b5), .val (.ref b7), .val (.long x49), .second, .val (.long x56), .second, .val (.long x63), .second, .val (.long x70), .second, .val (.long x77), .second, .val (.int v92), .val (.int v126), .val (.int v142)] [])
          refine Go.of (fun t k => XS.iconst X13.here hx rfl (hb hby at_159) k) ?_
          show Go p e below Φ T13 (mkF m 160 #[.val (.long i0), .second, .val (.long i1), .second, .val (.ref b1), .val (.ref b3), .val (.ref b5), .val (.ref b7), .val (.long x49), .second, .val (.long x56), .second, .val (.long x63), .second, .val (.long x70), .second, .val (.long x77), .second, .val (.int v92), .val (.int v126), .val (.int v142)] [(.int (1 : Int32))])
          refine Go.of (fun t k => XS.goto X13.here hx rfl (pc0 := 160) (pc' := 164) rfl (hb hby at_160) (by decide) (by decide) k) ?_
          show Go p e below Φ T13 (mkF m 164 #[.val (.long i0), .second, .val (.long i1), .second, .val (.ref b1), .val (.ref b3), .val (.ref b5), .val (.ref b7), .val (.long x49), .second, .val (.long x56), .second, .val (.long x63), .second, .val (.long x70), .second, .val (.long x77), .second, .val (.int v92), .val (.int v126), .val (.int v142)] [(.int (1 : Int32))])
          exact j164_19 _ (by rw [if_neg hc146, if_neg hc151, if_neg hc156])
  intro v164 hv164
  show Go p e below Φ T13 (mkF m 164 #[.val (.long i0), .second, .val (.long i1), .second, .val (.ref b1), .val (.ref b3), .val (.ref b5), .val (.ref b7), .val (.long x49), .second, .val (.long x56), .second, .val (.long x63), .second, .val (.long x70), .second, .val (.long x77), .second, .val (.int v92), .val (.int v126), .val (.int v142)] [(.int v164)])
  rw [hΦ]
  refine Go.ret X13 hx Bd.notSynchronized Bd.returns (own_one (own_plain i0 i1 y4_state hy4_state y9_state hy9_state x49 hx49 y10_state hy10_state x56 hx56 y11_state hy11_state x63 hx63 y12_state hy12_state x70 hx70 y13_state hy13_state x77 hx77 v92 hv92 v105 hv105 v118 hv118 v126 hv126 v142 hv142 v164 hv164 )) (Or.inl ⟨rfl, Or.inr (Or.inl rfl), _, rfl⟩) (hb hby at_164) (by decide) (by decide) ?_
  exact ⟨congrArg (fun z => some (Value.int z)) (own_plain i0 i1 y4_state hy4_state y9_state hy9_state x49 hx49 y10_state hy10_state x56 hx56 y11_state hy11_state x63 hx63 y12_state hy12_state x70 hx70 y13_state hy13_state x77 hx77 v92 hv92 v105 hv105 v118 hv118 v126 hv126 v142 hv142 v164 hv164 ), N13⟩
set_option maxRecDepth 65536 in
set_option maxHeartbeats 40000000 in
theorem comes_1 {Post : Tables → Env → Array Value → State → Outcome → State → Prop} (hpost : ∀ tb e args s v u, (limb_1_1.after args s (.returned v) u = true ∧ limb_1_2.after args s (.returned v) u = true ∧ True) → FrameEnd s (.returned v) u (Jvm.fieldLocs frame_1_writes args s ++ Jvm.arrayLocs frame_1_arrays args s ++ Jvm.staticLocs frame_1_statics s) 16 128 → Post tb e args s (.returned v) u) :
    ArmFor flags0 classFile x code maxLocals ret World_1 tables_1 room_1 Calls_1 rest_1 Pre_1 Post := by
  intro l hfl _ _ p e ha hc hk s m args below hf hA hF happ hP
  obtain ⟨hcalls, hrest, hpre⟩ := hP
  obtain ⟨-, -, -, hnamed, -, -, -, hat⟩ := (Spec.applies_iff hf).mp happ
  obtain ⟨hg, hn⟩ := and_e (Cond.before_iff.mp (show (Jvm.Cond.and given_1 narrow_1).before args s = true from hpre))
  obtain ⟨g1, g2⟩ := and_e hg
  obtain ⟨g3, g4⟩ := and_e g2
  obtain ⟨w0, w1, rfl⟩ : ∃ w0 w1 : Value, args = #[w0, w1] := by
    have hs : args.size = 2 := by simpa [Cond.value, given_1] using g1
    obtain ⟨L⟩ := args
    match L, hs with
    | [w0, w1], _ => exact ⟨w0, w1, rfl⟩
  have hw := fun d (hd : d ∈ tables_1) => atoms_spec (ws := Jvm.Cond.code x code maxLocals ret :: tables_1) hat d (List.mem_cons_of_mem _ hd)
  have hfit : Fit s := fun {y c} hc i hi => by
    obtain ⟨ha, rfl⟩ := Array.getElem?_eq_some_iff.mp hc
    have q := List.all_eq_true.mp ((Array.all_eq_true_iff_forall_mem.mp hF) _ (Array.getElem_mem ha)) i (List.mem_range.mpr hi)
    simpa [Array.getElem?_eq_getElem hi] using q
  obtain ⟨i0, ei0⟩ := isL_v g3
  obtain rfl : w0 = (.long i0) := Option.some.inj ei0
  obtain ⟨i1, ei1⟩ := isL_v g4
  obtain rfl : w1 = (.long i1) := Option.some.inj ei1
  obtain ⟨n, o, h1, h2, h3, _, L, rfl, ⟨rfl, N⟩, hq⟩ := rm0 l s _ hw tables_1 i0 i1  s.heap s.heap.size (Nat.le_refl _)  p e ha hc hk s m _ below hf ((Spec.applies_iff_loose hf).mp happ).1 ⟨rfl, State.Warmed39.refl s, rfl⟩ trivial
  refine ⟨n, _, h1, h2, h3, hpost _ _ _ _ _ _ ⟨Cond.after_iff.mpr rfl, Cond.after_iff.mpr (eq_i res_at (Term.int_eval (1)) rfl), trivial⟩ ⟨hq.1, hq.2.1, (hq.2.2.sift fun y hy => Or.inr (N y hy)).mono (by decide) (by decide)⟩⟩
theorem main_1_1 : Claimed_1_1 := comes_1 fun _ _ _ _ _ _ h hF => ⟨h.1, hF⟩
theorem main_1_2 : Claimed_1_2 := comes_1 fun _ _ _ _ _ _ h hF => ⟨h.2.1, hF⟩
end Jvm.Pilot.@@N@@
namespace Jvm.Pilot.@@N@@
open Jvm Jvm.ClassFile Sem Op Lib Jvm.Free Jvm.Stand Jvm.Pilot.@@N@@.Jvm.D
/-! MADE BY PROGRAM (witnessworld.py) out of the Statement's table words and the real class files: 9 classes; the members and pool entries that the words name. The judged class is class 1, her method 1. -/
namespace start1
open Jvm.ClassFile
def u (s : String) : CpInfo := .utf8 (stringToUtf16 s)
/-- a pool by its gaps: so many unusable entries, then the entry; so many at the end -/
def gap : Nat → List CpInfo → List CpInfo
  | 0, r => r
  | n + 1, r => .unusable :: gap n r
def poolList (es : List (Nat × CpInfo)) (last : Nat) : List CpInfo := es.foldr (fun e r => gap e.1 (e.2 :: r)) (gap last [])
def pool (es : List (Nat × CpInfo)) (last : Nat) : Array CpInfo := ⟨poolList es last⟩
def fileOf (pool : Array CpInfo) (this : Nat) (attrs : Array Attribute := #[]) (ms : Array MethodInfo := #[]) (fl : Nat := 33) (sup : Nat := 0) (ifs : Array Nat := #[]) (fds : Array FieldInfo := #[]) : ClassFile where
  minorVersion := 0
  majorVersion := 65
  constantPool := pool
  accessFlags := fl
  thisClass := this
  superClass := sup
  interfaces := ifs
  fields := fds
  methods := ms
  attributes := attrs
def plain (name : String) (sup : Option ClassId) : Class where
  name := name
  kind := .ordinary
  loader := none
  accessFlags := 33
  super := sup
  interfaces := #[]
  cf := none
  fields := #[]
  methods := #[]
  instanceTypes := #[]
  staticTypes := #[]
  resolved := #[]
  callSites := []
  init := .initialized
  statics := none
  mirror := none

def pool0 : Array CpInfo := pool [(5, u "<init>"), (0, u "()V"), (1, .class_ 10), (1, u "java/lang/Object")] 113

def k0c0 : Code := { maxStack := 0, maxLocals := 1, code := object_method_1_code, exceptionTable := #[], attributes := #[] }
def k0m0 : Method := { name := "<init>", desc := "()V", sig := { parameters := [], returnType := none }, accessFlags := 1, code := some k0c0 }
/-- java/lang/Object -/
def k0 : Class := { plain "java/lang/Object" none with
  accessFlags := 33
  interfaces := #[]
  cf := some (fileOf pool0 8 #[] #[{ accessFlags := 1, nameIndex := 5, descriptorIndex := 6, attributes := #[] }] 33 0 #[] #[])
  fields := #[]
  methods := #[k0m0]
  instanceTypes := #[]
  staticTypes := #[]
  resolved := Array.replicate 124 none
  statics := none }

def pool1 : Array CpInfo := pool [(2, .class_ 4), (1, u "java/lang/Object"), (0, u "<init>"), (0, u "()V"), (0, .class_ 8), (0, u "com/example/signalbox/signalbox/game/SeededRandom"), (0, .methodref 7 10), (0, .nameAndType 5 11), (0, u "(J)V"), (0, .long 11400714819323198485), (1, .methodref 7 15), (0, .nameAndType 16 17), (0, u "nextLong"), (0, u "()J"), (0, .long 16294208416658607535), (1, .class_ 21), (0, u "com/example/signalbox/signalbox/game/SeededRandomNextLongPinLaw"), (2, u "law"), (0, u "(JJ)Z")] 3

def k1m0 : Method := { name := "<init>", desc := "()V", sig := { parameters := [], returnType := none }, accessFlags := 2, code := none }
def k1c1 : Code := { maxStack := 6, maxLocals := 21, code := code, exceptionTable := #[], attributes := #[] }
def k1m1 : Method := { name := "law", desc := "(JJ)Z", sig := { parameters := [.long, .long], returnType := some .boolean }, accessFlags := 9, code := some k1c1 }
/-- com/example/signalbox/signalbox/game/SeededRandomNextLongPinLaw -/
def k1 : Class := { plain "com/example/signalbox/signalbox/game/SeededRandomNextLongPinLaw" (some 0) with
  accessFlags := 49
  interfaces := #[]
  cf := some (fileOf pool1 20 #[] #[{ accessFlags := 2, nameIndex := 5, descriptorIndex := 6, attributes := #[] }, { accessFlags := 9, nameIndex := 24, descriptorIndex := 25, attributes := #[] }] 49 2 #[] #[])
  fields := #[]
  methods := #[k1m0, k1m1]
  instanceTypes := #[]
  staticTypes := #[]
  resolved := Array.replicate 29 none
  statics := none }

def pool2 : Array CpInfo := pool [(1, .methodref 2 3), (0, .class_ 4), (0, .nameAndType 5 6), (0, u "java/lang/Object"), (0, u "<init>"), (0, u "()V"), (0, .fieldref 8 9), (0, .class_ 10), (0, .nameAndType 11 12), (0, u "com/example/signalbox/signalbox/game/SeededRandom"), (0, u "state"), (0, u "J"), (2, u "(J)V"), (0, .long 11400714819323198485), (1, .long 13787848793156543929), (1, .long 10723151780598845931), (12, u "nextLong"), (0, u "()J"), (22, u "GAMMA")] 27

def k2c0 : Code := { maxStack := 3, maxLocals := 3, code := prog_9_method_1_code, exceptionTable := #[], attributes := #[] }
def k2m0 : Method := { name := "<init>", desc := "(J)V", sig := { parameters := [.long], returnType := none }, accessFlags := 1, code := some k2c0 }
def k2c1 : Code := { maxStack := 5, maxLocals := 3, code := prog_9_method_3_code, exceptionTable := #[], attributes := #[] }
def k2m1 : Method := { name := "nextLong", desc := "()J", sig := { parameters := [], returnType := some .long }, accessFlags := 1, code := some k2c1 }
/-- com/example/signalbox/signalbox/game/SeededRandom -/
def k2 : Class := { plain "com/example/signalbox/signalbox/game/SeededRandom" (some 0) with
  accessFlags := 49
  interfaces := #[]
  cf := some (fileOf pool2 8 #[] #[{ accessFlags := 1, nameIndex := 5, descriptorIndex := 15, attributes := #[] }, { accessFlags := 1, nameIndex := 33, descriptorIndex := 34, attributes := #[] }] 49 2 #[] #[{ accessFlags := 26, nameIndex := 57, descriptorIndex := 12, attributes := #[] }, { accessFlags := 2, nameIndex := 11, descriptorIndex := 12, attributes := #[] }])
  fields := #[{ name := "GAMMA", type := .long, accessFlags := 26, slot := 0, constantValue := 0 }, { name := "state", type := .long, accessFlags := 2, slot := 0, constantValue := 0 }]
  methods := #[k2m0, k2m1]
  instanceTypes := #[.long]
  staticTypes := #[.long]
  resolved := Array.replicate 85 none
  statics := none }

def pool3 : Array CpInfo := pool [(1, u "java/lang/Cloneable"), (0, .class_ 1), (0, u "java/lang/Object"), (0, .class_ 3)] 3

/-- java/lang/Cloneable -/
def k3 : Class := { plain "java/lang/Cloneable" (some 0) with
  accessFlags := 1537
  interfaces := #[]
  cf := some (fileOf pool3 2 #[] #[] 1537 4 #[] #[])
  fields := #[]
  methods := #[]
  instanceTypes := #[]
  staticTypes := #[]
  resolved := Array.replicate 8 none
  statics := none }

def pool4 : Array CpInfo := pool [(1, u "java/io/Serializable"), (0, .class_ 1), (0, u "java/lang/Object"), (0, .class_ 3)] 3

/-- java/io/Serializable -/
def k4 : Class := { plain "java/io/Serializable" (some 0) with
  accessFlags := 1537
  interfaces := #[]
  cf := some (fileOf pool4 2 #[] #[] 1537 4 #[] #[])
  fields := #[]
  methods := #[]
  instanceTypes := #[]
  staticTypes := #[]
  resolved := Array.replicate 8 none
  statics := none }

/-- the primitive byte -/
def k5 : Class := { plain "byte" none with kind := .primitive 'B', accessFlags := 0x411 }
/-- [B -/
def k6 : Class := { plain "[B" (some 0) with kind := .array 5 .byte, interfaces := #[3, 4], accessFlags := 1041 }

/-- the primitive int -/
def k7 : Class := { plain "int" none with kind := .primitive 'I', accessFlags := 0x411 }
/-- [I -/
def k8 : Class := { plain "[I" (some 0) with kind := .array 7 .int, interfaces := #[3, 4], accessFlags := 1041 }

def heap : Heap := #[]
def classes : Array Class := #[k0, k1, k2, k3, k4, k5, k6, k7, k8]
def interned : List (Array UInt16 × Addr) := []
def slotsUsed : Nat := 0
def theMethod : MethodId := ⟨1, 1⟩
def args0 : Array Value := #[.long 9, .long 3]
def aboutOver (below : List Frame) : State where
  vm := { classes := classes, interned := interned.toArray }
  heap := heap
  slotsUsed := slotsUsed
  threads := #[{ frames := .invoking theMethod args0 :: below }]
def below0 : List Frame := [.native { method := ⟨0, 0⟩, args := #[] }]
def about1 : State := aboutOver below0
def p0 : Program := .bare "" "" ""
def e0 : Env := launch0.env 0 0 0
theorem w_frames : about1.frames = Frame.invoking theMethod args0 :: below0 := rfl
set_option maxRecDepth 65536 in
theorem w_args : argsFit about1.vm theMethod args0 = true := by decide +kernel
set_option maxRecDepth 65536 in
theorem w_heap : heapFits about1 = true := by decide +kernel
set_option maxRecDepth 65536 in
theorem w_runnable : about1.curStatus? = some .runnable := by decide +kernel
set_option maxRecDepth 65536 in
theorem w_alone : about1.alone = true := by decide +kernel
set_option maxRecDepth 65536 in
theorem w_named : about1.methodNamed? x = some theMethod := by decide +kernel
set_option maxRecDepth 65536 in
theorem w_hears : about1.hears theMethod below0 = true := by decide +kernel
set_option maxRecDepth 65536 in
theorem w_ripe : about1.ripe theMethod args0 below0 = true := by decide +kernel
theorem w_running : about1.status = .running := rfl
set_option maxRecDepth 65536 in
theorem w_room : about1.hasRoom e0.platform room_1 = true :=
  launch0.hasRoom_least _ room_1 (by decide +kernel) (by decide +kernel) (by decide +kernel) (by decide +kernel) (by decide +kernel) (by decide +kernel)
theorem allAtoms_all (ts : List Jvm.Cond) (a : Array Jvm.Value) (st : Jvm.State) : (allAtoms ts).before a st = ts.all (fun c => c.before a st) := by
  induction ts with
  | nil => rfl
  | cons c t ih =>
    show (Jvm.Cond.and c (allAtoms t)).before a st = _
    rw [Jvm.Cond.before_and, ih, List.all_cons]
def words1 : List Jvm.Cond := Jvm.Cond.code x code maxLocals ret :: tables_1
/-- a 'code' word, met by the world's own term for the bytes: nothing is compared byte by byte -/
theorem code_word {y : MethodName} {bytes : ByteArray} {mx : Nat} {rt : Option FieldType} {a : Array Value} {s : State} {m : MethodId} {meth : Method} {c : Code} (h1 : s.methodNamed? y = some m) (h2 : s.vm.method? m = some meth) (h3 : meth.code = some c) (h4 : c.code = bytes)
    (h5 : (c.maxLocals == mx && c.exceptionTable.isEmpty && decide (c.maxStack ≤ mostOperands) && decide (meth.sig.returnType = rt) && !meth.locks && decide (parseMethodDescriptor y.desc = some meth.sig)) = true) : (Jvm.Cond.code y bytes mx rt).before a s = true := by
  simp only [Bool.and_eq_true, beq_iff_eq, Bool.not_eq_true', decide_eq_true_eq] at h5
  obtain ⟨⟨⟨⟨⟨g1, g2⟩, g3⟩, g4⟩, g5⟩, g6⟩ := h5
  simp [Cond.before, Cond.holds, Cond.value, h1, h2, h3, h4, g1, g2, g3, g4, g5, g6]
def isCode : Jvm.Cond → Bool
  | .code _ _ _ _ => true
  | _ => false
theorem all_split {L : List Jvm.Cond} {P : Jvm.Cond → Bool} (h1 : L.all (fun c => isCode c || P c) = true) (h2 : ∀ c ∈ L.filter isCode, P c = true) : L.all P = true := by
  refine List.all_eq_true.mpr fun c hc => ?_
  have h := List.all_eq_true.mp h1 c hc
  rcases Bool.eq_false_or_eq_true (isCode c) with hi | hi
  · exact h2 c (List.mem_filter.mpr ⟨hc, hi⟩)
  · simpa [hi] using h
set_option maxRecDepth 65536 in
theorem w_c0 : (Jvm.Cond.code x code maxLocals ret).before args0 about1 = true := code_word (m := ⟨1, 1⟩) (meth := k1m1) (c := k1c1) (by decide +kernel) rfl rfl rfl (by decide +kernel)
set_option maxRecDepth 65536 in
theorem w_c1 : (Jvm.Cond.code ({ cls := "com/example/signalbox/signalbox/game/SeededRandom", name := "<init>", desc := "(J)V" } : Jvm.MethodName) prog_9_method_1_code (3 : Nat) (Option.none : Option Jvm.ClassFile.FieldType)).before args0 about1 = true := code_word (m := ⟨2, 0⟩) (meth := k2m0) (c := k2c0) (by decide +kernel) rfl rfl rfl (by decide +kernel)
set_option maxRecDepth 65536 in
theorem w_c2 : (Jvm.Cond.code ({ cls := "java/lang/Object", name := "<init>", desc := "()V" } : Jvm.MethodName) object_method_1_code (1 : Nat) (Option.none : Option Jvm.ClassFile.FieldType)).before args0 about1 = true := code_word (m := ⟨0, 0⟩) (meth := k0m0) (c := k0c0) (by decide +kernel) rfl rfl rfl (by decide +kernel)
set_option maxRecDepth 65536 in
theorem w_c3 : (Jvm.Cond.code ({ cls := "com/example/signalbox/signalbox/game/SeededRandom", name := "nextLong", desc := "()J" } : Jvm.MethodName) prog_9_method_3_code (3 : Nat) (Option.some Jvm.ClassFile.FieldType.long)).before args0 about1 = true := code_word (m := ⟨2, 1⟩) (meth := k2m1) (c := k2c1) (by decide +kernel) rfl rfl rfl (by decide +kernel)
def codes1 : List Jvm.Cond := [Jvm.Cond.code x code maxLocals ret, Jvm.Cond.code ({ cls := "com/example/signalbox/signalbox/game/SeededRandom", name := "<init>", desc := "(J)V" } : Jvm.MethodName) prog_9_method_1_code (3 : Nat) (Option.none : Option Jvm.ClassFile.FieldType), Jvm.Cond.code ({ cls := "java/lang/Object", name := "<init>", desc := "()V" } : Jvm.MethodName) object_method_1_code (1 : Nat) (Option.none : Option Jvm.ClassFile.FieldType), Jvm.Cond.code ({ cls := "com/example/signalbox/signalbox/game/SeededRandom", name := "nextLong", desc := "()J" } : Jvm.MethodName) prog_9_method_3_code (3 : Nat) (Option.some Jvm.ClassFile.FieldType.long)]
set_option maxRecDepth 65536 in
theorem codes_eq : words1.filter isCode = codes1 := rfl
theorem w_codes : ∀ c ∈ words1.filter isCode, c.before args0 about1 = true := by
  rw [codes_eq]
  intro c hc
  simp only [codes1, List.mem_cons, List.not_mem_nil, or_false] at hc
  rcases hc with rfl | rfl | rfl | rfl
  · exact w_c0
  · exact w_c1
  · exact w_c2
  · exact w_c3
set_option maxRecDepth 65536 in
theorem w_t1 : words1.all (fun c => isCode c || c.before args0 about1) = true := by decide +kernel
theorem w_tables : (allAtoms (Jvm.Cond.code x code maxLocals ret :: tables_1)).before args0 about1 = true := by
  rw [allAtoms_all]
  show words1.all (fun c => c.before args0 about1) = true
  refine all_split ?_ w_codes
  rw [w_t1]
set_option maxRecDepth 65536 in
theorem w_case : (Jvm.Cond.and given_1 narrow_1).before args0 about1 = true := by decide +kernel
theorem w_applies : (headSpec (Jvm.Cond.code x code maxLocals ret :: tables_1) room_1).applies x e0.platform about1 = true :=
  (Spec.applies_iff w_frames).mpr ⟨w_running, w_runnable, w_alone, w_named, w_hears, w_ripe, w_room, w_tables⟩
theorem atStart : AtStart classFile x code maxLocals ret World_1 tables_1 room_1 Calls_1 rest_1 Pre_1 launch0 p0 e0 about1 theMethod args0 below0 :=
  ⟨lists_1, trivial, launch0.admits_env _ _ _, launch0.least_env, fairChoices_fair.cas, fairChoices_fair.clock, w_frames, w_args, w_heap, w_applies, trivial, trivial, w_case⟩
end start1
theorem witness_1 : WitnessClaimed_1 := ⟨start1.p0, start1.e0, start1.about1, start1.theMethod, start1.args0, start1.below0, start1.atStart⟩
end Jvm.Pilot.@@N@@
