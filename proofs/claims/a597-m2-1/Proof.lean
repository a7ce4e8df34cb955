import JvmDerived
import JvmDerived.Pilot.@@N@@Statement
import JvmDerived.Pilot.@@N@@Code
set_option linter.unusedVariables false
set_option linter.unusedSimpArgs false
namespace Jvm.Pilot.@@N@@
open Jvm Jvm.ClassFile Sem Op Lib Jvm.Free Jvm.Stand Jvm.LawKit Jvm.RoadKit Bundle Jvm.Pilot.@@N@@.Jvm.D
section Own
variable {p : Program} {l : Launch} {e : Env} {R : Room} {s : State} {m : MethodId} {args : Array Value} {below : List Frame} {meth : Method} {c : Code} {T T' : State} {locs : List Loc} {cells slots : Nat} {Φ : State → Outcome → Prop} {g g' : JFrame}
/-- from (T, g) the run comes to an end that Φ takes -/
def Go (p : Program) (e : Env) (below : List Frame) (Φ : State → Outcome → Prop) (T : State) (g : JFrame) : Prop := ∃ t o, Steps p.tables e below (T.setTop g) t ∧ Φ t o
theorem Go.of (h : ∀ t, Steps p.tables e below (T'.setTop g') t → Steps p.tables e below (T.setTop g) t) (k : Go p e below Φ T' g') : Go p e below Φ T g := by
  obtain ⟨t, o, h1, h2⟩ := k
  exact ⟨t, o, h t h1, h2⟩
theorem Go.tr (h : Steps p.tables e below (T.setTop g) (T'.setTop g')) (k : Go p e below Φ T' g') : Go p e below Φ T g := by
  obtain ⟨t, o, h1, h2⟩ := k
  exact ⟨t, o, h.trans h1, h2⟩
/-- what a body owes at its end -/
def EndQ (s : State) (below : List Frame) (Q : Option Value → Heap → List Loc → Prop) (C S : Nat) (t : State) (o : Outcome) : Prop := t.status = .running ∧ Ended t below o ∧ ∃ v L, o = .returned v ∧ Q v t.heap L ∧ FrameEnd s o t L C S
theorem Go.ret (X : Stand p l e R s m args below meth c T locs cells slots) (hx : p.tables.exec = Jvm.exec) (hlocks : meth.locks = false) {pc : Nat} {Ls : Array Slot} {w : Value} {t : FieldType} {i : Instr} {rest : List Value} (hret : meth.sig.returnType = some t) (hn : narrow t w = w)
    (hi : (i = .ireturn ∧ (t = .int ∨ t = .boolean ∨ t = .byte ∨ t = .char ∨ t = .short) ∧ ∃ z, w = .int z) ∨ (i = .lreturn ∧ t = .long ∧ ∃ z, w = .long z) ∨ (i = .dreturn ∧ t = .double ∧ ∃ z, w = .double z) ∨ (i = .freturn ∧ t = .float ∧ ∃ z, w = .float z) ∨ (i = .areturn ∧ t.isReference = true ∧ w.isRef = true))
    (hd : decode c.code pc = .ok (i, 1)) {Q : Option Value → Heap → List Loc → Prop} {C S : Nat} (hC : cells ≤ C) (hS : slots ≤ S) (hQ : Q (some w) T.heap locs) : Go p e below (EndQ s below Q C S) T (mkF m pc Ls (w :: rest)) := by
  obtain ⟨fs, hr, hrun, hended, hW, hsame⟩ := X.leave (v := some w) (fun h => by rw [hret] at h; cases h) hlocks
  exact ⟨_, _, retOut X hx hret hn hi hd hr, hrun, hended, _, _, rfl, hQ, ⟨_, rfl⟩, hW, hsame.mono hC hS⟩
theorem Go.retV (X : Stand p l e R s m args below meth c T locs cells slots) (hx : p.tables.exec = Jvm.exec) (hlocks : meth.locks = false) {pc : Nat} {Ls : Array Slot} (hret : meth.sig.returnType = none)
    (hd : decode c.code pc = .ok (.return_, 1)) {Q : Option Value → Heap → List Loc → Prop} {C S : Nat} (hC : cells ≤ C) (hS : slots ≤ S) (hQ : Q none T.heap locs) : Go p e below (EndQ s below Q C S) T (mkF m pc Ls []) := by
  obtain ⟨fs, hr, hrun, hended, hW, hsame⟩ := X.leave (v := none) (fun _ => rfl) hlocks
  exact ⟨_, _, X.returnOut hx hret hd hr, hrun, hended, _, _, rfl, hQ, ⟨_, rfl⟩, hW, hsame.mono hC hS⟩
def own_ushr (x y : Int32) : Int32 := (x.toUInt32 >>> (y &&& 31).toUInt32).toInt32
def own_ushrL (x : Int64) (y : Int32) : Int64 := (x.toUInt64 >>> (y &&& 0x3f).toInt64.toUInt64).toInt64
theorem own_one {v : Int32} (h : v = 1) : narrow .boolean (.int v) = .int v := by rw [h]; rfl
theorem own_nar_ref {t : FieldType} {v : Value} (h : v.isRef = true) (ht : t.isReference = true := by rfl) : narrow t v = v := by cases v <;> simp [Value.isRef] at h <;> cases t <;> first | rfl | cases ht
theorem own_fits_ref {t : FieldType} {v : Value} (h : v.isRef = true) (ht : t.isReference = true := by rfl) : fits t v = true := by cases v <;> simp [Value.isRef] at h <;> cases t <;> first | rfl | cases ht
end Own
theorem own_d1_0 : decode prog_27_method_1_code 0 = .ok (.aload_n 0, 1) := by decide +kernel
theorem own_d1_1 : decode prog_27_method_1_code 1 = .ok (.invokespecial 1, 3) := by decide +kernel
theorem own_d1_4 : decode prog_27_method_1_code 4 = .ok (.aload_n 0, 1) := by decide +kernel
theorem own_d1_5 : decode prog_27_method_1_code 5 = .ok (.iload_n 1, 1) := by decide +kernel
theorem own_d1_6 : decode prog_27_method_1_code 6 = .ok (.putfield 7, 3) := by decide +kernel
theorem own_d1_9 : decode prog_27_method_1_code 9 = .ok (.aload_n 0, 1) := by decide +kernel
theorem own_d1_10 : decode prog_27_method_1_code 10 = .ok (.iload_n 2, 1) := by decide +kernel
theorem own_d1_11 : decode prog_27_method_1_code 11 = .ok (.putfield 13, 3) := by decide +kernel
theorem own_d1_14 : decode prog_27_method_1_code 14 = .ok (.return_, 1) := by decide +kernel
theorem own_d2_0 : decode jdk_30_method_1_code 0 = .ok (.aload_n 0, 1) := by decide +kernel
theorem own_d2_1 : decode jdk_30_method_1_code 1 = .ok (.invokespecial 1, 3) := by decide +kernel
theorem own_d2_4 : decode jdk_30_method_1_code 4 = .ok (.return_, 1) := by decide +kernel
theorem own_d4_0 : decode prog_27_method_5_code 0 = .ok (.aload_n 0, 1) := by decide +kernel
theorem own_d4_1 : decode prog_27_method_5_code 1 = .ok (.getfield 7, 3) := by decide +kernel
theorem own_d4_4 : decode prog_27_method_5_code 4 = .ok (.bipush 118, 2) := by decide +kernel
theorem own_d4_6 : decode prog_27_method_5_code 6 = .ok (.if_icmp .ne 7, 3) := by decide +kernel
theorem own_d4_9 : decode prog_27_method_5_code 9 = .ok (.iconst 1, 1) := by decide +kernel
theorem own_d4_10 : decode prog_27_method_5_code 10 = .ok (.goto 4, 3) := by decide +kernel
theorem own_d4_13 : decode prog_27_method_5_code 13 = .ok (.iconst 0, 1) := by decide +kernel
theorem own_d4_14 : decode prog_27_method_5_code 14 = .ok (.ireturn, 1) := by decide +kernel
theorem own_d5_0 : decode method_2_code 0 = .ok (.iload_n 0, 1) := by decide +kernel
theorem own_d5_1 : decode method_2_code 1 = .ok (.ifCond .ne 6, 3) := by decide +kernel
theorem own_d5_4 : decode method_2_code 4 = .ok (.bipush 105, 2) := by decide +kernel
theorem own_d5_6 : decode method_2_code 6 = .ok (.ireturn, 1) := by decide +kernel
theorem own_d5_7 : decode method_2_code 7 = .ok (.iload_n 0, 1) := by decide +kernel
theorem own_d5_8 : decode method_2_code 8 = .ok (.iconst 1, 1) := by decide +kernel
theorem own_d5_9 : decode method_2_code 9 = .ok (.if_icmp .ne 6, 3) := by decide +kernel
theorem own_d5_12 : decode method_2_code 12 = .ok (.bipush 114, 2) := by decide +kernel
theorem own_d5_14 : decode method_2_code 14 = .ok (.ireturn, 1) := by decide +kernel
theorem own_d5_15 : decode method_2_code 15 = .ok (.iload_n 0, 1) := by decide +kernel
theorem own_d5_16 : decode method_2_code 16 = .ok (.iconst 2, 1) := by decide +kernel
theorem own_d5_17 : decode method_2_code 17 = .ok (.if_icmp .ne 6, 3) := by decide +kernel
theorem own_d5_20 : decode method_2_code 20 = .ok (.bipush 115, 2) := by decide +kernel
theorem own_d5_22 : decode method_2_code 22 = .ok (.ireturn, 1) := by decide +kernel
theorem own_d5_23 : decode method_2_code 23 = .ok (.iload_n 0, 1) := by decide +kernel
theorem own_d5_24 : decode method_2_code 24 = .ok (.iconst 3, 1) := by decide +kernel
theorem own_d5_25 : decode method_2_code 25 = .ok (.if_icmp .ne 6, 3) := by decide +kernel
theorem own_d5_28 : decode method_2_code 28 = .ok (.bipush 117, 2) := by decide +kernel
theorem own_d5_30 : decode method_2_code 30 = .ok (.ireturn, 1) := by decide +kernel
theorem own_d5_31 : decode method_2_code 31 = .ok (.bipush 118, 2) := by decide +kernel
theorem own_d5_33 : decode method_2_code 33 = .ok (.ireturn, 1) := by decide +kernel
theorem own_d6_0 : decode prog_27_method_2_code 0 = .ok (.new 8, 3) := by decide +kernel
theorem own_d6_3 : decode prog_27_method_2_code 3 = .ok (.dup, 1) := by decide +kernel
theorem own_d6_4 : decode prog_27_method_2_code 4 = .ok (.aload_n 0, 1) := by decide +kernel
theorem own_d6_5 : decode prog_27_method_2_code 5 = .ok (.getfield 7, 3) := by decide +kernel
theorem own_d6_8 : decode prog_27_method_2_code 8 = .ok (.aload_n 1, 1) := by decide +kernel
theorem own_d6_9 : decode prog_27_method_2_code 9 = .ok (.getfield 7, 3) := by decide +kernel
theorem own_d6_12 : decode prog_27_method_2_code 12 = .ok (.invokestatic 17, 3) := by decide +kernel
theorem own_d6_15 : decode prog_27_method_2_code 15 = .ok (.i2c, 1) := by decide +kernel
theorem own_d6_16 : decode prog_27_method_2_code 16 = .ok (.aload_n 0, 1) := by decide +kernel
theorem own_d6_17 : decode prog_27_method_2_code 17 = .ok (.getfield 13, 3) := by decide +kernel
theorem own_d6_20 : decode prog_27_method_2_code 20 = .ok (.ifCond .ne 10, 3) := by decide +kernel
theorem own_d6_23 : decode prog_27_method_2_code 23 = .ok (.aload_n 1, 1) := by decide +kernel
theorem own_d6_24 : decode prog_27_method_2_code 24 = .ok (.getfield 13, 3) := by decide +kernel
theorem own_d6_27 : decode prog_27_method_2_code 27 = .ok (.ifCond .eq 7, 3) := by decide +kernel
theorem own_d6_30 : decode prog_27_method_2_code 30 = .ok (.iconst 1, 1) := by decide +kernel
theorem own_d6_31 : decode prog_27_method_2_code 31 = .ok (.goto 4, 3) := by decide +kernel
theorem own_d6_34 : decode prog_27_method_2_code 34 = .ok (.iconst 0, 1) := by decide +kernel
theorem own_d6_35 : decode prog_27_method_2_code 35 = .ok (.invokespecial 23, 3) := by decide +kernel
theorem own_d6_38 : decode prog_27_method_2_code 38 = .ok (.areturn, 1) := by decide +kernel
theorem own_d7_0 : decode jdk_29_method_65_code 0 = .ok (.iload_n 0, 1) := by decide +kernel
theorem own_d7_1 : decode jdk_29_method_65_code 1 = .ok (.iload_n 1, 1) := by decide +kernel
theorem own_d7_2 : decode jdk_29_method_65_code 2 = .ok (.if_icmp .lt 7, 3) := by decide +kernel
theorem own_d7_5 : decode jdk_29_method_65_code 5 = .ok (.iload_n 0, 1) := by decide +kernel
theorem own_d7_6 : decode jdk_29_method_65_code 6 = .ok (.goto 4, 3) := by decide +kernel
theorem own_d7_9 : decode jdk_29_method_65_code 9 = .ok (.iload_n 1, 1) := by decide +kernel
theorem own_d7_10 : decode jdk_29_method_65_code 10 = .ok (.ireturn, 1) := by decide +kernel
theorem own_pn0 : plainName "java/lang/Record" = true := by first | (simp [plainName, overriddenIn]; done) | decide +kernel
theorem own_pn1 : plainName "com/example/shelfset/shelfset/Catalog$Function" = true := by first | (simp [plainName, overriddenIn]; done) | decide +kernel
theorem own_pn2 : plainName "com/example/shelfset/shelfset/FunctionMayWritePinLaw" = true := by first | (simp [plainName, overriddenIn]; done) | decide +kernel
theorem own_pd0 : parseMethodDescriptor "()V" = some ⟨[], none⟩ := by decide +kernel
theorem own_pd1 : parseMethodDescriptor "(II)I" = some ⟨[.int, .int], some .int⟩ := by decide +kernel
theorem own_pd2 : parseMethodDescriptor "(CZ)V" = some ⟨[.char, .boolean], none⟩ := by decide +kernel
theorem own_pd3 : parseMethodDescriptor "()Z" = some ⟨[], some .boolean⟩ := by decide +kernel
theorem own_pd4 : parseMethodDescriptor "(I)C" = some ⟨[.int], some .char⟩ := by decide +kernel
theorem own_pd5 : parseMethodDescriptor "(Lcom/example/shelfset/shelfset/Catalog$Function;)Lcom/example/shelfset/shelfset/Catalog$Function;" = some ⟨[(.object "com/example/shelfset/shelfset/Catalog$Function")], some (.object "com/example/shelfset/shelfset/Catalog$Function")⟩ := by decide +kernel
theorem own_ef2 (m : MethodId) (a : Addr) : entryFrame m #[(.ref a)] 1 = mkF m 0 #[.val (.ref a)] [] := by first | (simp [entryFrame, mkF, argsToLocals, Value.category]; done) | rfl
def Q2 (Z : State) (a : Addr) (h0 : Heap) (n0 : Nat) (vr : Option Value) (hr : Heap) (Lr : List Loc) : Prop := vr = none ∧ Fr n0 Lr ∧ hr = h0
set_option maxRecDepth 65536 in
set_option maxHeartbeats 40000000 in
theorem rm2 (l : Launch) (Z : State) (a0 : Array Value) (hw : ∀ d ∈ tables_1, d.before a0 Z = true) (ws : List Jvm.Cond) (a : Addr) (h0 : Heap) (n0 : Nat) (Z0 : n0 ≤ h0.size) :
    MetFree l (⟨"java/lang/Record", "<init>", "()V"⟩ : MethodName) (head1 (Jvm.Cond.code (⟨"java/lang/Record", "<init>", "()V"⟩ : MethodName) jdk_30_method_1_code 1 none :: ws) ({ frames := 1, cells := 0, slots := 0, locals := 12 } : Room)) (fun aQ UQ => aQ = #[(.ref a)] ∧ Z.Warmed39 UQ.vm ∧ UQ.heap = h0) (fun _ _ _ _ _ => True) (fun _ UQ oQ VQ => ∃ vQ LQ, oQ = .returned vQ ∧ Q2 Z a h0 n0 vQ VQ.heap LQ ∧ FrameEnd UQ oQ VQ LQ ({ frames := 1, cells := 0, slots := 0, locals := 12 } : Room).cells ({ frames := 1, cells := 0, slots := 0, locals := 12 } : Room).slots) := by
  refine MetFree.of_bodySF (plainFor_of_name own_pn0) hisR ?_
  intro p e s m args below meth c s₁ Bd hml0 hP hK
  obtain ⟨rfl, hZ, hh⟩ := hP
  have hx := Bd.exec
  have hby := Bd.bytes
  have hml : c.maxLocals = 1 := hml0
  have hown : s.vm.findClass "java/lang/Record" = some m.cls := findClass_of_methodNamed Bd.named
  have hnm := (name_of_methodNamed Bd.named Bd.method).1
  have X0 : Stand p l e ({ frames := 1, cells := 0, slots := 0, locals := 12 } : Room) s m #[(.ref a)] below meth c s₁ [] 0 0 := Stand.of_body Bd
  have e0 : s₁.heap = h0 := by rw [← hh, Bd.state]; rfl
  have N0 := Fr.nil n0
  show Go p e below (EndQ s below (Q2 Z a h0 n0) ({ frames := 1, cells := 0, slots := 0, locals := 12 } : Room).cells ({ frames := 1, cells := 0, slots := 0, locals := 12 } : Room).slots) s₁ (entryFrame m #[(.ref a)] 1)
  obtain ⟨Φ, hΦ⟩ : ∃ Φ, Φ = EndQ s below (Q2 Z a h0 n0) ({ frames := 1, cells := 0, slots := 0, locals := 12 } : Room).cells ({ frames := 1, cells := 0, slots := 0, locals := 12 } : Room).slots := ⟨_, rfl⟩
  rw [← hΦ, own_ef2]
  show Go p e below Φ s₁ (mkF m 0 #[.val (.ref a)] [])
  refine Go.of (fun t k => XS.aloadN X0.here hx rfl (hb hby own_d2_0) rfl rfl  k) ?_
  show Go p e below Φ s₁ (mkF m 1 #[.val (.ref a)] [(.ref a)])
  obtain ⟨T1, X1, e1, st1⟩ := initO X0 hx hZ hown (hw _ (List.mem_of_getElem? (i := 12) rfl)) (hw _ (List.mem_of_getElem? (i := 13) rfl)) (hw _ (List.mem_of_getElem? (i := 14) rfl)) e0 (g := (mkF m 1 #[.val (.ref a)] [(.ref a)])) rfl (by rw [hml]; rfl) rfl (hb hby own_d2_1) (by decide) (W := 0) (by show 2 * 0 + _ ≤ _; exact Nat.le_of_eq rfl) (by decide)
  refine Go.of st1 ?_
  show Go p e below Φ T1 (mkF m 4 #[.val (.ref a)] [])
  rw [hΦ]
  refine Go.retV X1 hx Bd.notSynchronized Bd.returns (hb hby own_d2_4) (by decide) (by decide) ?_
  rw [e1]
  exact ⟨rfl, N0, rfl⟩
theorem own_ef1 (m : MethodId) (a : Addr) (cc : Int32) (z : Int32) : entryFrame m #[(.ref a), (.int cc), (.int z)] 3 = mkF m 0 #[.val (.ref a), .val (.int cc), .val (.int z)] [] := by first | (simp [entryFrame, mkF, argsToLocals, Value.category]; done) | rfl
def Q1 (Z : State) (a : Addr) (cc : Int32) (z : Int32) (w1 : Int32) (w2 : Int32) (h0 : Heap) (n0 : Nat) (vr : Option Value) (hr : Heap) (Lr : List Loc) : Prop := vr = none ∧ Fr n0 Lr ∧ Keep h0 hr [a] ∧ Exa Z hr a "com/example/shelfset/shelfset/Catalog$Function" ∧ Fld Z hr a "com/example/shelfset/shelfset/Catalog$Function" "volatility" "C" (.int (nar .char cc)) ∧ Fld Z hr a "com/example/shelfset/shelfset/Catalog$Function" "returnsSets" "Z" (.int (nar .boolean z))
set_option maxRecDepth 65536 in
set_option maxHeartbeats 40000000 in
theorem rm1 (l : Launch) (Z : State) (a0 : Array Value) (hw : ∀ d ∈ tables_1, d.before a0 Z = true) (ws : List Jvm.Cond) (a : Addr) (cc : Int32) (z : Int32) (w1 : Int32) (w2 : Int32) (h0 : Heap) (n0 : Nat) (Z0 : n0 ≤ h0.size) (F_a_volatility : Fld Z h0 a "com/example/shelfset/shelfset/Catalog$Function" "volatility" "C" (.int w1)) (F_a_returnsSets : Fld Z h0 a "com/example/shelfset/shelfset/Catalog$Function" "returnsSets" "Z" (.int w2)) (E_a : Exa Z h0 a "com/example/shelfset/shelfset/Catalog$Function") (g_a : n0 ≤ a) :
    MetFree l (⟨"com/example/shelfset/shelfset/Catalog$Function", "<init>", "(CZ)V"⟩ : MethodName) (head1 (Jvm.Cond.code (⟨"com/example/shelfset/shelfset/Catalog$Function", "<init>", "(CZ)V"⟩ : MethodName) prog_27_method_1_code 3 none :: ws) ({ frames := 2, cells := 0, slots := 0, locals := 24 } : Room)) (fun aQ UQ => aQ = #[(.ref a), (.int cc), (.int z)] ∧ Z.Warmed39 UQ.vm ∧ UQ.heap = h0) (fun _ _ _ _ _ => True) (fun _ UQ oQ VQ => ∃ vQ LQ, oQ = .returned vQ ∧ Q1 Z a cc z w1 w2 h0 n0 vQ VQ.heap LQ ∧ FrameEnd UQ oQ VQ LQ ({ frames := 2, cells := 0, slots := 0, locals := 24 } : Room).cells ({ frames := 2, cells := 0, slots := 0, locals := 24 } : Room).slots) := by
  refine MetFree.of_bodySF (plainFor_of_name own_pn1) hisR ?_
  intro p e s m args below meth c s₁ Bd hml0 hP hK
  obtain ⟨rfl, hZ, hh⟩ := hP
  have hx := Bd.exec
  have hby := Bd.bytes
  have hml : c.maxLocals = 3 := hml0
  have hown : s.vm.findClass "com/example/shelfset/shelfset/Catalog$Function" = some m.cls := findClass_of_methodNamed Bd.named
  have hnm := (name_of_methodNamed Bd.named Bd.method).1
  have X0 : Stand p l e ({ frames := 2, cells := 0, slots := 0, locals := 24 } : Room) s m #[(.ref a), (.int cc), (.int z)] below meth c s₁ [] 0 0 := Stand.of_body Bd
  have e0 : s₁.heap = h0 := by rw [← hh, Bd.state]; rfl
  have N0 := Fr.nil n0
  show Go p e below (EndQ s below (Q1 Z a cc z w1 w2 h0 n0) ({ frames := 2, cells := 0, slots := 0, locals := 24 } : Room).cells ({ frames := 2, cells := 0, slots := 0, locals := 24 } : Room).slots) s₁ (entryFrame m #[(.ref a), (.int cc), (.int z)] 3)
  obtain ⟨Φ, hΦ⟩ : ∃ Φ, Φ = EndQ s below (Q1 Z a cc z w1 w2 h0 n0) ({ frames := 2, cells := 0, slots := 0, locals := 24 } : Room).cells ({ frames := 2, cells := 0, slots := 0, locals := 24 } : Room).slots := ⟨_, rfl⟩
  rw [← hΦ, own_ef1]
  show Go p e below Φ s₁ (mkF m 0 #[.val (.ref a), .val (.int cc), .val (.int z)] [])
  refine Go.of (fun t k => XS.aloadN X0.here hx rfl (hb hby own_d1_0) rfl rfl  k) ?_
  show Go p e below Φ s₁ (mkF m 1 #[.val (.ref a), .val (.int cc), .val (.int z)] [(.ref a)])
  obtain ⟨_, _, ⟨T1, L1, k1, n1⟩, -, X1, ⟨Lc1, hQ1, l1, y1, z1⟩, st1⟩ := X0.specialBack hx (y := (⟨"java/lang/Record", "<init>", "()V"⟩ : MethodName)) rfl hown (mvT hZ (hw _ (List.mem_of_getElem? (i := 7) rfl))) (mvT hZ (hw _ (List.mem_of_getElem? (i := 8) rfl))) (mvT hZ (hw _ (List.mem_of_getElem? (i := 11) rfl))) (by decide) (backOf (W := 0) (rm2 l Z a0 hw [] a h0 n0 Z0 ) hZ (hw _ (List.mem_of_getElem? (i := 11) rfl)) (hw _ (List.mem_of_getElem? (i := 10) rfl)) (by decide) (by decide)) (g := (mkF m 1 #[.val (.ref a), .val (.int cc), .val (.int z)] [(.ref a)])) rfl (by rw [hml]; rfl) (Steps.refl _) (a := a) (argsL := []) (rest := []) (lenOf own_pd0 rfl) rfl (by show 2 * 0 + _ ≤ _; exact Nat.le_of_eq rfl) (hb hby own_d1_1) (fun _ _ => ⟨rfl, e0, (by decide : 0 + 0 ≤ _), (by decide : 0 + 0 ≤ _)⟩)
  dsimp only [Pt.U, Pt.locs, Pt.cells, Pt.slots] at X1 l1 y1 z1 st1 hQ1
  subst l1 y1 z1
  obtain ⟨rfl, N1q, e1q⟩ := hQ1
  have N1 := Fr.app N0 N1q
  obtain ⟨lc1, X1, N1⟩ : ∃ lc, Stand p l e ({ frames := 2, cells := 0, slots := 0, locals := 24 } : Room) s m #[(.ref a), (.int cc), (.int z)] below meth c T1 lc 0 0 ∧ Fr n0 lc := ⟨_, X1, N1⟩
  refine Go.tr st1 ?_
  show Go p e below Φ T1 (mkF m 4 #[.val (.ref a), .val (.int cc), .val (.int z)] [])
  refine Go.of (fun t k => XS.aloadN X1.here hx rfl (hb hby own_d1_4) rfl rfl  k) ?_
  show Go p e below Φ T1 (mkF m 5 #[.val (.ref a), .val (.int cc), .val (.int z)] [(.ref a)])
  refine Go.of (fun t k => XS.iloadN X1.here hx rfl (hb hby own_d1_5) rfl  k) ?_
  show Go p e below Φ T1 (mkF m 6 #[.val (.ref a), .val (.int cc), .val (.int z)] [(.int cc), (.ref a)])
  obtain ⟨T2, h2, X2, e2, W2, st2⟩ := putFN X1 hx hZ hown (hw _ (List.mem_of_getElem? (i := 15) rfl)) Via.refl (e1q) F_a_volatility E_a (Or.inr ⟨(hw _ (List.mem_of_getElem? (i := 16) rfl)), rfl, hnm⟩) (hw _ (List.mem_of_getElem? (i := 2) rfl)) (ty := .char) (v' := (.int (nar .char cc))) (by decide) rfl (fits_nar_char _) (g := (mkF m 6 #[.val (.ref a), .val (.int cc), .val (.int z)] [(.int cc), (.ref a)])) rfl rfl (hb hby own_d1_6)
  have N2 := Fr.snoc X2 N1 g_a
  have F_a_volatility := F_a_volatility.same W2
  have F_a_returnsSets := F_a_returnsSets.other W2 (Or.inr (slot_ne (Or.inr (hw _ (List.mem_of_getElem? (i := 18) rfl))) (Or.inr (hw _ (List.mem_of_getElem? (i := 16) rfl))) (by decide) (t := .boolean) (t' := .char) (by decide) (by decide)))
  have E_a := E_a.wr W2
  have K2 : Keep h0 h2 [a] := (Keep.refl h0 [a]).wr W2 (Or.inl (List.mem_of_getElem? (i := 0) rfl))
  have Z2 := Nat.le_trans Z0 (Keep.of_wr W2).1
  obtain ⟨lc2, X2, N2⟩ : ∃ lc, Stand p l e ({ frames := 2, cells := 0, slots := 0, locals := 24 } : Room) s m #[(.ref a), (.int cc), (.int z)] below meth c T2 lc 0 0 ∧ Fr n0 lc := ⟨_, X2, N2⟩
  refine Go.of st2 ?_
  show Go p e below Φ T2 (mkF m 9 #[.val (.ref a), .val (.int cc), .val (.int z)] [])
  refine Go.of (fun t k => XS.aloadN X2.here hx rfl (hb hby own_d1_9) rfl rfl  k) ?_
  show Go p e below Φ T2 (mkF m 10 #[.val (.ref a), .val (.int cc), .val (.int z)] [(.ref a)])
  refine Go.of (fun t k => XS.iloadN X2.here hx rfl (hb hby own_d1_10) rfl  k) ?_
  show Go p e below Φ T2 (mkF m 11 #[.val (.ref a), .val (.int cc), .val (.int z)] [(.int z), (.ref a)])
  obtain ⟨T3, h3, X3, e3, W3, st3⟩ := putFN X2 hx hZ hown (hw _ (List.mem_of_getElem? (i := 17) rfl)) Via.refl e2 F_a_returnsSets E_a (Or.inr ⟨(hw _ (List.mem_of_getElem? (i := 18) rfl)), rfl, hnm⟩) (hw _ (List.mem_of_getElem? (i := 2) rfl)) (ty := .boolean) (v' := (.int (nar .boolean z))) (by decide) rfl (fits_nar_bool _) (g := (mkF m 11 #[.val (.ref a), .val (.int cc), .val (.int z)] [(.int z), (.ref a)])) rfl rfl (hb hby own_d1_11)
  have N3 := Fr.snoc X3 N2 g_a
  have F_a_returnsSets := F_a_returnsSets.same W3
  have F_a_volatility := F_a_volatility.other W3 (Or.inr (slot_ne (Or.inr (hw _ (List.mem_of_getElem? (i := 16) rfl))) (Or.inr (hw _ (List.mem_of_getElem? (i := 18) rfl))) (by decide) (t := .char) (t' := .boolean) (by decide) (by decide)))
  have E_a := E_a.wr W3
  have K3 : Keep h0 h3 [a] := K2.wr W3 (Or.inl (List.mem_of_getElem? (i := 0) rfl))
  have Z3 := Nat.le_trans Z2 (Keep.of_wr W3).1
  obtain ⟨lc3, X3, N3⟩ : ∃ lc, Stand p l e ({ frames := 2, cells := 0, slots := 0, locals := 24 } : Room) s m #[(.ref a), (.int cc), (.int z)] below meth c T3 lc 0 0 ∧ Fr n0 lc := ⟨_, X3, N3⟩
  refine Go.of st3 ?_
  show Go p e below Φ T3 (mkF m 14 #[.val (.ref a), .val (.int cc), .val (.int z)] [])
  rw [hΦ]
  refine Go.retV X3 hx Bd.notSynchronized Bd.returns (hb hby own_d1_14) (by decide) (by decide) ?_
  rw [e3]
  exact ⟨rfl, N3, K3, E_a, F_a_volatility, F_a_returnsSets⟩
def own_may (w : Int32) : Int32 := (if w = (118 : Int32) then (1 : Int32) else (0 : Int32))
theorem own_ef4 (m : MethodId) (a : Addr) : entryFrame m #[(.ref a)] 1 = mkF m 0 #[.val (.ref a)] [] := by first | (simp [entryFrame, mkF, argsToLocals, Value.category]; done) | rfl
def Q4 (Z : State) (a : Addr) (w : Int32) (h0 : Heap) (n0 : Nat) (vr : Option Value) (hr : Heap) (Lr : List Loc) : Prop := vr = some (.int (own_may w)) ∧ Fr n0 Lr ∧ hr = h0
set_option maxRecDepth 65536 in
set_option maxHeartbeats 40000000 in
theorem rm4 (l : Launch) (Z : State) (a0 : Array Value) (hw : ∀ d ∈ tables_1, d.before a0 Z = true) (ws : List Jvm.Cond) (a : Addr) (w : Int32) (h0 : Heap) (n0 : Nat) (Z0 : n0 ≤ h0.size) (F_a_volatility : Fld Z h0 a "com/example/shelfset/shelfset/Catalog$Function" "volatility" "C" (.int w)) :
    MetFree l (⟨"com/example/shelfset/shelfset/Catalog$Function", "mayWrite", "()Z"⟩ : MethodName) (head1 (Jvm.Cond.code (⟨"com/example/shelfset/shelfset/Catalog$Function", "mayWrite", "()Z"⟩ : MethodName) prog_27_method_5_code 1 (some .boolean) :: ws) ({ frames := 0, cells := 0, slots := 0, locals := 0 } : Room)) (fun aQ UQ => aQ = #[(.ref a)] ∧ Z.Warmed39 UQ.vm ∧ UQ.heap = h0) (fun _ _ _ _ _ => True) (fun _ UQ oQ VQ => ∃ vQ LQ, oQ = .returned vQ ∧ Q4 Z a w h0 n0 vQ VQ.heap LQ ∧ FrameEnd UQ oQ VQ LQ ({ frames := 0, cells := 0, slots := 0, locals := 0 } : Room).cells ({ frames := 0, cells := 0, slots := 0, locals := 0 } : Room).slots) := by
  refine MetFree.of_bodySF (plainFor_of_name own_pn1) hisR ?_
  intro p e s m args below meth c s₁ Bd hml0 hP hK
  obtain ⟨rfl, hZ, hh⟩ := hP
  have hx := Bd.exec
  have hby := Bd.bytes
  have hml : c.maxLocals = 1 := hml0
  have hown : s.vm.findClass "com/example/shelfset/shelfset/Catalog$Function" = some m.cls := findClass_of_methodNamed Bd.named
  have hnm := (name_of_methodNamed Bd.named Bd.method).1
  have X0 : Stand p l e ({ frames := 0, cells := 0, slots := 0, locals := 0 } : Room) s m #[(.ref a)] below meth c s₁ [] 0 0 := Stand.of_body Bd
  have e0 : s₁.heap = h0 := by rw [← hh, Bd.state]; rfl
  have N0 := Fr.nil n0
  show Go p e below (EndQ s below (Q4 Z a w h0 n0) ({ frames := 0, cells := 0, slots := 0, locals := 0 } : Room).cells ({ frames := 0, cells := 0, slots := 0, locals := 0 } : Room).slots) s₁ (entryFrame m #[(.ref a)] 1)
  obtain ⟨Φ, hΦ⟩ : ∃ Φ, Φ = EndQ s below (Q4 Z a w h0 n0) ({ frames := 0, cells := 0, slots := 0, locals := 0 } : Room).cells ({ frames := 0, cells := 0, slots := 0, locals := 0 } : Room).slots := ⟨_, rfl⟩
  rw [← hΦ, own_ef4]
  show Go p e below Φ s₁ (mkF m 0 #[.val (.ref a)] [])
  refine Go.of (fun t k => XS.aloadN X0.here hx rfl (hb hby own_d4_0) rfl rfl  k) ?_
  show Go p e below Φ s₁ (mkF m 1 #[.val (.ref a)] [(.ref a)])
  obtain ⟨T1, X1, e1, st1⟩ := getF X0 hx hZ hown (host := "") (Or.inl (hw _ (List.mem_of_getElem? (i := 15) rfl))) Via.refl e0 F_a_volatility (g := (mkF m 1 #[.val (.ref a)] [(.ref a)])) rfl rfl (hb hby own_d4_1)
  refine Go.of st1 ?_
  show Go p e below Φ T1 (mkF m 4 #[.val (.ref a)] [(.int w)])
  refine Go.of (fun t k => XS.bipush X1.here hx rfl (hb hby own_d4_4) k) ?_
  show Go p e below Φ T1 (mkF m 6 #[.val (.ref a)] [(.int (118 : Int32)), (.int w)])
  by_cases hc6 : w = (118 : Int32)
  · refine Go.of (fun t k => XS.icmpNo X1.here hx rfl (hb hby own_d4_6) rfl (XT.ii_ne_f hc6) k) ?_
    show Go p e below Φ T1 (mkF m 9 #[.val (.ref a)] [])
    refine Go.of (fun t k => XS.iconst X1.here hx rfl (hb hby own_d4_9) k) ?_
    show Go p e below Φ T1 (mkF m 10 #[.val (.ref a)] [(.int (1 : Int32))])
    refine Go.of (fun t k => XS.goto X1.here hx rfl (pc0 := 10) (pc' := 14) rfl (hb hby own_d4_10) (by decide) (by decide) k) ?_
    show Go p e below Φ T1 (mkF m 14 #[.val (.ref a)] [(.int (1 : Int32))])
    rw [hΦ]
    refine Go.ret X1 hx Bd.notSynchronized Bd.returns rfl (Or.inl ⟨rfl, Or.inr (Or.inl rfl), _, rfl⟩) (hb hby own_d4_14) (by decide) (by decide) ?_
    rw [e1]
    exact ⟨by rw [own_may, if_pos hc6], N0, rfl⟩
  · refine Go.of (fun t k => XS.icmpYes X1.here hx rfl (pc0 := 6) (pc' := 13) rfl (hb hby own_d4_6) rfl (XT.ii_ne_t hc6) (by decide) (by decide) k) ?_
    show Go p e below Φ T1 (mkF m 13 #[.val (.ref a)] [])
    refine Go.of (fun t k => XS.iconst X1.here hx rfl (hb hby own_d4_13) k) ?_
    show Go p e below Φ T1 (mkF m 14 #[.val (.ref a)] [(.int (0 : Int32))])
    rw [hΦ]
    refine Go.ret X1 hx Bd.notSynchronized Bd.returns rfl (Or.inl ⟨rfl, Or.inr (Or.inl rfl), _, rfl⟩) (hb hby own_d4_14) (by decide) (by decide) ?_
    rw [e1]
    exact ⟨by rw [own_may, if_neg hc6], N0, rfl⟩
def own_level (kk : Int32) : Int32 := (if kk = (0 : Int32) then (105 : Int32) else (if kk = (1 : Int32) then (114 : Int32) else (if kk = (2 : Int32) then (115 : Int32) else (if kk = (3 : Int32) then (117 : Int32) else (118 : Int32)))))
theorem own_ef5 (m : MethodId) (kk : Int32) : entryFrame m #[(.int kk)] 1 = mkF m 0 #[.val (.int kk)] [] := by first | (simp [entryFrame, mkF, argsToLocals, Value.category]; done) | rfl
def Q5 (Z : State) (kk : Int32) (h0 : Heap) (n0 : Nat) (vr : Option Value) (hr : Heap) (Lr : List Loc) : Prop := vr = some (.int (own_level kk)) ∧ Fr n0 Lr ∧ hr = h0
set_option maxRecDepth 65536 in
set_option maxHeartbeats 40000000 in
theorem rm5 (l : Launch) (Z : State) (a0 : Array Value) (hw : ∀ d ∈ tables_1, d.before a0 Z = true) (ws : List Jvm.Cond) (kk : Int32) (h0 : Heap) (n0 : Nat) (Z0 : n0 ≤ h0.size) :
    MetFree l (⟨"com/example/shelfset/shelfset/FunctionMayWritePinLaw", "level", "(I)C"⟩ : MethodName) (head1 (Jvm.Cond.code (⟨"com/example/shelfset/shelfset/FunctionMayWritePinLaw", "level", "(I)C"⟩ : MethodName) method_2_code 1 (some .char) :: ws) ({ frames := 0, cells := 0, slots := 0, locals := 0 } : Room)) (fun aQ UQ => aQ = #[(.int kk)] ∧ Z.Warmed39 UQ.vm ∧ UQ.heap = h0) (fun _ _ _ _ _ => True) (fun _ UQ oQ VQ => ∃ vQ LQ, oQ = .returned vQ ∧ Q5 Z kk h0 n0 vQ VQ.heap LQ ∧ FrameEnd UQ oQ VQ LQ ({ frames := 0, cells := 0, slots := 0, locals := 0 } : Room).cells ({ frames := 0, cells := 0, slots := 0, locals := 0 } : Room).slots) := by
  refine MetFree.of_bodySF (plainFor_of_name own_pn2) hisR ?_
  intro p e s m args below meth c s₁ Bd hml0 hP hK
  obtain ⟨rfl, hZ, hh⟩ := hP
  have hx := Bd.exec
  have hby := Bd.bytes
  have hml : c.maxLocals = 1 := hml0
  have hown : s.vm.findClass "com/example/shelfset/shelfset/FunctionMayWritePinLaw" = some m.cls := findClass_of_methodNamed Bd.named
  have hnm := (name_of_methodNamed Bd.named Bd.method).1
  have X0 : Stand p l e ({ frames := 0, cells := 0, slots := 0, locals := 0 } : Room) s m #[(.int kk)] below meth c s₁ [] 0 0 := Stand.of_body Bd
  have e0 : s₁.heap = h0 := by rw [← hh, Bd.state]; rfl
  have N0 := Fr.nil n0
  show Go p e below (EndQ s below (Q5 Z kk h0 n0) ({ frames := 0, cells := 0, slots := 0, locals := 0 } : Room).cells ({ frames := 0, cells := 0, slots := 0, locals := 0 } : Room).slots) s₁ (entryFrame m #[(.int kk)] 1)
  obtain ⟨Φ, hΦ⟩ : ∃ Φ, Φ = EndQ s below (Q5 Z kk h0 n0) ({ frames := 0, cells := 0, slots := 0, locals := 0 } : Room).cells ({ frames := 0, cells := 0, slots := 0, locals := 0 } : Room).slots := ⟨_, rfl⟩
  rw [← hΦ, own_ef5]
  show Go p e below Φ s₁ (mkF m 0 #[.val (.int kk)] [])
  refine Go.of (fun t k => XS.iloadN X0.here hx rfl (hb hby own_d5_0) rfl  k) ?_
  show Go p e below Φ s₁ (mkF m 1 #[.val (.int kk)] [(.int kk)])
  by_cases hc1 : kk = (0 : Int32)
  · refine Go.of (fun t k => XS.ifNo X0.here hx rfl (hb hby own_d5_1) rfl (XT.i0_ne_f hc1) k) ?_
    show Go p e below Φ s₁ (mkF m 4 #[.val (.int kk)] [])
    refine Go.of (fun t k => XS.bipush X0.here hx rfl (hb hby own_d5_4) k) ?_
    show Go p e below Φ s₁ (mkF m 6 #[.val (.int kk)] [(.int (105 : Int32))])
    rw [hΦ]
    refine Go.ret X0 hx Bd.notSynchronized Bd.returns rfl (Or.inl ⟨rfl, Or.inr (Or.inr (Or.inr (Or.inl rfl))), _, rfl⟩) (hb hby own_d5_6) (by decide) (by decide) ?_
    rw [e0]
    exact ⟨by rw [own_level, if_pos hc1], N0, rfl⟩
  · refine Go.of (fun t k => XS.ifYes X0.here hx rfl (pc0 := 1) (pc' := 7) rfl (hb hby own_d5_1) rfl (XT.i0_ne_t hc1) (by decide) (by decide) k) ?_
    show Go p e below Φ s₁ (mkF m 7 #[.val (.int kk)] [])
    refine Go.of (fun t k => XS.iloadN X0.here hx rfl (hb hby own_d5_7) rfl  k) ?_
    show Go p e below Φ s₁ (mkF m 8 #[.val (.int kk)] [(.int kk)])
    refine Go.of (fun t k => XS.iconst X0.here hx rfl (hb hby own_d5_8) k) ?_
    show Go p e below Φ s₁ (mkF m 9 #[.val (.int kk)] [(.int (1 : Int32)), (.int kk)])
    by_cases hc9 : kk = (1 : Int32)
    · refine Go.of (fun t k => XS.icmpNo X0.here hx rfl (hb hby own_d5_9) rfl (XT.ii_ne_f hc9) k) ?_
      show Go p e below Φ s₁ (mkF m 12 #[.val (.int kk)] [])
      refine Go.of (fun t k => XS.bipush X0.here hx rfl (hb hby own_d5_12) k) ?_
      show Go p e below Φ s₁ (mkF m 14 #[.val (.int kk)] [(.int (114 : Int32))])
      rw [hΦ]
      refine Go.ret X0 hx Bd.notSynchronized Bd.returns rfl (Or.inl ⟨rfl, Or.inr (Or.inr (Or.inr (Or.inl rfl))), _, rfl⟩) (hb hby own_d5_14) (by decide) (by decide) ?_
      rw [e0]
      exact ⟨by rw [own_level, if_neg hc1, if_pos hc9], N0, rfl⟩
    · refine Go.of (fun t k => XS.icmpYes X0.here hx rfl (pc0 := 9) (pc' := 15) rfl (hb hby own_d5_9) rfl (XT.ii_ne_t hc9) (by decide) (by decide) k) ?_
      show Go p e below Φ s₁ (mkF m 15 #[.val (.int kk)] [])
      refine Go.of (fun t k => XS.iloadN X0.here hx rfl (hb hby own_d5_15) rfl  k) ?_
      show Go p e below Φ s₁ (mkF m 16 #[.val (.int kk)] [(.int kk)])
      refine Go.of (fun t k => XS.iconst X0.here hx rfl (hb hby own_d5_16) k) ?_
      show Go p e below Φ s₁ (mkF m 17 #[.val (.int kk)] [(.int (2 : Int32)), (.int kk)])
      by_cases hc17 : kk = (2 : Int32)
      · refine Go.of (fun t k => XS.icmpNo X0.here hx rfl (hb hby own_d5_17) rfl (XT.ii_ne_f hc17) k) ?_
        show Go p e below Φ s₁ (mkF m 20 #[.val (.int kk)] [])
        refine Go.of (fun t k => XS.bipush X0.here hx rfl (hb hby own_d5_20) k) ?_
        show Go p e below Φ s₁ (mkF m 22 #[.val (.int kk)] [(.int (115 : Int32))])
        rw [hΦ]
        refine Go.ret X0 hx Bd.notSynchronized Bd.returns rfl (Or.inl ⟨rfl, Or.inr (Or.inr (Or.inr (Or.inl rfl))), _, rfl⟩) (hb hby own_d5_22) (by decide) (by decide) ?_
        rw [e0]
        exact ⟨by rw [own_level, if_neg hc1, if_neg hc9, if_pos hc17], N0, rfl⟩
      · refine Go.of (fun t k => XS.icmpYes X0.here hx rfl (pc0 := 17) (pc' := 23) rfl (hb hby own_d5_17) rfl (XT.ii_ne_t hc17) (by decide) (by decide) k) ?_
        show Go p e below Φ s₁ (mkF m 23 #[.val (.int kk)] [])
        refine Go.of (fun t k => XS.iloadN X0.here hx rfl (hb hby own_d5_23) rfl  k) ?_
        show Go p e below Φ s₁ (mkF m 24 #[.val (.int kk)] [(.int kk)])
        refine Go.of (fun t k => XS.iconst X0.here hx rfl (hb hby own_d5_24) k) ?_
        show Go p e below Φ s₁ (mkF m 25 #[.val (.int kk)] [(.int (3 : Int32)), (.int kk)])
        by_cases hc25 : kk = (3 : Int32)
        · refine Go.of (fun t k => XS.icmpNo X0.here hx rfl (hb hby own_d5_25) rfl (XT.ii_ne_f hc25) k) ?_
          show Go p e below Φ s₁ (mkF m 28 #[.val (.int kk)] [])
          refine Go.of (fun t k => XS.bipush X0.here hx rfl (hb hby own_d5_28) k) ?_
          show Go p e below Φ s₁ (mkF m 30 #[.val (.int kk)] [(.int (117 : Int32))])
          rw [hΦ]
          refine Go.ret X0 hx Bd.notSynchronized Bd.returns rfl (Or.inl ⟨rfl, Or.inr (Or.inr (Or.inr (Or.inl rfl))), _, rfl⟩) (hb hby own_d5_30) (by decide) (by decide) ?_
          rw [e0]
          exact ⟨by rw [own_level, if_neg hc1, if_neg hc9, if_neg hc17, if_pos hc25], N0, rfl⟩
        · refine Go.of (fun t k => XS.icmpYes X0.here hx rfl (pc0 := 25) (pc' := 31) rfl (hb hby own_d5_25) rfl (XT.ii_ne_t hc25) (by decide) (by decide) k) ?_
          show Go p e below Φ s₁ (mkF m 31 #[.val (.int kk)] [])
          refine Go.of (fun t k => XS.bipush X0.here hx rfl (hb hby own_d5_31) k) ?_
          show Go p e below Φ s₁ (mkF m 33 #[.val (.int kk)] [(.int (118 : Int32))])
          rw [hΦ]
          refine Go.ret X0 hx Bd.notSynchronized Bd.returns rfl (Or.inl ⟨rfl, Or.inr (Or.inr (Or.inr (Or.inl rfl))), _, rfl⟩) (hb hby own_d5_33) (by decide) (by decide) ?_
          rw [e0]
          exact ⟨by rw [own_level, if_neg hc1, if_neg hc9, if_neg hc17, if_neg hc25], N0, rfl⟩
def own_max (xx : Int32) (yy : Int32) : Int32 := (if xx < yy then yy else xx)
theorem own_ef7 (m : MethodId) (xx : Int32) (yy : Int32) : entryFrame m #[(.int xx), (.int yy)] 2 = mkF m 0 #[.val (.int xx), .val (.int yy)] [] := by first | (simp [entryFrame, mkF, argsToLocals, Value.category]; done) | rfl
def Q7 (Z : State) (xx : Int32) (yy : Int32) (h0 : Heap) (n0 : Nat) (vr : Option Value) (hr : Heap) (Lr : List Loc) : Prop := vr = some (.int (own_max xx yy)) ∧ Fr n0 Lr ∧ hr = h0
set_option maxRecDepth 65536 in
set_option maxHeartbeats 40000000 in
theorem rm7 (l : Launch) (Z : State) (a0 : Array Value) (hw : ∀ d ∈ tables_1, d.before a0 Z = true) (ws : List Jvm.Cond) (xx : Int32) (yy : Int32) (h0 : Heap) (n0 : Nat) (Z0 : n0 ≤ h0.size) :
    MetFree l (⟨"java/lang/Math", "max", "(II)I"⟩ : MethodName) (head1 (Jvm.Cond.code (⟨"java/lang/Math", "max", "(II)I"⟩ : MethodName) jdk_29_method_65_code 2 (some .int) :: ws) ({ frames := 0, cells := 0, slots := 0, locals := 0 } : Room)) (fun aQ UQ => aQ = #[(.int xx), (.int yy)] ∧ Z.Warmed39 UQ.vm ∧ UQ.heap = h0) (fun _ _ _ _ _ => True) (fun _ UQ oQ VQ => ∃ vQ LQ, oQ = .returned vQ ∧ Q7 Z xx yy h0 n0 vQ VQ.heap LQ ∧ FrameEnd UQ oQ VQ LQ ({ frames := 0, cells := 0, slots := 0, locals := 0 } : Room).cells ({ frames := 0, cells := 0, slots := 0, locals := 0 } : Room).slots) := by
  refine MetFree.of_bodySF (Jvm.Free.JP.mathPlain rfl (by decide +kernel)) hisR ?_
  intro p e s m args below meth c s₁ Bd hml0 hP hK
  obtain ⟨rfl, hZ, hh⟩ := hP
  have hx := Bd.exec
  have hby := Bd.bytes
  have hml : c.maxLocals = 2 := hml0
  have hown : s.vm.findClass "java/lang/Math" = some m.cls := findClass_of_methodNamed Bd.named
  have hnm := (name_of_methodNamed Bd.named Bd.method).1
  have X0 : Stand p l e ({ frames := 0, cells := 0, slots := 0, locals := 0 } : Room) s m #[(.int xx), (.int yy)] below meth c s₁ [] 0 0 := Stand.of_body Bd
  have e0 : s₁.heap = h0 := by rw [← hh, Bd.state]; rfl
  have N0 := Fr.nil n0
  show Go p e below (EndQ s below (Q7 Z xx yy h0 n0) ({ frames := 0, cells := 0, slots := 0, locals := 0 } : Room).cells ({ frames := 0, cells := 0, slots := 0, locals := 0 } : Room).slots) s₁ (entryFrame m #[(.int xx), (.int yy)] 2)
  obtain ⟨Φ, hΦ⟩ : ∃ Φ, Φ = EndQ s below (Q7 Z xx yy h0 n0) ({ frames := 0, cells := 0, slots := 0, locals := 0 } : Room).cells ({ frames := 0, cells := 0, slots := 0, locals := 0 } : Room).slots := ⟨_, rfl⟩
  rw [← hΦ, own_ef7]
  show Go p e below Φ s₁ (mkF m 0 #[.val (.int xx), .val (.int yy)] [])
  refine Go.of (fun t k => XS.iloadN X0.here hx rfl (hb hby own_d7_0) rfl  k) ?_
  show Go p e below Φ s₁ (mkF m 1 #[.val (.int xx), .val (.int yy)] [(.int xx)])
  refine Go.of (fun t k => XS.iloadN X0.here hx rfl (hb hby own_d7_1) rfl  k) ?_
  show Go p e below Φ s₁ (mkF m 2 #[.val (.int xx), .val (.int yy)] [(.int yy), (.int xx)])
  by_cases hc2 : xx < yy
  · refine Go.of (fun t k => XS.icmpYes X0.here hx rfl (pc0 := 2) (pc' := 9) rfl (hb hby own_d7_2) rfl (XT.ii_lt_t hc2) (by decide) (by decide) k) ?_
    show Go p e below Φ s₁ (mkF m 9 #[.val (.int xx), .val (.int yy)] [])
    refine Go.of (fun t k => XS.iloadN X0.here hx rfl (hb hby own_d7_9) rfl  k) ?_
    show Go p e below Φ s₁ (mkF m 10 #[.val (.int xx), .val (.int yy)] [(.int yy)])
    rw [hΦ]
    refine Go.ret X0 hx Bd.notSynchronized Bd.returns rfl (Or.inl ⟨rfl, Or.inl rfl, _, rfl⟩) (hb hby own_d7_10) (by decide) (by decide) ?_
    rw [e0]
    exact ⟨by rw [own_max, if_pos hc2], N0, rfl⟩
  · refine Go.of (fun t k => XS.icmpNo X0.here hx rfl (hb hby own_d7_2) rfl (XT.ii_lt_f hc2) k) ?_
    show Go p e below Φ s₁ (mkF m 5 #[.val (.int xx), .val (.int yy)] [])
    refine Go.of (fun t k => XS.iloadN X0.here hx rfl (hb hby own_d7_5) rfl  k) ?_
    show Go p e below Φ s₁ (mkF m 6 #[.val (.int xx), .val (.int yy)] [(.int xx)])
    refine Go.of (fun t k => XS.goto X0.here hx rfl (pc0 := 6) (pc' := 10) rfl (hb hby own_d7_6) (by decide) (by decide) k) ?_
    show Go p e below Φ s₁ (mkF m 10 #[.val (.int xx), .val (.int yy)] [(.int xx)])
    rw [hΦ]
    refine Go.ret X0 hx Bd.notSynchronized Bd.returns rfl (Or.inl ⟨rfl, Or.inl rfl, _, rfl⟩) (hb hby own_d7_10) (by decide) (by decide) ?_
    rw [e0]
    exact ⟨by rw [own_max, if_neg hc2], N0, rfl⟩
theorem own_ef6 (m : MethodId) (a : Addr) (b : Addr) : entryFrame m #[(.ref a), (.ref b)] 2 = mkF m 0 #[.val (.ref a), .val (.ref b)] [] := by first | (simp [entryFrame, mkF, argsToLocals, Value.category]; done) | rfl
def Q6 (Z : State) (a : Addr) (b : Addr) (w1 : Int32) (w2 : Int32) (u1 : Int32) (u2 : Int32) (h0 : Heap) (n0 : Nat) (vr : Option Value) (hr : Heap) (Lr : List Loc) : Prop := ∃ br : Addr, vr = some (.ref br) ∧ Fr n0 Lr ∧ Keep h0 hr [] ∧ h0.size ≤ br ∧ Exa Z hr br "com/example/shelfset/shelfset/Catalog$Function" ∧ Fld Z hr br "com/example/shelfset/shelfset/Catalog$Function" "volatility" "C" (.int (nar .char ((own_max w1 u1).toUInt32.toUInt16.toUInt32.toInt32))) ∧ Fld Z hr br "com/example/shelfset/shelfset/Catalog$Function" "returnsSets" "Z" (.int (nar .boolean (if w2 = (0 : Int32) then (if u2 = (0 : Int32) then (0 : Int32) else (1 : Int32)) else (1 : Int32))))
set_option maxRecDepth 65536 in
set_option maxHeartbeats 40000000 in
theorem rm6 (l : Launch) (Z : State) (a0 : Array Value) (hw : ∀ d ∈ tables_1, d.before a0 Z = true) (ws : List Jvm.Cond) (a : Addr) (b : Addr) (w1 : Int32) (w2 : Int32) (u1 : Int32) (u2 : Int32) (h0 : Heap) (n0 : Nat) (Z0 : n0 ≤ h0.size) (F_a_volatility : Fld Z h0 a "com/example/shelfset/shelfset/Catalog$Function" "volatility" "C" (.int w1)) (F_a_returnsSets : Fld Z h0 a "com/example/shelfset/shelfset/Catalog$Function" "returnsSets" "Z" (.int w2)) (F_b_volatility : Fld Z h0 b "com/example/shelfset/shelfset/Catalog$Function" "volatility" "C" (.int u1)) (F_b_returnsSets : Fld Z h0 b "com/example/shelfset/shelfset/Catalog$Function" "returnsSets" "Z" (.int u2)) (E_a : Exa Z h0 a "com/example/shelfset/shelfset/Catalog$Function") (E_b : Exa Z h0 b "com/example/shelfset/shelfset/Catalog$Function") :
    MetFree l (⟨"com/example/shelfset/shelfset/Catalog$Function", "and", "(Lcom/example/shelfset/shelfset/Catalog$Function;)Lcom/example/shelfset/shelfset/Catalog$Function;"⟩ : MethodName) (head1 (Jvm.Cond.code (⟨"com/example/shelfset/shelfset/Catalog$Function", "and", "(Lcom/example/shelfset/shelfset/Catalog$Function;)Lcom/example/shelfset/shelfset/Catalog$Function;"⟩ : MethodName) prog_27_method_2_code 2 (some (.object "com/example/shelfset/shelfset/Catalog$Function")) :: ws) ({ frames := 3, cells := 1, slots := 2, locals := 39 } : Room)) (fun aQ UQ => aQ = #[(.ref a), (.ref b)] ∧ Z.Warmed39 UQ.vm ∧ UQ.heap = h0) (fun _ _ _ _ _ => True) (fun _ UQ oQ VQ => ∃ vQ LQ, oQ = .returned vQ ∧ Q6 Z a b w1 w2 u1 u2 h0 n0 vQ VQ.heap LQ ∧ FrameEnd UQ oQ VQ LQ ({ frames := 3, cells := 1, slots := 2, locals := 39 } : Room).cells ({ frames := 3, cells := 1, slots := 2, locals := 39 } : Room).slots) := by
  refine MetFree.of_bodySF (plainFor_of_name own_pn1) hisR ?_
  intro p e s m args below meth c s₁ Bd hml0 hP hK
  obtain ⟨rfl, hZ, hh⟩ := hP
  have hx := Bd.exec
  have hby := Bd.bytes
  have hml : c.maxLocals = 2 := hml0
  have hown : s.vm.findClass "com/example/shelfset/shelfset/Catalog$Function" = some m.cls := findClass_of_methodNamed Bd.named
  have hnm := (name_of_methodNamed Bd.named Bd.method).1
  have X0 : Stand p l e ({ frames := 3, cells := 1, slots := 2, locals := 39 } : Room) s m #[(.ref a), (.ref b)] below meth c s₁ [] 0 0 := Stand.of_body Bd
  have e0 : s₁.heap = h0 := by rw [← hh, Bd.state]; rfl
  have N0 := Fr.nil n0
  show Go p e below (EndQ s below (Q6 Z a b w1 w2 u1 u2 h0 n0) ({ frames := 3, cells := 1, slots := 2, locals := 39 } : Room).cells ({ frames := 3, cells := 1, slots := 2, locals := 39 } : Room).slots) s₁ (entryFrame m #[(.ref a), (.ref b)] 2)
  obtain ⟨Φ, hΦ⟩ : ∃ Φ, Φ = EndQ s below (Q6 Z a b w1 w2 u1 u2 h0 n0) ({ frames := 3, cells := 1, slots := 2, locals := 39 } : Room).cells ({ frames := 3, cells := 1, slots := 2, locals := 39 } : Room).slots := ⟨_, rfl⟩
  rw [← hΦ, own_ef6]
  show Go p e below Φ s₁ (mkF m 0 #[.val (.ref a), .val (.ref b)] [])
  obtain ⟨T1, h1, X1, e1, E1, A1, D1, -, st1⟩ := newO X0 hx hZ hown (hw _ (List.mem_of_getElem? (i := 34) rfl)) (hw _ (List.mem_of_getElem? (i := 2) rfl)) (hw _ (List.mem_of_getElem? (i := 3) rfl)) e0 (g := (mkF m 0 #[.val (.ref a), .val (.ref b)] [])) rfl (hb hby own_d6_0) (by decide) (by decide)
  obtain ⟨b1, g1⟩ : ∃ z, z = h0.size := ⟨_, rfl⟩
  rw [← g1] at A1 D1 st1
  have ne_a_b1 : a ≠ b1 := Nat.ne_of_lt (Nat.lt_of_lt_of_le F_a_volatility.lt (Nat.le_of_eq g1.symm))
  have ne_b_b1 : b ≠ b1 := Nat.ne_of_lt (Nat.lt_of_lt_of_le F_b_volatility.lt (Nat.le_of_eq g1.symm))
  have g_b1 : n0 ≤ b1 := Nat.le_trans Z0 (Nat.le_of_eq g1.symm)
  have sz_b1 : h0.size ≤ b1 := Nat.le_trans (Keep.refl h0 []).1 (Nat.le_of_eq g1.symm)
  have K1 := (Keep.refl h0 []).ext E1
  have Z1 := Nat.le_trans Z0 E1.1
  have F_a_volatility := F_a_volatility.ext E1
  have F_a_returnsSets := F_a_returnsSets.ext E1
  have F_b_volatility := F_b_volatility.ext E1
  have F_b_returnsSets := F_b_returnsSets.ext E1
  have E_a := E_a.ext E1
  have E_b := E_b.ext E1
  have E_b1 := A1
  have F_b1_volatility : Fld Z h1 b1 "com/example/shelfset/shelfset/Catalog$Function" "volatility" "C" (.int (0 : Int32)) := D1 (Or.inr (hw _ (List.mem_of_getElem? (i := 16) rfl))) (ty := .char) (by decide)
  have F_b1_returnsSets : Fld Z h1 b1 "com/example/shelfset/shelfset/Catalog$Function" "returnsSets" "Z" (.int (0 : Int32)) := D1 (Or.inr (hw _ (List.mem_of_getElem? (i := 18) rfl))) (ty := .boolean) (by decide)
  refine Go.of st1 ?_
  show Go p e below Φ T1 (mkF m 3 #[.val (.ref a), .val (.ref b)] [(.ref b1)])
  refine Go.of (fun t k => XS.dup X1.here hx rfl (hb hby own_d6_3) rfl rfl k) ?_
  show Go p e below Φ T1 (mkF m 4 #[.val (.ref a), .val (.ref b)] [(.ref b1), (.ref b1)])
  refine Go.of (fun t k => XS.aloadN X1.here hx rfl (hb hby own_d6_4) rfl rfl  k) ?_
  show Go p e below Φ T1 (mkF m 5 #[.val (.ref a), .val (.ref b)] [(.ref a), (.ref b1), (.ref b1)])
  obtain ⟨T2, X2, e2, st2⟩ := getF X1 hx hZ hown (host := "") (Or.inl (hw _ (List.mem_of_getElem? (i := 15) rfl))) Via.refl e1 F_a_volatility (g := (mkF m 5 #[.val (.ref a), .val (.ref b)] [(.ref a), (.ref b1), (.ref b1)])) rfl rfl (hb hby own_d6_5)
  refine Go.of st2 ?_
  show Go p e below Φ T2 (mkF m 8 #[.val (.ref a), .val (.ref b)] [(.int w1), (.ref b1), (.ref b1)])
  refine Go.of (fun t k => XS.aloadN X2.here hx rfl (hb hby own_d6_8) rfl rfl  k) ?_
  show Go p e below Φ T2 (mkF m 9 #[.val (.ref a), .val (.ref b)] [(.ref b), (.int w1), (.ref b1), (.ref b1)])
  obtain ⟨T3, X3, e3, st3⟩ := getF X2 hx hZ hown (host := "") (Or.inl (hw _ (List.mem_of_getElem? (i := 15) rfl))) Via.refl e2 F_b_volatility (g := (mkF m 9 #[.val (.ref a), .val (.ref b)] [(.ref b), (.int w1), (.ref b1), (.ref b1)])) rfl rfl (hb hby own_d6_9)
  refine Go.of st3 ?_
  show Go p e below Φ T3 (mkF m 12 #[.val (.ref a), .val (.ref b)] [(.int u1), (.int w1), (.ref b1), (.ref b1)])
  obtain ⟨_, _, ⟨T4, L4, k4, n4⟩, -, X4, ⟨Lc4, hQ4, l4, y4, z4⟩, st4⟩ := Jvm.LawKit.callS X3 hx (y := (⟨"java/lang/Math", "max", "(II)I"⟩ : MethodName)) hown (mvT hZ (hw _ (List.mem_of_getElem? (i := 35) rfl))) (mvT hZ (hw _ (List.mem_of_getElem? (i := 36) rfl))) (mvT hZ (hw _ (List.mem_of_getElem? (i := 37) rfl))) (mvT hZ (hw _ (List.mem_of_getElem? (i := 38) rfl))) (by decide) (backOf (W := 2) (rm7 l Z a0 hw [] w1 u1 h1 n0 Z1) hZ (hw _ (List.mem_of_getElem? (i := 38) rfl)) (hw _ (List.mem_of_getElem? (i := 37) rfl)) (by decide) (by decide)) (g := (mkF m 12 #[.val (.ref a), .val (.ref b)] [(.int u1), (.int w1), (.ref b1), (.ref b1)])) rfl (by rw [hml]; rfl) (argsL := [(.int w1), (.int u1)]) (rest := [(.ref b1), (.ref b1)]) (lenOf own_pd1 rfl) rfl (by show 2 * 0 + _ ≤ _; exact Nat.le_of_eq rfl) (hb hby own_d6_12) (fun _ _ => ⟨rfl, e3, (by decide : 1 + 0 ≤ _), (by decide : 2 + 0 ≤ _)⟩)
  dsimp only [Pt.U, Pt.locs, Pt.cells, Pt.slots] at X4 l4 y4 z4 st4 hQ4
  subst l4 y4 z4
  obtain ⟨rfl, N4q, e4q⟩ := hQ4
  have N4 := Fr.app N0 N4q
  obtain ⟨lc4, X4, N4⟩ : ∃ lc, Stand p l e ({ frames := 3, cells := 1, slots := 2, locals := 39 } : Room) s m #[(.ref a), (.ref b)] below meth c T4 lc 1 2 ∧ Fr n0 lc := ⟨_, X4, N4⟩
  refine Go.of st4 ?_
  show Go p e below Φ T4 (mkF m 15 #[.val (.ref a), .val (.ref b)] [(.int (own_max w1 u1)), (.ref b1), (.ref b1)])
  refine Go.of (fun t k => XS.i2c X4.here hx rfl (hb hby own_d6_15) rfl k) ?_
  show Go p e below Φ T4 (mkF m 16 #[.val (.ref a), .val (.ref b)] [(.int ((own_max w1 u1).toUInt32.toUInt16.toUInt32.toInt32)), (.ref b1), (.ref b1)])
  refine Go.of (fun t k => XS.aloadN X4.here hx rfl (hb hby own_d6_16) rfl rfl  k) ?_
  show Go p e below Φ T4 (mkF m 17 #[.val (.ref a), .val (.ref b)] [(.ref a), (.int ((own_max w1 u1).toUInt32.toUInt16.toUInt32.toInt32)), (.ref b1), (.ref b1)])
  obtain ⟨T5, X5, e5, st5⟩ := getF X4 hx hZ hown (host := "") (Or.inl (hw _ (List.mem_of_getElem? (i := 17) rfl))) Via.refl (e4q) F_a_returnsSets (g := (mkF m 17 #[.val (.ref a), .val (.ref b)] [(.ref a), (.int ((own_max w1 u1).toUInt32.toUInt16.toUInt32.toInt32)), (.ref b1), (.ref b1)])) rfl rfl (hb hby own_d6_17)
  refine Go.of st5 ?_
  show Go p e below Φ T5 (mkF m 20 #[.val (.ref a), .val (.ref b)] [(.int w2), (.int ((own_max w1 u1).toUInt32.toUInt16.toUInt32.toInt32)), (.ref b1), (.ref b1)])
  suffices j35_6 : ∀ T6 : State, Stand p l e ({ frames := 3, cells := 1, slots := 2, locals := 39 } : Room) s m #[(.ref a), (.ref b)] below meth c T6 lc4 1 2 → T6.heap = h1 → ∀ v35 : Int32, v35 = (if w2 = (0 : Int32) then (if u2 = (0 : Int32) then (0 : Int32) else (1 : Int32)) else (1 : Int32)) → Go p e below Φ T6 (mkF m 35 #[.val (.ref a), .val (.ref b)] [(.int v35), (.int ((own_max w1 u1).toUInt32.toUInt16.toUInt32.toInt32)), (.ref b1), (.ref b1)]) by
    by_cases hc20 : w2 = (0 : Int32)
    · refine Go.of (fun t k => XS.ifNo X5.here hx rfl (hb hby own_d6_20) rfl (XT.i0_ne_f hc20) k) ?_
      show Go p e below Φ T5 (mkF m 23 #[.val (.ref a), .val (.ref b)] [(.int ((own_max w1 u1).toUInt32.toUInt16.toUInt32.toInt32)), (.ref b1), (.ref b1)])
      refine Go.of (fun t k => XS.aloadN X5.here hx rfl (hb hby own_d6_23) rfl rfl  k) ?_
      show Go p e below Φ T5 (mkF m 24 #[.val (.ref a), .val (.ref b)] [(.ref b), (.int ((own_max w1 u1).toUInt32.toUInt16.toUInt32.toInt32)), (.ref b1), (.ref b1)])
      obtain ⟨T7, X7, e7, st7⟩ := getF X5 hx hZ hown (host := "") (Or.inl (hw _ (List.mem_of_getElem? (i := 17) rfl))) Via.refl e5 F_b_returnsSets (g := (mkF m 24 #[.val (.ref a), .val (.ref b)] [(.ref b), (.int ((own_max w1 u1).toUInt32.toUInt16.toUInt32.toInt32)), (.ref b1), (.ref b1)])) rfl rfl (hb hby own_d6_24)
      refine Go.of st7 ?_
      show Go p e below Φ T7 (mkF m 27 #[.val (.ref a), .val (.ref b)] [(.int u2), (.int ((own_max w1 u1).toUInt32.toUInt16.toUInt32.toInt32)), (.ref b1), (.ref b1)])
      by_cases hc27 : u2 = (0 : Int32)
      · refine Go.of (fun t k => XS.ifYes X7.here hx rfl (pc0 := 27) (pc' := 34) rfl (hb hby own_d6_27) rfl (XT.i0_eq_t hc27) (by decide) (by decide) k) ?_
        show Go p e below Φ T7 (mkF m 34 #[.val (.ref a), .val (.ref b)] [(.int ((own_max w1 u1).toUInt32.toUInt16.toUInt32.toInt32)), (.ref b1), (.ref b1)])
        refine Go.of (fun t k => XS.iconst X7.here hx rfl (hb hby own_d6_34) k) ?_
        show Go p e below Φ T7 (mkF m 35 #[.val (.ref a), .val (.ref b)] [(.int (0 : Int32)), (.int ((own_max w1 u1).toUInt32.toUInt16.toUInt32.toInt32)), (.ref b1), (.ref b1)])
        exact j35_6 _ X7 e7 _ (by rw [if_pos hc20, if_pos hc27])
      · refine Go.of (fun t k => XS.ifNo X7.here hx rfl (hb hby own_d6_27) rfl (XT.i0_eq_f hc27) k) ?_
        show Go p e below Φ T7 (mkF m 30 #[.val (.ref a), .val (.ref b)] [(.int ((own_max w1 u1).toUInt32.toUInt16.toUInt32.toInt32)), (.ref b1), (.ref b1)])
        refine Go.of (fun t k => XS.iconst X7.here hx rfl (hb hby own_d6_30) k) ?_
        show Go p e below Φ T7 (mkF m 31 #[.val (.ref a), .val (.ref b)] [(.int (1 : Int32)), (.int ((own_max w1 u1).toUInt32.toUInt16.toUInt32.toInt32)), (.ref b1), (.ref b1)])
        refine Go.of (fun t k => XS.goto X7.here hx rfl (pc0 := 31) (pc' := 35) rfl (hb hby own_d6_31) (by decide) (by decide) k) ?_
        show Go p e below Φ T7 (mkF m 35 #[.val (.ref a), .val (.ref b)] [(.int (1 : Int32)), (.int ((own_max w1 u1).toUInt32.toUInt16.toUInt32.toInt32)), (.ref b1), (.ref b1)])
        exact j35_6 _ X7 e7 _ (by rw [if_pos hc20, if_neg hc27])
    · refine Go.of (fun t k => XS.ifYes X5.here hx rfl (pc0 := 20) (pc' := 30) rfl (hb hby own_d6_20) rfl (XT.i0_ne_t hc20) (by decide) (by decide) k) ?_
      show Go p e below Φ T5 (mkF m 30 #[.val (.ref a), .val (.ref b)] [(.int ((own_max w1 u1).toUInt32.toUInt16.toUInt32.toInt32)), (.ref b1), (.ref b1)])
      refine Go.of (fun t k => XS.iconst X5.here hx rfl (hb hby own_d6_30) k) ?_
      show Go p e below Φ T5 (mkF m 31 #[.val (.ref a), .val (.ref b)] [(.int (1 : Int32)), (.int ((own_max w1 u1).toUInt32.toUInt16.toUInt32.toInt32)), (.ref b1), (.ref b1)])
      refine Go.of (fun t k => XS.goto X5.here hx rfl (pc0 := 31) (pc' := 35) rfl (hb hby own_d6_31) (by decide) (by decide) k) ?_
      show Go p e below Φ T5 (mkF m 35 #[.val (.ref a), .val (.ref b)] [(.int (1 : Int32)), (.int ((own_max w1 u1).toUInt32.toUInt16.toUInt32.toInt32)), (.ref b1), (.ref b1)])
      exact j35_6 _ X5 e5 _ (by rw [if_neg hc20])
  intro T6 X6 e6 v35 hv35
  subst hv35
  show Go p e below Φ T6 (mkF m 35 #[.val (.ref a), .val (.ref b)] [(.int (if w2 = (0 : Int32) then (if u2 = (0 : Int32) then (0 : Int32) else (1 : Int32)) else (1 : Int32))), (.int ((own_max w1 u1).toUInt32.toUInt16.toUInt32.toInt32)), (.ref b1), (.ref b1)])
  obtain ⟨_, _, ⟨T8, L8, k8, n8⟩, -, X8, ⟨Lc8, hQ8, l8, y8, z8⟩, st8⟩ := X6.specialBack hx (y := (⟨"com/example/shelfset/shelfset/Catalog$Function", "<init>", "(CZ)V"⟩ : MethodName)) rfl hown (mvT hZ (hw _ (List.mem_of_getElem? (i := 39) rfl))) (mvT hZ (hw _ (List.mem_of_getElem? (i := 5) rfl))) (mvT hZ (hw _ (List.mem_of_getElem? (i := 6) rfl))) (by decide) (backOf (W := 1) (rm1 l Z a0 hw [] b1 ((own_max w1 u1).toUInt32.toUInt16.toUInt32.toInt32) (if w2 = (0 : Int32) then (if u2 = (0 : Int32) then (0 : Int32) else (1 : Int32)) else (1 : Int32)) (0 : Int32) (0 : Int32) h1 n0 Z1 F_b1_volatility F_b1_returnsSets E_b1 g_b1) hZ (hw _ (List.mem_of_getElem? (i := 6) rfl)) (hw _ (List.mem_of_getElem? (i := 3) rfl)) (by decide) (by decide)) (g := (mkF m 35 #[.val (.ref a), .val (.ref b)] [(.int (if w2 = (0 : Int32) then (if u2 = (0 : Int32) then (0 : Int32) else (1 : Int32)) else (1 : Int32))), (.int ((own_max w1 u1).toUInt32.toUInt16.toUInt32.toInt32)), (.ref b1), (.ref b1)])) rfl (by rw [hml]; rfl) (Steps.refl _) (a := b1) (argsL := [(.int ((own_max w1 u1).toUInt32.toUInt16.toUInt32.toInt32)), (.int (if w2 = (0 : Int32) then (if u2 = (0 : Int32) then (0 : Int32) else (1 : Int32)) else (1 : Int32)))]) (rest := [(.ref b1)]) (lenOf own_pd2 rfl) rfl (by show 2 * 0 + _ ≤ _; exact Nat.le_of_eq rfl) (hb hby own_d6_35) (fun _ _ => ⟨rfl, e6, (by decide : 1 + 0 ≤ _), (by decide : 2 + 0 ≤ _)⟩)
  dsimp only [Pt.U, Pt.locs, Pt.cells, Pt.slots] at X8 l8 y8 z8 st8 hQ8
  subst l8 y8 z8
  obtain ⟨rfl, N8q, K8q, c8_0, c8_1, c8_2⟩ := hQ8
  have N8 := Fr.app N4 N8q
  obtain ⟨lc8, X8, N8⟩ : ∃ lc, Stand p l e ({ frames := 3, cells := 1, slots := 2, locals := 39 } : Room) s m #[(.ref a), (.ref b)] below meth c T8 lc 1 2 ∧ Fr n0 lc := ⟨_, X8, N8⟩
  have F_a_volatility := F_a_volatility.keep K8q (ninS ne_a_b1 nin0)
  have F_a_returnsSets := F_a_returnsSets.keep K8q (ninS ne_a_b1 nin0)
  have F_b_volatility := F_b_volatility.keep K8q (ninS ne_b_b1 nin0)
  have F_b_returnsSets := F_b_returnsSets.keep K8q (ninS ne_b_b1 nin0)
  have E_a := E_a.keep K8q
  have E_b := E_b.keep K8q
  have E_b1 := c8_0
  have F_b1_volatility := c8_1
  have F_b1_returnsSets := c8_2
  have K8 := K1.trans K8q (allS (Or.inr sz_b1) all0)
  have Z8 := Nat.le_trans Z1 K8q.1
  refine Go.tr st8 ?_
  show Go p e below Φ T8 (mkF m 38 #[.val (.ref a), .val (.ref b)] [(.ref b1)])
  rw [hΦ]
  refine Go.ret X8 hx Bd.notSynchronized Bd.returns rfl (Or.inr (Or.inr (Or.inr (Or.inr ⟨rfl, rfl, rfl⟩)))) (hb hby own_d6_38) (by decide) (by decide) ?_
  exact ⟨b1, rfl, N8, K8, sz_b1, E_b1, F_b1_volatility, F_b1_returnsSets⟩
theorem own_five (k : Int32) : own_level k = 105 ∨ own_level k = 114 ∨ own_level k = 115 ∨ own_level k = 117 ∨ own_level k = 118 := by
  rw [own_level]
  repeat' split
  all_goals simp
theorem own_nar_i2c (x : Int32) : nar .char (x.toUInt32.toUInt16.toUInt32.toInt32) = x.toUInt32.toUInt16.toUInt32.toInt32 := by
  have h := XT.narrow_c x
  exact Value.int.inj h
theorem own_nar_five (k : Int32) : nar .char (own_level k) = own_level k := by
  rcases own_five k with h | h | h | h | h <;> rw [h] <;> rfl
theorem own_mayv (w : Int32) : own_may w = if w = (118 : Int32) then (1 : Int32) else (0 : Int32) := by rw [own_may]
theorem own_at183 (i0 : Int32) (i1 : Int32) (i2 : Int32) (i3 : Int32) (v11 : Int32) (hv11 : v11 = (if (i3 &&& (1 : Int32)) = (0 : Int32) then (0 : Int32) else (1 : Int32))) (v24 : Int32) (hv24 : v24 = (if (i3 &&& (2 : Int32)) = (0 : Int32) then (0 : Int32) else (1 : Int32))) (x31 : Int32) (hx31 : x31 = ((i0 &&& (65535 : Int32)).toUInt32.toUInt16.toUInt32.toInt32)) (y4_volatility : Int32) (hy4_volatility : y4_volatility = (nar .char x31)) (y4_returnsSets : Int32) (hy4_returnsSets : y4_returnsSets = (nar .boolean v11)) (v63 : Int32) (hv63 : v63 = (if x31 = (118 : Int32) then (1 : Int32) else (0 : Int32))) (v71 : Int32) (hv71 : v71 = (if (own_may y4_volatility) = v63 then (1 : Int32) else (0 : Int32))) (x82 : Int32) (hx82 : x82 = (own_level ((i1 &&& (2147483647 : Int32)) % (5 : Int32)))) (x93 : Int32) (hx93 : x93 = (own_level ((i2 &&& (2147483647 : Int32)) % (5 : Int32)))) (y11_volatility : Int32) (hy11_volatility : y11_volatility = (nar .char x82)) (y11_returnsSets : Int32) (hy11_returnsSets : y11_returnsSets = (nar .boolean v11)) (y13_volatility : Int32) (hy13_volatility : y13_volatility = (nar .char x93)) (y13_returnsSets : Int32) (hy13_returnsSets : y13_returnsSets = (nar .boolean v24)) (x126 : Int32) (hx126 : x126 = (own_may y11_volatility)) (x133 : Int32) (hx133 : x133 = (own_may y13_volatility)) (v179 : Int32) (hv179 : v179 = (if v71 = (0 : Int32) then (0 : Int32) else (if x82 = (118 : Int32) then (if x126 = (1 : Int32) then (if x93 = (118 : Int32) then (if x133 = (1 : Int32) then (1 : Int32) else (0 : Int32)) else (if x133 = (0 : Int32) then (1 : Int32) else (0 : Int32))) else (0 : Int32)) else (if x126 = (0 : Int32) then (if x93 = (118 : Int32) then (if x133 = (1 : Int32) then (1 : Int32) else (0 : Int32)) else (if x133 = (0 : Int32) then (1 : Int32) else (0 : Int32))) else (0 : Int32)))))  : ¬ (v179 = (0 : Int32)) := by
  have e1 : y4_volatility = x31 := by rw [hy4_volatility, hx31]; exact own_nar_i2c _
  have e2 : y11_volatility = x82 := by rw [hy11_volatility, hx82]; exact own_nar_five _
  have e3 : y13_volatility = x93 := by rw [hy13_volatility, hx93]; exact own_nar_five _
  rw [own_mayv, e1, ← hv63, if_pos rfl] at hv71
  rw [own_mayv, e2] at hx126
  rw [own_mayv, e3] at hx133
  rw [hv179, hv71, if_neg (by decide)]
  by_cases h1 : x82 = (118 : Int32) <;> by_cases h2 : x93 = (118 : Int32) <;> simp only [h1, h2, if_true, if_false] at hx126 hx133 ⊢ <;> rw [hx126, hx133] <;> decide
theorem own_and : ∀ a ∈ [(105 : Int32), 114, 115, 117, 118], ∀ b ∈ [(105 : Int32), 114, 115, 117, 118], (if (nar .char ((own_max a b).toUInt32.toUInt16.toUInt32.toInt32)) = (118 : Int32) then (1 : Int32) else (0 : Int32)) = (if (if a = (118 : Int32) then (1 : Int32) else (0 : Int32)) = (0 : Int32) then (if (if b = (118 : Int32) then (1 : Int32) else (0 : Int32)) = (0 : Int32) then (0 : Int32) else (1 : Int32)) else (1 : Int32)) := by decide +kernel
theorem own_mem (k : Int32) : own_level k ∈ [(105 : Int32), 114, 115, 117, 118] := by
  simp only [List.mem_cons, List.not_mem_nil, or_false]; exact own_five k
theorem own_plain (i0 : Int32) (i1 : Int32) (i2 : Int32) (i3 : Int32) (v11 : Int32) (hv11 : v11 = (if (i3 &&& (1 : Int32)) = (0 : Int32) then (0 : Int32) else (1 : Int32))) (v24 : Int32) (hv24 : v24 = (if (i3 &&& (2 : Int32)) = (0 : Int32) then (0 : Int32) else (1 : Int32))) (x31 : Int32) (hx31 : x31 = ((i0 &&& (65535 : Int32)).toUInt32.toUInt16.toUInt32.toInt32)) (y4_volatility : Int32) (hy4_volatility : y4_volatility = (nar .char x31)) (y4_returnsSets : Int32) (hy4_returnsSets : y4_returnsSets = (nar .boolean v11)) (v63 : Int32) (hv63 : v63 = (if x31 = (118 : Int32) then (1 : Int32) else (0 : Int32))) (v71 : Int32) (hv71 : v71 = (if (own_may y4_volatility) = v63 then (1 : Int32) else (0 : Int32))) (x82 : Int32) (hx82 : x82 = (own_level ((i1 &&& (2147483647 : Int32)) % (5 : Int32)))) (x93 : Int32) (hx93 : x93 = (own_level ((i2 &&& (2147483647 : Int32)) % (5 : Int32)))) (y11_volatility : Int32) (hy11_volatility : y11_volatility = (nar .char x82)) (y11_returnsSets : Int32) (hy11_returnsSets : y11_returnsSets = (nar .boolean v11)) (y13_volatility : Int32) (hy13_volatility : y13_volatility = (nar .char x93)) (y13_returnsSets : Int32) (hy13_returnsSets : y13_returnsSets = (nar .boolean v24)) (x126 : Int32) (hx126 : x126 = (own_may y11_volatility)) (x133 : Int32) (hx133 : x133 = (own_may y13_volatility)) (v179 : Int32) (hv179 : v179 = (if v71 = (0 : Int32) then (0 : Int32) else (if x82 = (118 : Int32) then (if x126 = (1 : Int32) then (if x93 = (118 : Int32) then (if x133 = (1 : Int32) then (1 : Int32) else (0 : Int32)) else (if x133 = (0 : Int32) then (1 : Int32) else (0 : Int32))) else (0 : Int32)) else (if x126 = (0 : Int32) then (if x93 = (118 : Int32) then (if x133 = (1 : Int32) then (1 : Int32) else (0 : Int32)) else (if x133 = (0 : Int32) then (1 : Int32) else (0 : Int32))) else (0 : Int32))))) (y17_volatility : Int32) (hy17_volatility : y17_volatility = (nar .char ((own_max y11_volatility y13_volatility).toUInt32.toUInt16.toUInt32.toInt32))) (y17_returnsSets : Int32) (hy17_returnsSets : y17_returnsSets = (nar .boolean (if y11_returnsSets = (0 : Int32) then (if y13_returnsSets = (0 : Int32) then (0 : Int32) else (1 : Int32)) else (1 : Int32)))) (v211 : Int32) (hv211 : v211 = (if x126 = (0 : Int32) then (if x133 = (0 : Int32) then (0 : Int32) else (1 : Int32)) else (1 : Int32))) (v219 : Int32) (hv219 : v219 = (if (own_may y17_volatility) = v211 then (1 : Int32) else (0 : Int32)))  : v219 = (1 : Int32) := by
  have e2 : y11_volatility = x82 := by rw [hy11_volatility, hx82]; exact own_nar_five _
  have e3 : y13_volatility = x93 := by rw [hy13_volatility, hx93]; exact own_nar_five _
  rw [own_mayv, e2] at hx126
  rw [own_mayv, e3] at hx133
  have k := own_and x82 (hx82 ▸ own_mem _) x93 (hx93 ▸ own_mem _)
  rw [← hx126, ← hx133, ← hv211] at k
  rw [hv219, own_mayv, hy17_volatility, e2, e3, k, if_pos rfl]
theorem own_ef0 (m : MethodId) (i0 : Int32) (i1 : Int32) (i2 : Int32) (i3 : Int32) : entryFrame m #[(.int i0), (.int i1), (.int i2), (.int i3)] maxLocals = mkF m 0 #[.val (.int i0), .val (.int i1), .val (.int i2), .val (.int i3), .unset, .unset, .unset, .unset, .unset, .unset, .unset, .unset, .unset, .unset, .unset] [] := by first | (simp [entryFrame, mkF, argsToLocals, Value.category, maxLocals]; done) | rfl
def Q0 (Z : State) (i0 : Int32) (i1 : Int32) (i2 : Int32) (i3 : Int32) (h0 : Heap) (n0 : Nat) (vr : Option Value) (hr : Heap) (Lr : List Loc) : Prop := vr = some (.int 1) ∧ Fr n0 Lr
set_option maxRecDepth 65536 in
set_option maxHeartbeats 40000000 in
theorem rm0 (l : Launch) (Z : State) (a0 : Array Value) (hw : ∀ d ∈ tables_1, d.before a0 Z = true) (ws : List Jvm.Cond) (i0 : Int32) (i1 : Int32) (i2 : Int32) (i3 : Int32) (h0 : Heap) (n0 : Nat) (Z0 : n0 ≤ h0.size) :
    MetFree l x (head1 (Jvm.Cond.code x code maxLocals ret :: ws) room_1) (fun aQ UQ => aQ = #[(.int i0), (.int i1), (.int i2), (.int i3)] ∧ Z.Warmed39 UQ.vm ∧ UQ.heap = h0) (fun _ _ _ _ _ => True) (fun _ UQ oQ VQ => ∃ vQ LQ, oQ = .returned vQ ∧ Q0 Z i0 i1 i2 i3 h0 n0 vQ VQ.heap LQ ∧ FrameEnd UQ oQ VQ LQ 16 128) := by
  refine MetFree.of_bodySF (plainFor_of_name own_pn2) hisR ?_
  intro p e s m args below meth c s₁ Bd hml0 hP hK
  obtain ⟨rfl, hZ, hh⟩ := hP
  have hx := Bd.exec
  have hby := Bd.bytes
  have hml : c.maxLocals = 15 := hml0
  have hown : s.vm.findClass "com/example/shelfset/shelfset/FunctionMayWritePinLaw" = some m.cls := findClass_of_methodNamed Bd.named
  have hnm := (name_of_methodNamed Bd.named Bd.method).1
  have X0 : Stand p l e room_1 s m #[(.int i0), (.int i1), (.int i2), (.int i3)] below meth c s₁ [] 0 0 := Stand.of_body Bd
  have e0 : s₁.heap = h0 := by rw [← hh, Bd.state]; rfl
  have N0 := Fr.nil n0
  show Go p e below (EndQ s below (Q0 Z i0 i1 i2 i3 h0 n0) 16 128) s₁ (entryFrame m #[(.int i0), (.int i1), (.int i2), (.int i3)] maxLocals)
  obtain ⟨Φ, hΦ⟩ : ∃ Φ, Φ = EndQ s below (Q0 Z i0 i1 i2 i3 h0 n0) 16 128 := ⟨_, rfl⟩
  rw [← hΦ, own_ef0]
  show Go p e below Φ s₁ (mkF m 0 #[.val (.int i0), .val (.int i1), .val (.int i2), .val (.int i3), .unset, .unset, .unset, .unset, .unset, .unset, .unset, .unset, .unset, .unset, .unset] [])
  refine Go.of (fun t k => XS.iloadN X0.here hx rfl (hb hby at_0) rfl  k) ?_
  show Go p e below Φ s₁ (mkF m 1 #[.val (.int i0), .val (.int i1), .val (.int i2), .val (.int i3), .unset, .unset, .unset, .unset, .unset, .unset, .unset, .unset, .unset, .unset, .unset] [(.int i3)])
  refine Go.of (fun t k => XS.iconst X0.here hx rfl (hb hby at_1) k) ?_
  show Go p e below Φ s₁ (mkF m 2 #[.val (.int i0), .val (.int i1), .val (.int i2), .val (.int i3), .unset, .unset, .unset, .unset, .unset, .unset, .unset, .unset, .unset, .unset, .unset] [(.int (1 : Int32)), (.int i3)])
  refine Go.of (fun t k => XS.iand X0.here hx rfl (hb hby at_2) rfl k) ?_
  show Go p e below Φ s₁ (mkF m 3 #[.val (.int i0), .val (.int i1), .val (.int i2), .val (.int i3), .unset, .unset, .unset, .unset, .unset, .unset, .unset, .unset, .unset, .unset, .unset] [(.int (i3 &&& (1 : Int32)))])
  suffices j11_1 :  ∀ v11 : Int32, v11 = (if (i3 &&& (1 : Int32)) = (0 : Int32) then (0 : Int32) else (1 : Int32)) → Go p e below Φ s₁ (mkF m 11 #[.val (.int i0), .val (.int i1), .val (.int i2), .val (.int i3), .unset, .unset, .unset, .unset, .unset, .unset, .unset, .unset, .unset, .unset, .unset] [(.int v11)]) by
    by_cases hc3 : (i3 &&& (1 : Int32)) = (0 : Int32)
    · refine Go.of (fun t k => XS.ifYes X0.here hx rfl (pc0 := 3) (pc' := 10) rfl (hb hby at_3) rfl (XT.i0_eq_t hc3) (by decide) (by decide) k) ?_
      show Go p e below Φ s₁ (mkF m 10 #[.val (.int i0), .val (.int i1), .val (.int i2), .val (.int i3), .unset, .unset, .unset, .unset, .unset, .unset, .unset, .unset, .unset, .unset, .unset] [])
      refine Go.of (fun t k => XS.iconst X0.here hx rfl (hb hby at_10) k) ?_
      show Go p e below Φ s₁ (mkF m 11 #[.val (.int i0), .val (.int i1), .val (.int i2), .val (.int i3), .unset, .unset, .unset, .unset, .unset, .unset, .unset, .unset, .unset, .unset, .unset] [(.int (0 : Int32))])
      exact j11_1 _ (by rw [if_pos hc3])
    · refine Go.of (fun t k => XS.ifNo X0.here hx rfl (hb hby at_3) rfl (XT.i0_eq_f hc3) k) ?_
      show Go p e below Φ s₁ (mkF m 6 #[.val (.int i0), .val (.int i1), .val (.int i2), .val (.int i3), .unset, .unset, .unset, .unset, .unset, .unset, .unset, .unset, .unset, .unset, .unset] [])
      refine Go.of (fun t k => XS.iconst X0.here hx rfl (hb hby at_6) k) ?_
      show Go p e below Φ s₁ (mkF m 7 #[.val (.int i0), .val (.int i1), .val (.int i2), .val (.int i3), .unset, .unset, .unset, .unset, .unset, .unset, .unset, .unset, .unset, .unset, .unset] [(.int (1 : Int32))])
      refine Go.of (fun t k => XS.goto X0.here hx rfl (pc0 := 7) (pc' := 11) rfl (hb hby at_7) (by decide) (by decide) k) ?_
      show Go p e below Φ s₁ (mkF m 11 #[.val (.int i0), .val (.int i1), .val (.int i2), .val (.int i3), .unset, .unset, .unset, .unset, .unset, .unset, .unset, .unset, .unset, .unset, .unset] [(.int (1 : Int32))])
      exact j11_1 _ (by rw [if_neg hc3])
  intro v11 hv11
  show Go p e below Φ s₁ (mkF m 11 #[.val (.int i0), .val (.int i1), .val (.int i2), .val (.int i3), .unset, .unset, .unset, .unset, .unset, .unset, .unset, .unset, .unset, .unset, .unset] [(.int v11)])
  refine Go.of (fun t k => XS.istore X0.here hx rfl (hb hby at_11) rfl (l' := #[.val (.int i0), .val (.int i1), .val (.int i2), .val (.int i3), .val (.int v11), .unset, .unset, .unset, .unset, .unset, .unset, .unset, .unset, .unset, .unset]) rfl k) ?_
  show Go p e below Φ s₁ (mkF m 13 #[.val (.int i0), .val (.int i1), .val (.int i2), .val (.int i3), .val (.int v11), .unset, .unset, .unset, .unset, .unset, .unset, .unset, .unset, .unset, .unset] [])
  refine Go.of (fun t k => XS.iloadN X0.here hx rfl (hb hby at_13) rfl  k) ?_
  show Go p e below Φ s₁ (mkF m 14 #[.val (.int i0), .val (.int i1), .val (.int i2), .val (.int i3), .val (.int v11), .unset, .unset, .unset, .unset, .unset, .unset, .unset, .unset, .unset, .unset] [(.int i3)])
  refine Go.of (fun t k => XS.iconst X0.here hx rfl (hb hby at_14) k) ?_
  show Go p e below Φ s₁ (mkF m 15 #[.val (.int i0), .val (.int i1), .val (.int i2), .val (.int i3), .val (.int v11), .unset, .unset, .unset, .unset, .unset, .unset, .unset, .unset, .unset, .unset] [(.int (2 : Int32)), (.int i3)])
  refine Go.of (fun t k => XS.iand X0.here hx rfl (hb hby at_15) rfl k) ?_
  show Go p e below Φ s₁ (mkF m 16 #[.val (.int i0), .val (.int i1), .val (.int i2), .val (.int i3), .val (.int v11), .unset, .unset, .unset, .unset, .unset, .unset, .unset, .unset, .unset, .unset] [(.int (i3 &&& (2 : Int32)))])
  suffices j24_2 :  ∀ v24 : Int32, v24 = (if (i3 &&& (2 : Int32)) = (0 : Int32) then (0 : Int32) else (1 : Int32)) → Go p e below Φ s₁ (mkF m 24 #[.val (.int i0), .val (.int i1), .val (.int i2), .val (.int i3), .val (.int v11), .unset, .unset, .unset, .unset, .unset, .unset, .unset, .unset, .unset, .unset] [(.int v24)]) by
    by_cases hc16 : (i3 &&& (2 : Int32)) = (0 : Int32)
    · refine Go.of (fun t k => XS.ifYes X0.here hx rfl (pc0 := 16) (pc' := 23) rfl (hb hby at_16) rfl (XT.i0_eq_t hc16) (by decide) (by decide) k) ?_
      show Go p e below Φ s₁ (mkF m 23 #[.val (.int i0), .val (.int i1), .val (.int i2), .val (.int i3), .val (.int v11), .unset, .unset, .unset, .unset, .unset, .unset, .unset, .unset, .unset, .unset] [])
      refine Go.of (fun t k => XS.iconst X0.here hx rfl (hb hby at_23) k) ?_
      show Go p e below Φ s₁ (mkF m 24 #[.val (.int i0), .val (.int i1), .val (.int i2), .val (.int i3), .val (.int v11), .unset, .unset, .unset, .unset, .unset, .unset, .unset, .unset, .unset, .unset] [(.int (0 : Int32))])
      exact j24_2 _ (by rw [if_pos hc16])
    · refine Go.of (fun t k => XS.ifNo X0.here hx rfl (hb hby at_16) rfl (XT.i0_eq_f hc16) k) ?_
      show Go p e below Φ s₁ (mkF m 19 #[.val (.int i0), .val (.int i1), .val (.int i2), .val (.int i3), .val (.int v11), .unset, .unset, .unset, .unset, .unset, .unset, .unset, .unset, .unset, .unset] [])
      refine Go.of (fun t k => XS.iconst X0.here hx rfl (hb hby at_19) k) ?_
      show Go p e below Φ s₁ (mkF m 20 #[.val (.int i0), .val (.int i1), .val (.int i2), .val (.int i3), .val (.int v11), .unset, .unset, .unset, .unset, .unset, .unset, .unset, .unset, .unset, .unset] [(.int (1 : Int32))])
      refine Go.of (fun t k => XS.goto X0.here hx rfl (pc0 := 20) (pc' := 24) rfl (hb hby at_20) (by decide) (by decide) k) ?_
      show Go p e below Φ s₁ (mkF m 24 #[.val (.int i0), .val (.int i1), .val (.int i2), .val (.int i3), .val (.int v11), .unset, .unset, .unset, .unset, .unset, .unset, .unset, .unset, .unset, .unset] [(.int (1 : Int32))])
      exact j24_2 _ (by rw [if_neg hc16])
  intro v24 hv24
  show Go p e below Φ s₁ (mkF m 24 #[.val (.int i0), .val (.int i1), .val (.int i2), .val (.int i3), .val (.int v11), .unset, .unset, .unset, .unset, .unset, .unset, .unset, .unset, .unset, .unset] [(.int v24)])
  refine Go.of (fun t k => XS.istore X0.here hx rfl (hb hby at_24) rfl (l' := #[.val (.int i0), .val (.int i1), .val (.int i2), .val (.int i3), .val (.int v11), .val (.int v24), .unset, .unset, .unset, .unset, .unset, .unset, .unset, .unset, .unset]) rfl k) ?_
  show Go p e below Φ s₁ (mkF m 26 #[.val (.int i0), .val (.int i1), .val (.int i2), .val (.int i3), .val (.int v11), .val (.int v24), .unset, .unset, .unset, .unset, .unset, .unset, .unset, .unset, .unset] [])
  refine Go.of (fun t k => XS.iloadN X0.here hx rfl (hb hby at_26) rfl  k) ?_
  show Go p e below Φ s₁ (mkF m 27 #[.val (.int i0), .val (.int i1), .val (.int i2), .val (.int i3), .val (.int v11), .val (.int v24), .unset, .unset, .unset, .unset, .unset, .unset, .unset, .unset, .unset] [(.int i0)])
  refine Go.of (fun t k => X0.ldcInt hx hown (mvT hZ (hw _ (List.mem_of_getElem? (i := 0) rfl))) (g := (mkF m 27 #[.val (.int i0), .val (.int i1), .val (.int i2), .val (.int i3), .val (.int v11), .val (.int v24), .unset, .unset, .unset, .unset, .unset, .unset, .unset, .unset, .unset] [(.int i0)])) rfl (hb hby at_27) t k) ?_
  show Go p e below Φ s₁ (mkF m 29 #[.val (.int i0), .val (.int i1), .val (.int i2), .val (.int i3), .val (.int v11), .val (.int v24), .unset, .unset, .unset, .unset, .unset, .unset, .unset, .unset, .unset] [(.int (65535 : Int32)), (.int i0)])
  refine Go.of (fun t k => XS.iand X0.here hx rfl (hb hby at_29) rfl k) ?_
  show Go p e below Φ s₁ (mkF m 30 #[.val (.int i0), .val (.int i1), .val (.int i2), .val (.int i3), .val (.int v11), .val (.int v24), .unset, .unset, .unset, .unset, .unset, .unset, .unset, .unset, .unset] [(.int (i0 &&& (65535 : Int32)))])
  refine Go.of (fun t k => XS.i2c X0.here hx rfl (hb hby at_30) rfl k) ?_
  show Go p e below Φ s₁ (mkF m 31 #[.val (.int i0), .val (.int i1), .val (.int i2), .val (.int i3), .val (.int v11), .val (.int v24), .unset, .unset, .unset, .unset, .unset, .unset, .unset, .unset, .unset] [(.int ((i0 &&& (65535 : Int32)).toUInt32.toUInt16.toUInt32.toInt32))])
  obtain ⟨x31, hx31⟩ : ∃ z : Int32, z = ((i0 &&& (65535 : Int32)).toUInt32.toUInt16.toUInt32.toInt32) := ⟨_, rfl⟩
  rw [← hx31]
  refine Go.of (fun t k => XS.istore X0.here hx rfl (hb hby at_31) rfl (l' := #[.val (.int i0), .val (.int i1), .val (.int i2), .val (.int i3), .val (.int v11), .val (.int v24), .val (.int x31), .unset, .unset, .unset, .unset, .unset, .unset, .unset, .unset]) rfl k) ?_
  show Go p e below Φ s₁ (mkF m 33 #[.val (.int i0), .val (.int i1), .val (.int i2), .val (.int i3), .val (.int v11), .val (.int v24), .val (.int x31), .unset, .unset, .unset, .unset, .unset, .unset, .unset, .unset] [])
  obtain ⟨T3, h3, X3, e3, E3, A3, D3, -, st3⟩ := newO X0 hx hZ hown (hw _ (List.mem_of_getElem? (i := 1) rfl)) (hw _ (List.mem_of_getElem? (i := 2) rfl)) (hw _ (List.mem_of_getElem? (i := 3) rfl)) e0 (g := (mkF m 33 #[.val (.int i0), .val (.int i1), .val (.int i2), .val (.int i3), .val (.int v11), .val (.int v24), .val (.int x31), .unset, .unset, .unset, .unset, .unset, .unset, .unset, .unset] [])) rfl (hb hby at_33) (by decide) (by decide)
  obtain ⟨b3, g3⟩ : ∃ z, z = h0.size := ⟨_, rfl⟩
  rw [← g3] at A3 D3 st3
  have g_b3 : n0 ≤ b3 := Nat.le_trans Z0 (Nat.le_of_eq g3.symm)
  have Z3 := Nat.le_trans Z0 E3.1
  have E_b3 := A3
  have F_b3_volatility : Fld Z h3 b3 "com/example/shelfset/shelfset/Catalog$Function" "volatility" "C" (.int (0 : Int32)) := D3 (Or.inr (hw _ (List.mem_of_getElem? (i := 16) rfl))) (ty := .char) (by decide)
  have F_b3_returnsSets : Fld Z h3 b3 "com/example/shelfset/shelfset/Catalog$Function" "returnsSets" "Z" (.int (0 : Int32)) := D3 (Or.inr (hw _ (List.mem_of_getElem? (i := 18) rfl))) (ty := .boolean) (by decide)
  refine Go.of st3 ?_
  show Go p e below Φ T3 (mkF m 36 #[.val (.int i0), .val (.int i1), .val (.int i2), .val (.int i3), .val (.int v11), .val (.int v24), .val (.int x31), .unset, .unset, .unset, .unset, .unset, .unset, .unset, .unset] [(.ref b3)])
  refine Go.of (fun t k => XS.dup X3.here hx rfl (hb hby at_36) rfl rfl k) ?_
  show Go p e below Φ T3 (mkF m 37 #[.val (.int i0), .val (.int i1), .val (.int i2), .val (.int i3), .val (.int v11), .val (.int v24), .val (.int x31), .unset, .unset, .unset, .unset, .unset, .unset, .unset, .unset] [(.ref b3), (.ref b3)])
  refine Go.of (fun t k => XS.iload X3.here hx rfl (hb hby at_37) rfl  k) ?_
  show Go p e below Φ T3 (mkF m 39 #[.val (.int i0), .val (.int i1), .val (.int i2), .val (.int i3), .val (.int v11), .val (.int v24), .val (.int x31), .unset, .unset, .unset, .unset, .unset, .unset, .unset, .unset] [(.int x31), (.ref b3), (.ref b3)])
  refine Go.of (fun t k => XS.iload X3.here hx rfl (hb hby at_39) rfl  k) ?_
  show Go p e below Φ T3 (mkF m 41 #[.val (.int i0), .val (.int i1), .val (.int i2), .val (.int i3), .val (.int v11), .val (.int v24), .val (.int x31), .unset, .unset, .unset, .unset, .unset, .unset, .unset, .unset] [(.int v11), (.int x31), (.ref b3), (.ref b3)])
  obtain ⟨_, _, ⟨T4, L4, k4, n4⟩, -, X4, ⟨Lc4, hQ4, l4, y4, z4⟩, st4⟩ := X3.specialBack hx (y := (⟨"com/example/shelfset/shelfset/Catalog$Function", "<init>", "(CZ)V"⟩ : MethodName)) rfl hown (mvT hZ (hw _ (List.mem_of_getElem? (i := 4) rfl))) (mvT hZ (hw _ (List.mem_of_getElem? (i := 5) rfl))) (mvT hZ (hw _ (List.mem_of_getElem? (i := 6) rfl))) (by decide) (backOf (W := 1) (rm1 l Z a0 hw [] b3 x31 v11 (0 : Int32) (0 : Int32) h3 n0 Z3 F_b3_volatility F_b3_returnsSets E_b3 g_b3) hZ (hw _ (List.mem_of_getElem? (i := 6) rfl)) (hw _ (List.mem_of_getElem? (i := 3) rfl)) (by decide) (by decide)) (g := (mkF m 41 #[.val (.int i0), .val (.int i1), .val (.int i2), .val (.int i3), .val (.int v11), .val (.int v24), .val (.int x31), .unset, .unset, .unset, .unset, .unset, .unset, .unset, .unset] [(.int v11), (.int x31), (.ref b3), (.ref b3)])) rfl (by rw [hml]; rfl) (Steps.refl _) (a := b3) (argsL := [(.int x31), (.int v11)]) (rest := [(.ref b3)]) (lenOf own_pd2 rfl) rfl (by show 2 * 0 + _ ≤ _; exact Nat.le_of_eq rfl) (hb hby at_41) (fun _ _ => ⟨rfl, e3, (by decide : 1 + 0 ≤ _), (by decide : 2 + 0 ≤ _)⟩)
  dsimp only [Pt.U, Pt.locs, Pt.cells, Pt.slots] at X4 l4 y4 z4 st4 hQ4
  subst l4 y4 z4
  obtain ⟨rfl, N4q, K4q, c4_0, c4_1, c4_2⟩ := hQ4
  have N4 := Fr.app N0 N4q
  obtain ⟨lc4, X4, N4⟩ : ∃ lc, Stand p l e room_1 s m #[(.int i0), (.int i1), (.int i2), (.int i3)] below meth c T4 lc 1 2 ∧ Fr n0 lc := ⟨_, X4, N4⟩
  have E_b3 := c4_0
  obtain ⟨y4_volatility, hy4_volatility⟩ : ∃ z : Int32, z = (nar .char x31) := ⟨_, rfl⟩
  rw [← hy4_volatility] at c4_1
  have F_b3_volatility := c4_1
  obtain ⟨y4_returnsSets, hy4_returnsSets⟩ : ∃ z : Int32, z = (nar .boolean v11) := ⟨_, rfl⟩
  rw [← hy4_returnsSets] at c4_2
  have F_b3_returnsSets := c4_2
  have Z4 := Nat.le_trans Z3 K4q.1
  refine Go.tr st4 ?_
  show Go p e below Φ T4 (mkF m 44 #[.val (.int i0), .val (.int i1), .val (.int i2), .val (.int i3), .val (.int v11), .val (.int v24), .val (.int x31), .unset, .unset, .unset, .unset, .unset, .unset, .unset, .unset] [(.ref b3)])
  refine Go.of (fun t k => XS.astore X4.here hx rfl (hb hby at_44) rfl rfl (l' := #[.val (.int i0), .val (.int i1), .val (.int i2), .val (.int i3), .val (.int v11), .val (.int v24), .val (.int x31), .val (.ref b3), .unset, .unset, .unset, .unset, .unset, .unset, .unset]) rfl k) ?_
  show Go p e below Φ T4 (mkF m 46 #[.val (.int i0), .val (.int i1), .val (.int i2), .val (.int i3), .val (.int v11), .val (.int v24), .val (.int x31), .val (.ref b3), .unset, .unset, .unset, .unset, .unset, .unset, .unset] [])
  refine Go.of (fun t k => XS.aload X4.here hx rfl (hb hby at_46) rfl rfl  k) ?_
  show Go p e below Φ T4 (mkF m 48 #[.val (.int i0), .val (.int i1), .val (.int i2), .val (.int i3), .val (.int v11), .val (.int v24), .val (.int x31), .val (.ref b3), .unset, .unset, .unset, .unset, .unset, .unset, .unset] [(.ref b3)])
  obtain ⟨cq5, kq5, q5a, q5b, q5c⟩ := isOf hZ rfl E_b3
  obtain ⟨_, _, ⟨T5, L5, k5, n5⟩, -, X5, ⟨Lc5, hQ5, l5, y5, z5⟩, st5⟩ := X4.virtualBack hx (y := (⟨"com/example/shelfset/shelfset/Catalog$Function", "mayWrite", "()Z"⟩ : MethodName)) (z := (⟨"com/example/shelfset/shelfset/Catalog$Function", "mayWrite", "()Z"⟩ : MethodName)) hown (mvT hZ (hw _ (List.mem_of_getElem? (i := 19) rfl))) (mvT hZ (hw _ (List.mem_of_getElem? (i := 20) rfl))) (notFace_of_selects (args := #[]) (mvT hZ (hw _ (List.mem_of_getElem? (i := 22) rfl)))) (mvT hZ (hw _ (List.mem_of_getElem? (i := 22) rfl))) (mvT hZ (hw _ (List.mem_of_getElem? (i := 21) rfl))) (by decide) (backOf (W := 0) (rm4 l Z a0 hw [] b3 y4_volatility T4.heap n0 Z4 F_b3_volatility) hZ (hw _ (List.mem_of_getElem? (i := 23) rfl)) (hw _ (List.mem_of_getElem? (i := 3) rfl)) (by decide) (by decide)) q5a q5c (g := (mkF m 48 #[.val (.int i0), .val (.int i1), .val (.int i2), .val (.int i3), .val (.int v11), .val (.int v24), .val (.int x31), .val (.ref b3), .unset, .unset, .unset, .unset, .unset, .unset, .unset] [(.ref b3)])) rfl (by rw [hml]; rfl) (Steps.refl _) (argsL := []) (rest := []) (lenOf own_pd3 rfl) rfl (by show 2 * 0 + _ ≤ _; exact Nat.le_of_eq rfl) (hb hby at_48) (fun _ _ => ⟨rfl, rfl, (by decide : 1 + 0 ≤ _), (by decide : 2 + 0 ≤ _)⟩)
  dsimp only [Pt.U, Pt.locs, Pt.cells, Pt.slots] at X5 l5 y5 z5 st5 hQ5
  subst l5 y5 z5
  obtain ⟨rfl, N5q, e5q⟩ := hQ5
  have N5 := Fr.app N4 N5q
  obtain ⟨lc5, X5, N5⟩ : ∃ lc, Stand p l e room_1 s m #[(.int i0), (.int i1), (.int i2), (.int i3)] below meth c T5 lc 1 2 ∧ Fr n0 lc := ⟨_, X5, N5⟩
  refine Go.tr st5 ?_
  show Go p e below Φ T5 (mkF m 51 #[.val (.int i0), .val (.int i1), .val (.int i2), .val (.int i3), .val (.int v11), .val (.int v24), .val (.int x31), .val (.ref b3), .unset, .unset, .unset, .unset, .unset, .unset, .unset] [(.int (own_may y4_volatility))])
  refine Go.of (fun t k => XS.iload X5.here hx rfl (hb hby at_51) rfl  k) ?_
  show Go p e below Φ T5 (mkF m 53 #[.val (.int i0), .val (.int i1), .val (.int i2), .val (.int i3), .val (.int v11), .val (.int v24), .val (.int x31), .val (.ref b3), .unset, .unset, .unset, .unset, .unset, .unset, .unset] [(.int x31), (.int (own_may y4_volatility))])
  refine Go.of (fun t k => XS.bipush X5.here hx rfl (hb hby at_53) k) ?_
  show Go p e below Φ T5 (mkF m 55 #[.val (.int i0), .val (.int i1), .val (.int i2), .val (.int i3), .val (.int v11), .val (.int v24), .val (.int x31), .val (.ref b3), .unset, .unset, .unset, .unset, .unset, .unset, .unset] [(.int (118 : Int32)), (.int x31), (.int (own_may y4_volatility))])
  suffices j63_6 :  ∀ v63 : Int32, v63 = (if x31 = (118 : Int32) then (1 : Int32) else (0 : Int32)) → Go p e below Φ T5 (mkF m 63 #[.val (.int i0), .val (.int i1), .val (.int i2), .val (.int i3), .val (.int v11), .val (.int v24), .val (.int x31), .val (.ref b3), .unset, .unset, .unset, .unset, .unset, .unset, .unset] [(.int v63), (.int (own_may y4_volatility))]) by
    by_cases hc55 : x31 = (118 : Int32)
    · refine Go.of (fun t k => XS.icmpNo X5.here hx rfl (hb hby at_55) rfl (XT.ii_ne_f hc55) k) ?_
      show Go p e below Φ T5 (mkF m 58 #[.val (.int i0), .val (.int i1), .val (.int i2), .val (.int i3), .val (.int v11), .val (.int v24), .val (.int x31), .val (.ref b3), .unset, .unset, .unset, .unset, .unset, .unset, .unset] [(.int (own_may y4_volatility))])
      refine Go.of (fun t k => XS.iconst X5.here hx rfl (hb hby at_58) k) ?_
      show Go p e below Φ T5 (mkF m 59 #[.val (.int i0), .val (.int i1), .val (.int i2), .val (.int i3), .val (.int v11), .val (.int v24), .val (.int x31), .val (.ref b3), .unset, .unset, .unset, .unset, .unset, .unset, .unset] [(.int (1 : Int32)), (.int (own_may y4_volatility))])
      refine Go.of (fun t k => XS.goto X5.here hx rfl (pc0 := 59) (pc' := 63) rfl (hb hby at_59) (by decide) (by decide) k) ?_
      show Go p e below Φ T5 (mkF m 63 #[.val (.int i0), .val (.int i1), .val (.int i2), .val (.int i3), .val (.int v11), .val (.int v24), .val (.int x31), .val (.ref b3), .unset, .unset, .unset, .unset, .unset, .unset, .unset] [(.int (1 : Int32)), (.int (own_may y4_volatility))])
      exact j63_6 _ (by rw [if_pos hc55])
    · refine Go.of (fun t k => XS.icmpYes X5.here hx rfl (pc0 := 55) (pc' := 62) rfl (hb hby at_55) rfl (XT.ii_ne_t hc55) (by decide) (by decide) k) ?_
      show Go p e below Φ T5 (mkF m 62 #[.val (.int i0), .val (.int i1), .val (.int i2), .val (.int i3), .val (.int v11), .val (.int v24), .val (.int x31), .val (.ref b3), .unset, .unset, .unset, .unset, .unset, .unset, .unset] [(.int (own_may y4_volatility))])
      refine Go.of (fun t k => XS.iconst X5.here hx rfl (hb hby at_62) k) ?_
      show Go p e below Φ T5 (mkF m 63 #[.val (.int i0), .val (.int i1), .val (.int i2), .val (.int i3), .val (.int v11), .val (.int v24), .val (.int x31), .val (.ref b3), .unset, .unset, .unset, .unset, .unset, .unset, .unset] [(.int (0 : Int32)), (.int (own_may y4_volatility))])
      exact j63_6 _ (by rw [if_neg hc55])
  intro v63 hv63
  show Go p e below Φ T5 (mkF m 63 #[.val (.int i0), .val (.int i1), .val (.int i2), .val (.int i3), .val (.int v11), .val (.int v24), .val (.int x31), .val (.ref b3), .unset, .unset, .unset, .unset, .unset, .unset, .unset] [(.int v63), (.int (own_may y4_volatility))])
  suffices j71_7 :  ∀ v71 : Int32, v71 = (if (own_may y4_volatility) = v63 then (1 : Int32) else (0 : Int32)) → Go p e below Φ T5 (mkF m 71 #[.val (.int i0), .val (.int i1), .val (.int i2), .val (.int i3), .val (.int v11), .val (.int v24), .val (.int x31), .val (.ref b3), .unset, .unset, .unset, .unset, .unset, .unset, .unset] [(.int v71)]) by
    by_cases hc63 : (own_may y4_volatility) = v63
    · refine Go.of (fun t k => XS.icmpNo X5.here hx rfl (hb hby at_63) rfl (XT.ii_ne_f hc63) k) ?_
      show Go p e below Φ T5 (mkF m 66 #[.val (.int i0), .val (.int i1), .val (.int i2), .val (.int i3), .val (.int v11), .val (.int v24), .val (.int x31), .val (.ref b3), .unset, .unset, .unset, .unset, .unset, .unset, .unset] [])
      refine Go.of (fun t k => XS.iconst X5.here hx rfl (hb hby at_66) k) ?_
      show Go p e below Φ T5 (mkF m 67 #[.val (.int i0), .val (.int i1), .val (.int i2), .val (.int i3), .val (.int v11), .val (.int v24), .val (.int x31), .val (.ref b3), .unset, .unset, .unset, .unset, .unset, .unset, .unset] [(.int (1 : Int32))])
      refine Go.of (fun t k => XS.goto X5.here hx rfl (pc0 := 67) (pc' := 71) rfl (hb hby at_67) (by decide) (by decide) k) ?_
      show Go p e below Φ T5 (mkF m 71 #[.val (.int i0), .val (.int i1), .val (.int i2), .val (.int i3), .val (.int v11), .val (.int v24), .val (.int x31), .val (.ref b3), .unset, .unset, .unset, .unset, .unset, .unset, .unset] [(.int (1 : Int32))])
      exact j71_7 _ (by rw [if_pos hc63])
    · refine Go.of (fun t k => XS.icmpYes X5.here hx rfl (pc0 := 63) (pc' := 70) rfl (hb hby at_63) rfl (XT.ii_ne_t hc63) (by decide) (by decide) k) ?_
      show Go p e below Φ T5 (mkF m 70 #[.val (.int i0), .val (.int i1), .val (.int i2), .val (.int i3), .val (.int v11), .val (.int v24), .val (.int x31), .val (.ref b3), .unset, .unset, .unset, .unset, .unset, .unset, .unset] [])
      refine Go.of (fun t k => XS.iconst X5.here hx rfl (hb hby at_70) k) ?_
      show Go p e below Φ T5 (mkF m 71 #[.val (.int i0), .val (.int i1), .val (.int i2), .val (.int i3), .val (.int v11), .val (.int v24), .val (.int x31), .val (.ref b3), .unset, .unset, .unset, .unset, .unset, .unset, .unset] [(.int (0 : Int32))])
      exact j71_7 _ (by rw [if_neg hc63])
  intro v71 hv71
  show Go p e below Φ T5 (mkF m 71 #[.val (.int i0), .val (.int i1), .val (.int i2), .val (.int i3), .val (.int v11), .val (.int v24), .val (.int x31), .val (.ref b3), .unset, .unset, .unset, .unset, .unset, .unset, .unset] [(.int v71)])
  refine Go.of (fun t k => XS.istore X5.here hx rfl (hb hby at_71) rfl (l' := #[.val (.int i0), .val (.int i1), .val (.int i2), .val (.int i3), .val (.int v11), .val (.int v24), .val (.int x31), .val (.ref b3), .val (.int v71), .unset, .unset, .unset, .unset, .unset, .unset]) rfl k) ?_
  show Go p e below Φ T5 (mkF m 73 #[.val (.int i0), .val (.int i1), .val (.int i2), .val (.int i3), .val (.int v11), .val (.int v24), .val (.int x31), .val (.ref b3), .val (.int v71), .unset, .unset, .unset, .unset, .unset, .unset] [])
  refine Go.of (fun t k => XS.iloadN X5.here hx rfl (hb hby at_73) rfl  k) ?_
  show Go p e below Φ T5 (mkF m 74 #[.val (.int i0), .val (.int i1), .val (.int i2), .val (.int i3), .val (.int v11), .val (.int v24), .val (.int x31), .val (.ref b3), .val (.int v71), .unset, .unset, .unset, .unset, .unset, .unset] [(.int i1)])
  refine Go.of (fun t k => X5.ldcInt hx hown (mvT hZ (hw _ (List.mem_of_getElem? (i := 24) rfl))) (g := (mkF m 74 #[.val (.int i0), .val (.int i1), .val (.int i2), .val (.int i3), .val (.int v11), .val (.int v24), .val (.int x31), .val (.ref b3), .val (.int v71), .unset, .unset, .unset, .unset, .unset, .unset] [(.int i1)])) rfl (hb hby at_74) t k) ?_
  show Go p e below Φ T5 (mkF m 76 #[.val (.int i0), .val (.int i1), .val (.int i2), .val (.int i3), .val (.int v11), .val (.int v24), .val (.int x31), .val (.ref b3), .val (.int v71), .unset, .unset, .unset, .unset, .unset, .unset] [(.int (2147483647 : Int32)), (.int i1)])
  refine Go.of (fun t k => XS.iand X5.here hx rfl (hb hby at_76) rfl k) ?_
  show Go p e below Φ T5 (mkF m 77 #[.val (.int i0), .val (.int i1), .val (.int i2), .val (.int i3), .val (.int v11), .val (.int v24), .val (.int x31), .val (.ref b3), .val (.int v71), .unset, .unset, .unset, .unset, .unset, .unset] [(.int (i1 &&& (2147483647 : Int32)))])
  refine Go.of (fun t k => XS.iconst X5.here hx rfl (hb hby at_77) k) ?_
  show Go p e below Φ T5 (mkF m 78 #[.val (.int i0), .val (.int i1), .val (.int i2), .val (.int i3), .val (.int v11), .val (.int v24), .val (.int x31), .val (.ref b3), .val (.int v71), .unset, .unset, .unset, .unset, .unset, .unset] [(.int (5 : Int32)), (.int (i1 &&& (2147483647 : Int32)))])
  refine Go.of (fun t k => iremM X5 hx rfl (hb hby at_78) rfl (by decide) k) ?_
  show Go p e below Φ T5 (mkF m 79 #[.val (.int i0), .val (.int i1), .val (.int i2), .val (.int i3), .val (.int v11), .val (.int v24), .val (.int x31), .val (.ref b3), .val (.int v71), .unset, .unset, .unset, .unset, .unset, .unset] [(.int ((i1 &&& (2147483647 : Int32)) % (5 : Int32)))])
  obtain ⟨_, _, ⟨T8, L8, k8, n8⟩, -, X8, ⟨Lc8, hQ8, l8, y8, z8⟩, st8⟩ := Jvm.LawKit.callS X5 hx (y := (⟨"com/example/shelfset/shelfset/FunctionMayWritePinLaw", "level", "(I)C"⟩ : MethodName)) hown (mvT hZ (hw _ (List.mem_of_getElem? (i := 25) rfl))) (mvT hZ (hw _ (List.mem_of_getElem? (i := 26) rfl))) (mvT hZ (hw _ (List.mem_of_getElem? (i := 27) rfl))) (mvT hZ (hw _ (List.mem_of_getElem? (i := 28) rfl))) (by decide) (backOf (W := 0) (rm5 l Z a0 hw [] ((i1 &&& (2147483647 : Int32)) % (5 : Int32)) T4.heap n0 Z4) hZ (hw _ (List.mem_of_getElem? (i := 28) rfl)) (hw _ (List.mem_of_getElem? (i := 27) rfl)) (by decide) (by decide)) (g := (mkF m 79 #[.val (.int i0), .val (.int i1), .val (.int i2), .val (.int i3), .val (.int v11), .val (.int v24), .val (.int x31), .val (.ref b3), .val (.int v71), .unset, .unset, .unset, .unset, .unset, .unset] [(.int ((i1 &&& (2147483647 : Int32)) % (5 : Int32)))])) rfl (by rw [hml]; rfl) (argsL := [(.int ((i1 &&& (2147483647 : Int32)) % (5 : Int32)))]) (rest := []) (lenOf own_pd4 rfl) rfl (by show 2 * 0 + _ ≤ _; exact Nat.le_of_eq rfl) (hb hby at_79) (fun _ _ => ⟨rfl, (e5q), (by decide : 1 + 0 ≤ _), (by decide : 2 + 0 ≤ _)⟩)
  dsimp only [Pt.U, Pt.locs, Pt.cells, Pt.slots] at X8 l8 y8 z8 st8 hQ8
  subst l8 y8 z8
  obtain ⟨rfl, N8q, e8q⟩ := hQ8
  have N8 := Fr.app N5 N8q
  obtain ⟨lc8, X8, N8⟩ : ∃ lc, Stand p l e room_1 s m #[(.int i0), (.int i1), (.int i2), (.int i3)] below meth c T8 lc 1 2 ∧ Fr n0 lc := ⟨_, X8, N8⟩
  refine Go.of st8 ?_
  show Go p e below Φ T8 (mkF m 82 #[.val (.int i0), .val (.int i1), .val (.int i2), .val (.int i3), .val (.int v11), .val (.int v24), .val (.int x31), .val (.ref b3), .val (.int v71), .unset, .unset, .unset, .unset, .unset, .unset] [(.int (own_level ((i1 &&& (2147483647 : Int32)) % (5 : Int32))))])
  obtain ⟨x82, hx82⟩ : ∃ z : Int32, z = (own_level ((i1 &&& (2147483647 : Int32)) % (5 : Int32))) := ⟨_, rfl⟩
  rw [← hx82]
  refine Go.of (fun t k => XS.istore X8.here hx rfl (hb hby at_82) rfl (l' := #[.val (.int i0), .val (.int i1), .val (.int i2), .val (.int i3), .val (.int v11), .val (.int v24), .val (.int x31), .val (.ref b3), .val (.int v71), .val (.int x82), .unset, .unset, .unset, .unset, .unset]) rfl k) ?_
  show Go p e below Φ T8 (mkF m 84 #[.val (.int i0), .val (.int i1), .val (.int i2), .val (.int i3), .val (.int v11), .val (.int v24), .val (.int x31), .val (.ref b3), .val (.int v71), .val (.int x82), .unset, .unset, .unset, .unset, .unset] [])
  refine Go.of (fun t k => XS.iloadN X8.here hx rfl (hb hby at_84) rfl  k) ?_
  show Go p e below Φ T8 (mkF m 85 #[.val (.int i0), .val (.int i1), .val (.int i2), .val (.int i3), .val (.int v11), .val (.int v24), .val (.int x31), .val (.ref b3), .val (.int v71), .val (.int x82), .unset, .unset, .unset, .unset, .unset] [(.int i2)])
  refine Go.of (fun t k => X8.ldcInt hx hown (mvT hZ (hw _ (List.mem_of_getElem? (i := 24) rfl))) (g := (mkF m 85 #[.val (.int i0), .val (.int i1), .val (.int i2), .val (.int i3), .val (.int v11), .val (.int v24), .val (.int x31), .val (.ref b3), .val (.int v71), .val (.int x82), .unset, .unset, .unset, .unset, .unset] [(.int i2)])) rfl (hb hby at_85) t k) ?_
  show Go p e below Φ T8 (mkF m 87 #[.val (.int i0), .val (.int i1), .val (.int i2), .val (.int i3), .val (.int v11), .val (.int v24), .val (.int x31), .val (.ref b3), .val (.int v71), .val (.int x82), .unset, .unset, .unset, .unset, .unset] [(.int (2147483647 : Int32)), (.int i2)])
  refine Go.of (fun t k => XS.iand X8.here hx rfl (hb hby at_87) rfl k) ?_
  show Go p e below Φ T8 (mkF m 88 #[.val (.int i0), .val (.int i1), .val (.int i2), .val (.int i3), .val (.int v11), .val (.int v24), .val (.int x31), .val (.ref b3), .val (.int v71), .val (.int x82), .unset, .unset, .unset, .unset, .unset] [(.int (i2 &&& (2147483647 : Int32)))])
  refine Go.of (fun t k => XS.iconst X8.here hx rfl (hb hby at_88) k) ?_
  show Go p e below Φ T8 (mkF m 89 #[.val (.int i0), .val (.int i1), .val (.int i2), .val (.int i3), .val (.int v11), .val (.int v24), .val (.int x31), .val (.ref b3), .val (.int v71), .val (.int x82), .unset, .unset, .unset, .unset, .unset] [(.int (5 : Int32)), (.int (i2 &&& (2147483647 : Int32)))])
  refine Go.of (fun t k => iremM X8 hx rfl (hb hby at_89) rfl (by decide) k) ?_
  show Go p e below Φ T8 (mkF m 90 #[.val (.int i0), .val (.int i1), .val (.int i2), .val (.int i3), .val (.int v11), .val (.int v24), .val (.int x31), .val (.ref b3), .val (.int v71), .val (.int x82), .unset, .unset, .unset, .unset, .unset] [(.int ((i2 &&& (2147483647 : Int32)) % (5 : Int32)))])
  obtain ⟨_, _, ⟨T9, L9, k9, n9⟩, -, X9, ⟨Lc9, hQ9, l9, y9, z9⟩, st9⟩ := Jvm.LawKit.callS X8 hx (y := (⟨"com/example/shelfset/shelfset/FunctionMayWritePinLaw", "level", "(I)C"⟩ : MethodName)) hown (mvT hZ (hw _ (List.mem_of_getElem? (i := 25) rfl))) (mvT hZ (hw _ (List.mem_of_getElem? (i := 26) rfl))) (mvT hZ (hw _ (List.mem_of_getElem? (i := 27) rfl))) (mvT hZ (hw _ (List.mem_of_getElem? (i := 28) rfl))) (by decide) (backOf (W := 0) (rm5 l Z a0 hw [] ((i2 &&& (2147483647 : Int32)) % (5 : Int32)) T4.heap n0 Z4) hZ (hw _ (List.mem_of_getElem? (i := 28) rfl)) (hw _ (List.mem_of_getElem? (i := 27) rfl)) (by decide) (by decide)) (g := (mkF m 90 #[.val (.int i0), .val (.int i1), .val (.int i2), .val (.int i3), .val (.int v11), .val (.int v24), .val (.int x31), .val (.ref b3), .val (.int v71), .val (.int x82), .unset, .unset, .unset, .unset, .unset] [(.int ((i2 &&& (2147483647 : Int32)) % (5 : Int32)))])) rfl (by rw [hml]; rfl) (argsL := [(.int ((i2 &&& (2147483647 : Int32)) % (5 : Int32)))]) (rest := []) (lenOf own_pd4 rfl) rfl (by show 2 * 0 + _ ≤ _; exact Nat.le_of_eq rfl) (hb hby at_90) (fun _ _ => ⟨rfl, (e8q), (by decide : 1 + 0 ≤ _), (by decide : 2 + 0 ≤ _)⟩)
  dsimp only [Pt.U, Pt.locs, Pt.cells, Pt.slots] at X9 l9 y9 z9 st9 hQ9
  subst l9 y9 z9
  obtain ⟨rfl, N9q, e9q⟩ := hQ9
  have N9 := Fr.app N8 N9q
  obtain ⟨lc9, X9, N9⟩ : ∃ lc, Stand p l e room_1 s m #[(.int i0), (.int i1), (.int i2), (.int i3)] below meth c T9 lc 1 2 ∧ Fr n0 lc := ⟨_, X9, N9⟩
  refine Go.of st9 ?_
  show Go p e below Φ T9 (mkF m 93 #[.val (.int i0), .val (.int i1), .val (.int i2), .val (.int i3), .val (.int v11), .val (.int v24), .val (.int x31), .val (.ref b3), .val (.int v71), .val (.int x82), .unset, .unset, .unset, .unset, .unset] [(.int (own_level ((i2 &&& (2147483647 : Int32)) % (5 : Int32))))])
  obtain ⟨x93, hx93⟩ : ∃ z : Int32, z = (own_level ((i2 &&& (2147483647 : Int32)) % (5 : Int32))) := ⟨_, rfl⟩
  rw [← hx93]
  refine Go.of (fun t k => XS.istore X9.here hx rfl (hb hby at_93) rfl (l' := #[.val (.int i0), .val (.int i1), .val (.int i2), .val (.int i3), .val (.int v11), .val (.int v24), .val (.int x31), .val (.ref b3), .val (.int v71), .val (.int x82), .val (.int x93), .unset, .unset, .unset, .unset]) rfl k) ?_
  show Go p e below Φ T9 (mkF m 95 #[.val (.int i0), .val (.int i1), .val (.int i2), .val (.int i3), .val (.int v11), .val (.int v24), .val (.int x31), .val (.ref b3), .val (.int v71), .val (.int x82), .val (.int x93), .unset, .unset, .unset, .unset] [])
  obtain ⟨T10, h10, X10, e10, E10, A10, D10, -, st10⟩ := newO X9 hx hZ hown (hw _ (List.mem_of_getElem? (i := 1) rfl)) (hw _ (List.mem_of_getElem? (i := 2) rfl)) (hw _ (List.mem_of_getElem? (i := 3) rfl)) (e9q) (g := (mkF m 95 #[.val (.int i0), .val (.int i1), .val (.int i2), .val (.int i3), .val (.int v11), .val (.int v24), .val (.int x31), .val (.ref b3), .val (.int v71), .val (.int x82), .val (.int x93), .unset, .unset, .unset, .unset] [])) rfl (hb hby at_95) (by decide) (by decide)
  obtain ⟨b10, g10⟩ : ∃ z, z = T4.heap.size := ⟨_, rfl⟩
  rw [← g10] at A10 D10 st10
  have ne_b3_b10 : b3 ≠ b10 := Nat.ne_of_lt (Nat.lt_of_lt_of_le E_b3.lt (Nat.le_of_eq g10.symm))
  have g_b10 : n0 ≤ b10 := Nat.le_trans Z4 (Nat.le_of_eq g10.symm)
  have Z10 := Nat.le_trans Z4 E10.1
  have E_b3 := E_b3.ext E10
  have F_b3_volatility := F_b3_volatility.ext E10
  have F_b3_returnsSets := F_b3_returnsSets.ext E10
  have E_b10 := A10
  have F_b10_volatility : Fld Z h10 b10 "com/example/shelfset/shelfset/Catalog$Function" "volatility" "C" (.int (0 : Int32)) := D10 (Or.inr (hw _ (List.mem_of_getElem? (i := 16) rfl))) (ty := .char) (by decide)
  have F_b10_returnsSets : Fld Z h10 b10 "com/example/shelfset/shelfset/Catalog$Function" "returnsSets" "Z" (.int (0 : Int32)) := D10 (Or.inr (hw _ (List.mem_of_getElem? (i := 18) rfl))) (ty := .boolean) (by decide)
  refine Go.of st10 ?_
  show Go p e below Φ T10 (mkF m 98 #[.val (.int i0), .val (.int i1), .val (.int i2), .val (.int i3), .val (.int v11), .val (.int v24), .val (.int x31), .val (.ref b3), .val (.int v71), .val (.int x82), .val (.int x93), .unset, .unset, .unset, .unset] [(.ref b10)])
  refine Go.of (fun t k => XS.dup X10.here hx rfl (hb hby at_98) rfl rfl k) ?_
  show Go p e below Φ T10 (mkF m 99 #[.val (.int i0), .val (.int i1), .val (.int i2), .val (.int i3), .val (.int v11), .val (.int v24), .val (.int x31), .val (.ref b3), .val (.int v71), .val (.int x82), .val (.int x93), .unset, .unset, .unset, .unset] [(.ref b10), (.ref b10)])
  refine Go.of (fun t k => XS.iload X10.here hx rfl (hb hby at_99) rfl  k) ?_
  show Go p e below Φ T10 (mkF m 101 #[.val (.int i0), .val (.int i1), .val (.int i2), .val (.int i3), .val (.int v11), .val (.int v24), .val (.int x31), .val (.ref b3), .val (.int v71), .val (.int x82), .val (.int x93), .unset, .unset, .unset, .unset] [(.int x82), (.ref b10), (.ref b10)])
  refine Go.of (fun t k => XS.iload X10.here hx rfl (hb hby at_101) rfl  k) ?_
  show Go p e below Φ T10 (mkF m 103 #[.val (.int i0), .val (.int i1), .val (.int i2), .val (.int i3), .val (.int v11), .val (.int v24), .val (.int x31), .val (.ref b3), .val (.int v71), .val (.int x82), .val (.int x93), .unset, .unset, .unset, .unset] [(.int v11), (.int x82), (.ref b10), (.ref b10)])
  obtain ⟨_, _, ⟨T11, L11, k11, n11⟩, -, X11, ⟨Lc11, hQ11, l11, y11, z11⟩, st11⟩ := X10.specialBack hx (y := (⟨"com/example/shelfset/shelfset/Catalog$Function", "<init>", "(CZ)V"⟩ : MethodName)) rfl hown (mvT hZ (hw _ (List.mem_of_getElem? (i := 4) rfl))) (mvT hZ (hw _ (List.mem_of_getElem? (i := 5) rfl))) (mvT hZ (hw _ (List.mem_of_getElem? (i := 6) rfl))) (by decide) (backOf (W := 1) (rm1 l Z a0 hw [] b10 x82 v11 (0 : Int32) (0 : Int32) h10 n0 Z10 F_b10_volatility F_b10_returnsSets E_b10 g_b10) hZ (hw _ (List.mem_of_getElem? (i := 6) rfl)) (hw _ (List.mem_of_getElem? (i := 3) rfl)) (by decide) (by decide)) (g := (mkF m 103 #[.val (.int i0), .val (.int i1), .val (.int i2), .val (.int i3), .val (.int v11), .val (.int v24), .val (.int x31), .val (.ref b3), .val (.int v71), .val (.int x82), .val (.int x93), .unset, .unset, .unset, .unset] [(.int v11), (.int x82), (.ref b10), (.ref b10)])) rfl (by rw [hml]; rfl) (Steps.refl _) (a := b10) (argsL := [(.int x82), (.int v11)]) (rest := [(.ref b10)]) (lenOf own_pd2 rfl) rfl (by show 2 * 0 + _ ≤ _; exact Nat.le_of_eq rfl) (hb hby at_103) (fun _ _ => ⟨rfl, e10, (by decide : 2 + 0 ≤ _), (by decide : 4 + 0 ≤ _)⟩)
  dsimp only [Pt.U, Pt.locs, Pt.cells, Pt.slots] at X11 l11 y11 z11 st11 hQ11
  subst l11 y11 z11
  obtain ⟨rfl, N11q, K11q, c11_0, c11_1, c11_2⟩ := hQ11
  have N11 := Fr.app N9 N11q
  obtain ⟨lc11, X11, N11⟩ : ∃ lc, Stand p l e room_1 s m #[(.int i0), (.int i1), (.int i2), (.int i3)] below meth c T11 lc 2 4 ∧ Fr n0 lc := ⟨_, X11, N11⟩
  have E_b3 := E_b3.keep K11q
  have F_b3_volatility := F_b3_volatility.keep K11q (ninS ne_b3_b10 nin0)
  have F_b3_returnsSets := F_b3_returnsSets.keep K11q (ninS ne_b3_b10 nin0)
  have E_b10 := c11_0
  obtain ⟨y11_volatility, hy11_volatility⟩ : ∃ z : Int32, z = (nar .char x82) := ⟨_, rfl⟩
  rw [← hy11_volatility] at c11_1
  have F_b10_volatility := c11_1
  obtain ⟨y11_returnsSets, hy11_returnsSets⟩ : ∃ z : Int32, z = (nar .boolean v11) := ⟨_, rfl⟩
  rw [← hy11_returnsSets] at c11_2
  have F_b10_returnsSets := c11_2
  have Z11 := Nat.le_trans Z10 K11q.1
  refine Go.tr st11 ?_
  show Go p e below Φ T11 (mkF m 106 #[.val (.int i0), .val (.int i1), .val (.int i2), .val (.int i3), .val (.int v11), .val (.int v24), .val (.int x31), .val (.ref b3), .val (.int v71), .val (.int x82), .val (.int x93), .unset, .unset, .unset, .unset] [(.ref b10)])
  refine Go.of (fun t k => XS.astore X11.here hx rfl (hb hby at_106) rfl rfl (l' := #[.val (.int i0), .val (.int i1), .val (.int i2), .val (.int i3), .val (.int v11), .val (.int v24), .val (.int x31), .val (.ref b3), .val (.int v71), .val (.int x82), .val (.int x93), .val (.ref b10), .unset, .unset, .unset]) rfl k) ?_
  show Go p e below Φ T11 (mkF m 108 #[.val (.int i0), .val (.int i1), .val (.int i2), .val (.int i3), .val (.int v11), .val (.int v24), .val (.int x31), .val (.ref b3), .val (.int v71), .val (.int x82), .val (.int x93), .val (.ref b10), .unset, .unset, .unset] [])
  obtain ⟨T12, h12, X12, e12, E12, A12, D12, -, st12⟩ := newO X11 hx hZ hown (hw _ (List.mem_of_getElem? (i := 1) rfl)) (hw _ (List.mem_of_getElem? (i := 2) rfl)) (hw _ (List.mem_of_getElem? (i := 3) rfl)) rfl (g := (mkF m 108 #[.val (.int i0), .val (.int i1), .val (.int i2), .val (.int i3), .val (.int v11), .val (.int v24), .val (.int x31), .val (.ref b3), .val (.int v71), .val (.int x82), .val (.int x93), .val (.ref b10), .unset, .unset, .unset] [])) rfl (hb hby at_108) (by decide) (by decide)
  obtain ⟨b12, g12⟩ : ∃ z, z = T11.heap.size := ⟨_, rfl⟩
  rw [← g12] at A12 D12 st12
  have ne_b3_b12 : b3 ≠ b12 := Nat.ne_of_lt (Nat.lt_of_lt_of_le E_b3.lt (Nat.le_of_eq g12.symm))
  have ne_b10_b12 : b10 ≠ b12 := Nat.ne_of_lt (Nat.lt_of_lt_of_le E_b10.lt (Nat.le_of_eq g12.symm))
  have g_b12 : n0 ≤ b12 := Nat.le_trans Z11 (Nat.le_of_eq g12.symm)
  have Z12 := Nat.le_trans Z11 E12.1
  have E_b3 := E_b3.ext E12
  have F_b3_volatility := F_b3_volatility.ext E12
  have F_b3_returnsSets := F_b3_returnsSets.ext E12
  have E_b10 := E_b10.ext E12
  have F_b10_volatility := F_b10_volatility.ext E12
  have F_b10_returnsSets := F_b10_returnsSets.ext E12
  have E_b12 := A12
  have F_b12_volatility : Fld Z h12 b12 "com/example/shelfset/shelfset/Catalog$Function" "volatility" "C" (.int (0 : Int32)) := D12 (Or.inr (hw _ (List.mem_of_getElem? (i := 16) rfl))) (ty := .char) (by decide)
  have F_b12_returnsSets : Fld Z h12 b12 "com/example/shelfset/shelfset/Catalog$Function" "returnsSets" "Z" (.int (0 : Int32)) := D12 (Or.inr (hw _ (List.mem_of_getElem? (i := 18) rfl))) (ty := .boolean) (by decide)
  refine Go.of st12 ?_
  show Go p e below Φ T12 (mkF m 111 #[.val (.int i0), .val (.int i1), .val (.int i2), .val (.int i3), .val (.int v11), .val (.int v24), .val (.int x31), .val (.ref b3), .val (.int v71), .val (.int x82), .val (.int x93), .val (.ref b10), .unset, .unset, .unset] [(.ref b12)])
  refine Go.of (fun t k => XS.dup X12.here hx rfl (hb hby at_111) rfl rfl k) ?_
  show Go p e below Φ T12 (mkF m 112 #[.val (.int i0), .val (.int i1), .val (.int i2), .val (.int i3), .val (.int v11), .val (.int v24), .val (.int x31), .val (.ref b3), .val (.int v71), .val (.int x82), .val (.int x93), .val (.ref b10), .unset, .unset, .unset] [(.ref b12), (.ref b12)])
  refine Go.of (fun t k => XS.iload X12.here hx rfl (hb hby at_112) rfl  k) ?_
  show Go p e below Φ T12 (mkF m 114 #[.val (.int i0), .val (.int i1), .val (.int i2), .val (.int i3), .val (.int v11), .val (.int v24), .val (.int x31), .val (.ref b3), .val (.int v71), .val (.int x82), .val (.int x93), .val (.ref b10), .unset, .unset, .unset] [(.int x93), (.ref b12), (.ref b12)])
  refine Go.of (fun t k => XS.iload X12.here hx rfl (hb hby at_114) rfl  k) ?_
  show Go p e below Φ T12 (mkF m 116 #[.val (.int i0), .val (.int i1), .val (.int i2), .val (.int i3), .val (.int v11), .val (.int v24), .val (.int x31), .val (.ref b3), .val (.int v71), .val (.int x82), .val (.int x93), .val (.ref b10), .unset, .unset, .unset] [(.int v24), (.int x93), (.ref b12), (.ref b12)])
  obtain ⟨_, _, ⟨T13, L13, k13, n13⟩, -, X13, ⟨Lc13, hQ13, l13, y13, z13⟩, st13⟩ := X12.specialBack hx (y := (⟨"com/example/shelfset/shelfset/Catalog$Function", "<init>", "(CZ)V"⟩ : MethodName)) rfl hown (mvT hZ (hw _ (List.mem_of_getElem? (i := 4) rfl))) (mvT hZ (hw _ (List.mem_of_getElem? (i := 5) rfl))) (mvT hZ (hw _ (List.mem_of_getElem? (i := 6) rfl))) (by decide) (backOf (W := 1) (rm1 l Z a0 hw [] b12 x93 v24 (0 : Int32) (0 : Int32) h12 n0 Z12 F_b12_volatility F_b12_returnsSets E_b12 g_b12) hZ (hw _ (List.mem_of_getElem? (i := 6) rfl)) (hw _ (List.mem_of_getElem? (i := 3) rfl)) (by decide) (by decide)) (g := (mkF m 116 #[.val (.int i0), .val (.int i1), .val (.int i2), .val (.int i3), .val (.int v11), .val (.int v24), .val (.int x31), .val (.ref b3), .val (.int v71), .val (.int x82), .val (.int x93), .val (.ref b10), .unset, .unset, .unset] [(.int v24), (.int x93), (.ref b12), (.ref b12)])) rfl (by rw [hml]; rfl) (Steps.refl _) (a := b12) (argsL := [(.int x93), (.int v24)]) (rest := [(.ref b12)]) (lenOf own_pd2 rfl) rfl (by show 2 * 0 + _ ≤ _; exact Nat.le_of_eq rfl) (hb hby at_116) (fun _ _ => ⟨rfl, e12, (by decide : 3 + 0 ≤ _), (by decide : 6 + 0 ≤ _)⟩)
  dsimp only [Pt.U, Pt.locs, Pt.cells, Pt.slots] at X13 l13 y13 z13 st13 hQ13
  subst l13 y13 z13
  obtain ⟨rfl, N13q, K13q, c13_0, c13_1, c13_2⟩ := hQ13
  have N13 := Fr.app N11 N13q
  obtain ⟨lc13, X13, N13⟩ : ∃ lc, Stand p l e room_1 s m #[(.int i0), (.int i1), (.int i2), (.int i3)] below meth c T13 lc 3 6 ∧ Fr n0 lc := ⟨_, X13, N13⟩
  have E_b3 := E_b3.keep K13q
  have F_b3_volatility := F_b3_volatility.keep K13q (ninS ne_b3_b12 nin0)
  have F_b3_returnsSets := F_b3_returnsSets.keep K13q (ninS ne_b3_b12 nin0)
  have E_b10 := E_b10.keep K13q
  have F_b10_volatility := F_b10_volatility.keep K13q (ninS ne_b10_b12 nin0)
  have F_b10_returnsSets := F_b10_returnsSets.keep K13q (ninS ne_b10_b12 nin0)
  have E_b12 := c13_0
  obtain ⟨y13_volatility, hy13_volatility⟩ : ∃ z : Int32, z = (nar .char x93) := ⟨_, rfl⟩
  rw [← hy13_volatility] at c13_1
  have F_b12_volatility := c13_1
  obtain ⟨y13_returnsSets, hy13_returnsSets⟩ : ∃ z : Int32, z = (nar .boolean v24) := ⟨_, rfl⟩
  rw [← hy13_returnsSets] at c13_2
  have F_b12_returnsSets := c13_2
  have Z13 := Nat.le_trans Z12 K13q.1
  refine Go.tr st13 ?_
  show Go p e below Φ T13 (mkF m 119 #[.val (.int i0), .val (.int i1), .val (.int i2), .val (.int i3), .val (.int v11), .val (.int v24), .val (.int x31), .val (.ref b3), .val (.int v71), .val (.int x82), .val (.int x93), .val (.ref b10), .unset, .unset, .unset] [(.ref b12)])
  refine Go.of (fun t k => XS.astore X13.here hx rfl (hb hby at_119) rfl rfl (l' := #[.val (.int i0), .val (.int i1), .val (.int i2), .val (.int i3), .val (.int v11), .val (.int v24), .val (.int x31), .val (.ref b3), .val (.int v71), .val (.int x82), .val (.int x93), .val (.ref b10), .val (.ref b12), .unset, .unset]) rfl k) ?_
  show Go p e below Φ T13 (mkF m 121 #[.val (.int i0), .val (.int i1), .val (.int i2), .val (.int i3), .val (.int v11), .val (.int v24), .val (.int x31), .val (.ref b3), .val (.int v71), .val (.int x82), .val (.int x93), .val (.ref b10), .val (.ref b12), .unset, .unset] [])
  refine Go.of (fun t k => XS.aload X13.here hx rfl (hb hby at_121) rfl rfl  k) ?_
  show Go p e below Φ T13 (mkF m 123 #[.val (.int i0), .val (.int i1), .val (.int i2), .val (.int i3), .val (.int v11), .val (.int v24), .val (.int x31), .val (.ref b3), .val (.int v71), .val (.int x82), .val (.int x93), .val (.ref b10), .val (.ref b12), .unset, .unset] [(.ref b10)])
  obtain ⟨cq14, kq14, q14a, q14b, q14c⟩ := isOf hZ rfl E_b10
  obtain ⟨_, _, ⟨T14, L14, k14, n14⟩, -, X14, ⟨Lc14, hQ14, l14, y14, z14⟩, st14⟩ := X13.virtualBack hx (y := (⟨"com/example/shelfset/shelfset/Catalog$Function", "mayWrite", "()Z"⟩ : MethodName)) (z := (⟨"com/example/shelfset/shelfset/Catalog$Function", "mayWrite", "()Z"⟩ : MethodName)) hown (mvT hZ (hw _ (List.mem_of_getElem? (i := 19) rfl))) (mvT hZ (hw _ (List.mem_of_getElem? (i := 20) rfl))) (notFace_of_selects (args := #[]) (mvT hZ (hw _ (List.mem_of_getElem? (i := 22) rfl)))) (mvT hZ (hw _ (List.mem_of_getElem? (i := 22) rfl))) (mvT hZ (hw _ (List.mem_of_getElem? (i := 21) rfl))) (by decide) (backOf (W := 0) (rm4 l Z a0 hw [] b10 y11_volatility T13.heap n0 Z13 F_b10_volatility) hZ (hw _ (List.mem_of_getElem? (i := 23) rfl)) (hw _ (List.mem_of_getElem? (i := 3) rfl)) (by decide) (by decide)) q14a q14c (g := (mkF m 123 #[.val (.int i0), .val (.int i1), .val (.int i2), .val (.int i3), .val (.int v11), .val (.int v24), .val (.int x31), .val (.ref b3), .val (.int v71), .val (.int x82), .val (.int x93), .val (.ref b10), .val (.ref b12), .unset, .unset] [(.ref b10)])) rfl (by rw [hml]; rfl) (Steps.refl _) (argsL := []) (rest := []) (lenOf own_pd3 rfl) rfl (by show 2 * 0 + _ ≤ _; exact Nat.le_of_eq rfl) (hb hby at_123) (fun _ _ => ⟨rfl, rfl, (by decide : 3 + 0 ≤ _), (by decide : 6 + 0 ≤ _)⟩)
  dsimp only [Pt.U, Pt.locs, Pt.cells, Pt.slots] at X14 l14 y14 z14 st14 hQ14
  subst l14 y14 z14
  obtain ⟨rfl, N14q, e14q⟩ := hQ14
  have N14 := Fr.app N13 N14q
  obtain ⟨lc14, X14, N14⟩ : ∃ lc, Stand p l e room_1 s m #[(.int i0), (.int i1), (.int i2), (.int i3)] below meth c T14 lc 3 6 ∧ Fr n0 lc := ⟨_, X14, N14⟩
  refine Go.tr st14 ?_
  show Go p e below Φ T14 (mkF m 126 #[.val (.int i0), .val (.int i1), .val (.int i2), .val (.int i3), .val (.int v11), .val (.int v24), .val (.int x31), .val (.ref b3), .val (.int v71), .val (.int x82), .val (.int x93), .val (.ref b10), .val (.ref b12), .unset, .unset] [(.int (own_may y11_volatility))])
  obtain ⟨x126, hx126⟩ : ∃ z : Int32, z = (own_may y11_volatility) := ⟨_, rfl⟩
  rw [← hx126]
  refine Go.of (fun t k => XS.istore X14.here hx rfl (hb hby at_126) rfl (l' := #[.val (.int i0), .val (.int i1), .val (.int i2), .val (.int i3), .val (.int v11), .val (.int v24), .val (.int x31), .val (.ref b3), .val (.int v71), .val (.int x82), .val (.int x93), .val (.ref b10), .val (.ref b12), .val (.int x126), .unset]) rfl k) ?_
  show Go p e below Φ T14 (mkF m 128 #[.val (.int i0), .val (.int i1), .val (.int i2), .val (.int i3), .val (.int v11), .val (.int v24), .val (.int x31), .val (.ref b3), .val (.int v71), .val (.int x82), .val (.int x93), .val (.ref b10), .val (.ref b12), .val (.int x126), .unset] [])
  refine Go.of (fun t k => XS.aload X14.here hx rfl (hb hby at_128) rfl rfl  k) ?_
  show Go p e below Φ T14 (mkF m 130 #[.val (.int i0), .val (.int i1), .val (.int i2), .val (.int i3), .val (.int v11), .val (.int v24), .val (.int x31), .val (.ref b3), .val (.int v71), .val (.int x82), .val (.int x93), .val (.ref b10), .val (.ref b12), .val (.int x126), .unset] [(.ref b12)])
  obtain ⟨cq15, kq15, q15a, q15b, q15c⟩ := isOf hZ (e14q) E_b12
  obtain ⟨_, _, ⟨T15, L15, k15, n15⟩, -, X15, ⟨Lc15, hQ15, l15, y15, z15⟩, st15⟩ := X14.virtualBack hx (y := (⟨"com/example/shelfset/shelfset/Catalog$Function", "mayWrite", "()Z"⟩ : MethodName)) (z := (⟨"com/example/shelfset/shelfset/Catalog$Function", "mayWrite", "()Z"⟩ : MethodName)) hown (mvT hZ (hw _ (List.mem_of_getElem? (i := 19) rfl))) (mvT hZ (hw _ (List.mem_of_getElem? (i := 20) rfl))) (notFace_of_selects (args := #[]) (mvT hZ (hw _ (List.mem_of_getElem? (i := 22) rfl)))) (mvT hZ (hw _ (List.mem_of_getElem? (i := 22) rfl))) (mvT hZ (hw _ (List.mem_of_getElem? (i := 21) rfl))) (by decide) (backOf (W := 0) (rm4 l Z a0 hw [] b12 y13_volatility T13.heap n0 Z13 F_b12_volatility) hZ (hw _ (List.mem_of_getElem? (i := 23) rfl)) (hw _ (List.mem_of_getElem? (i := 3) rfl)) (by decide) (by decide)) q15a q15c (g := (mkF m 130 #[.val (.int i0), .val (.int i1), .val (.int i2), .val (.int i3), .val (.int v11), .val (.int v24), .val (.int x31), .val (.ref b3), .val (.int v71), .val (.int x82), .val (.int x93), .val (.ref b10), .val (.ref b12), .val (.int x126), .unset] [(.ref b12)])) rfl (by rw [hml]; rfl) (Steps.refl _) (argsL := []) (rest := []) (lenOf own_pd3 rfl) rfl (by show 2 * 0 + _ ≤ _; exact Nat.le_of_eq rfl) (hb hby at_130) (fun _ _ => ⟨rfl, (e14q), (by decide : 3 + 0 ≤ _), (by decide : 6 + 0 ≤ _)⟩)
  dsimp only [Pt.U, Pt.locs, Pt.cells, Pt.slots] at X15 l15 y15 z15 st15 hQ15
  subst l15 y15 z15
  obtain ⟨rfl, N15q, e15q⟩ := hQ15
  have N15 := Fr.app N14 N15q
  obtain ⟨lc15, X15, N15⟩ : ∃ lc, Stand p l e room_1 s m #[(.int i0), (.int i1), (.int i2), (.int i3)] below meth c T15 lc 3 6 ∧ Fr n0 lc := ⟨_, X15, N15⟩
  refine Go.tr st15 ?_
  show Go p e below Φ T15 (mkF m 133 #[.val (.int i0), .val (.int i1), .val (.int i2), .val (.int i3), .val (.int v11), .val (.int v24), .val (.int x31), .val (.ref b3), .val (.int v71), .val (.int x82), .val (.int x93), .val (.ref b10), .val (.ref b12), .val (.int x126), .unset] [(.int (own_may y13_volatility))])
  obtain ⟨x133, hx133⟩ : ∃ z : Int32, z = (own_may y13_volatility) := ⟨_, rfl⟩
  rw [← hx133]
  refine Go.of (fun t k => XS.istore X15.here hx rfl (hb hby at_133) rfl (l' := #[.val (.int i0), .val (.int i1), .val (.int i2), .val (.int i3), .val (.int v11), .val (.int v24), .val (.int x31), .val (.ref b3), .val (.int v71), .val (.int x82), .val (.int x93), .val (.ref b10), .val (.ref b12), .val (.int x126), .val (.int x133)]) rfl k) ?_
  show Go p e below Φ T15 (mkF m 135 #[.val (.int i0), .val (.int i1), .val (.int i2), .val (.int i3), .val (.int v11), .val (.int v24), .val (.int x31), .val (.ref b3), .val (.int v71), .val (.int x82), .val (.int x93), .val (.ref b10), .val (.ref b12), .val (.int x126), .val (.int x133)] [])
  refine Go.of (fun t k => XS.iload X15.here hx rfl (hb hby at_135) rfl  k) ?_
  show Go p e below Φ T15 (mkF m 137 #[.val (.int i0), .val (.int i1), .val (.int i2), .val (.int i3), .val (.int v11), .val (.int v24), .val (.int x31), .val (.ref b3), .val (.int v71), .val (.int x82), .val (.int x93), .val (.ref b10), .val (.ref b12), .val (.int x126), .val (.int x133)] [(.int v71)])
  suffices j179_16 :  ∀ v179 : Int32, v179 = (if v71 = (0 : Int32) then (0 : Int32) else (if x82 = (118 : Int32) then (if x126 = (1 : Int32) then (if x93 = (118 : Int32) then (if x133 = (1 : Int32) then (1 : Int32) else (0 : Int32)) else (if x133 = (0 : Int32) then (1 : Int32) else (0 : Int32))) else (0 : Int32)) else (if x126 = (0 : Int32) then (if x93 = (118 : Int32) then (if x133 = (1 : Int32) then (1 : Int32) else (0 : Int32)) else (if x133 = (0 : Int32) then (1 : Int32) else (0 : Int32))) else (0 : Int32)))) → Go p e below Φ T15 (mkF m 179 #[.val (.int i0), .val (.int i1), .val (.int i2), .val (.int i3), .val (.int v11), .val (.int v24), .val (.int x31), .val (.ref b3), .val (.int v71), .val (.int x82), .val (.int x93), .val (.ref b10), .val (.ref b12), .val (.int x126), .val (.int x133)] [(.int v179)]) by
    by_cases hc137 : v71 = (0 : Int32)
    · refine Go.of (fun t k => XS.ifYes X15.here hx rfl (pc0 := 137) (pc' := 178) rfl (hb hby at_137) rfl (XT.i0_eq_t hc137) (by decide) (by decide) k) ?_
      show Go p e below Φ T15 (mkF m 178 #[.val (.int i0), .val (.int i1), .val (.int i2), .val (.int i3), .val (.int v11), .val (.int v24), .val (.int x31), .val (.ref b3), .val (.int v71), .val (.int x82), .val (.int x93), .val (.ref b10), .val (.ref b12), .val (.int x126), .val (.int x133)] [])
      refine Go.of (fun t k => XS.iconst X15.here hx rfl (hb hby at_178) k) ?_
      show Go p e below Φ T15 (mkF m 179 #[.val (.int i0), .val (.int i1), .val (.int i2), .val (.int i3), .val (.int v11), .val (.int v24), .val (.int x31), .val (.ref b3), .val (.int v71), .val (.int x82), .val (.int x93), .val (.ref b10), .val (.ref b12), .val (.int x126), .val (.int x133)] [(.int (0 : Int32))])
      exact j179_16 _ (by rw [if_pos hc137])
    · refine Go.of (fun t k => XS.ifNo X15.here hx rfl (hb hby at_137) rfl (XT.i0_eq_f hc137) k) ?_
      show Go p e below Φ T15 (mkF m 140 #[.val (.int i0), .val (.int i1), .val (.int i2), .val (.int i3), .val (.int v11), .val (.int v24), .val (.int x31), .val (.ref b3), .val (.int v71), .val (.int x82), .val (.int x93), .val (.ref b10), .val (.ref b12), .val (.int x126), .val (.int x133)] [])
      refine Go.of (fun t k => XS.iload X15.here hx rfl (hb hby at_140) rfl  k) ?_
      show Go p e below Φ T15 (mkF m 142 #[.val (.int i0), .val (.int i1), .val (.int i2), .val (.int i3), .val (.int v11), .val (.int v24), .val (.int x31), .val (.ref b3), .val (.int v71), .val (.int x82), .val (.int x93), .val (.ref b10), .val (.ref b12), .val (.int x126), .val (.int x133)] [(.int x126)])
      refine Go.of (fun t k => XS.iload X15.here hx rfl (hb hby at_142) rfl  k) ?_
      show Go p e below Φ T15 (mkF m 144 #[.val (.int i0), .val (.int i1), .val (.int i2), .val (.int i3), .val (.int v11), .val (.int v24), .val (.int x31), .val (.ref b3), .val (.int v71), .val (.int x82), .val (.int x93), .val (.ref b10), .val (.ref b12), .val (.int x126), .val (.int x133)] [(.int x82), (.int x126)])
      refine Go.of (fun t k => XS.bipush X15.here hx rfl (hb hby at_144) k) ?_
      show Go p e below Φ T15 (mkF m 146 #[.val (.int i0), .val (.int i1), .val (.int i2), .val (.int i3), .val (.int v11), .val (.int v24), .val (.int x31), .val (.ref b3), .val (.int v71), .val (.int x82), .val (.int x93), .val (.ref b10), .val (.ref b12), .val (.int x126), .val (.int x133)] [(.int (118 : Int32)), (.int x82), (.int x126)])
      by_cases hc146 : x82 = (118 : Int32)
      · refine Go.of (fun t k => XS.icmpNo X15.here hx rfl (hb hby at_146) rfl (XT.ii_ne_f hc146) k) ?_
        show Go p e below Φ T15 (mkF m 149 #[.val (.int i0), .val (.int i1), .val (.int i2), .val (.int i3), .val (.int v11), .val (.int v24), .val (.int x31), .val (.ref b3), .val (.int v71), .val (.int x82), .val (.int x93), .val (.ref b10), .val (.ref b12), .val (.int x126), .val (.int x133)] [(.int x126)])
        refine Go.of (fun t k => XS.iconst X15.here hx rfl (hb hby at_149) k) ?_
        show Go p e below Φ T15 (mkF m 150 #[.val (.int i0), .val (.int i1), .val (.int i2), .val (.int i3), .val (.int v11), .val (.int v24), .val (.int x31), .val (.ref b3), .val (.int v71), .val (.int x82), .val (.int x93), .val (.ref b10), .val (.ref b12), .val (.int x126), .val (.int x133)] [(.int (1 : Int32)), (.int x126)])
        refine Go.of (fun t k => XS.goto X15.here hx rfl (pc0 := 150) (pc' := 154) rfl (hb hby at_150) (by decide) (by decide) k) ?_
        show Go p e below Φ T15 (mkF m 154 #[.val (.int i0), .val (.int i1), .val (.int i2), .val (.int i3), .val (.int v11), .val (.int v24), .val (.int x31), .val (.ref b3), .val (.int v71), .val (.int x82), .val (.int x93), .val (.ref b10), .val (.ref b12), .val (.int x126), .val (.int x133)] [(.int (1 : Int32)), (.int x126)])
        by_cases hc154 : x126 = (1 : Int32)
        · refine Go.of (fun t k => XS.icmpNo X15.here hx rfl (hb hby at_154) rfl (XT.ii_ne_f hc154) k) ?_
          show Go p e below Φ T15 (mkF m 157 #[.val (.int i0), .val (.int i1), .val (.int i2), .val (.int i3), .val (.int v11), .val (.int v24), .val (.int x31), .val (.ref b3), .val (.int v71), .val (.int x82), .val (.int x93), .val (.ref b10), .val (.ref b12), .val (.int x126), .val (.int x133)] [])
          refine Go.of (fun t k => XS.iload X15.here hx rfl (hb hby at_157) rfl  k) ?_
          show Go p e below Φ T15 (mkF m 159 #[.val (.int i0), .val (.int i1), .val (.int i2), .val (.int i3), .val (.int v11), .val (.int v24), .val (.int x31), .val (.ref b3), .val (.int v71), .val (.int x82), .val (.int x93), .val (.ref b10), .val (.ref b12), .val (.int x126), .val (.int x133)] [(.int x133)])
          refine Go.of (fun t k => XS.iload X15.here hx rfl (hb hby at_159) rfl  k) ?_
          show Go p e below Φ T15 (mkF m 161 #[.val (.int i0), .val (.int i1), .val (.int i2), .val (.int i3), .val (.int v11), .val (.int v24), .val (.int x31), .val (.ref b3), .val (.int v71), .val (.int x82), .val (.int x93), .val (.ref b10), .val (.ref b12), .val (.int x126), .val (.int x133)] [(.int x93), (.int x133)])
          refine Go.of (fun t k => XS.bipush X15.here hx rfl (hb hby at_161) k) ?_
          show Go p e below Φ T15 (mkF m 163 #[.val (.int i0), .val (.int i1), .val (.int i2), .val (.int i3), .val (.int v11), .val (.int v24), .val (.int x31), .val (.ref b3), .val (.int v71), .val (.int x82), .val (.int x93), .val (.ref b10), .val (.ref b12), .val (.int x126), .val (.int x133)] [(.int (118 : Int32)), (.int x93), (.int x133)])
          by_cases hc163 : x93 = (118 : Int32)
          · refine Go.of (fun t k => XS.icmpNo X15.here hx rfl (hb hby at_163) rfl (XT.ii_ne_f hc163) k) ?_
            show Go p e below Φ T15 (mkF m 166 #[.val (.int i0), .val (.int i1), .val (.int i2), .val (.int i3), .val (.int v11), .val (.int v24), .val (.int x31), .val (.ref b3), .val (.int v71), .val (.int x82), .val (.int x93), .val (.ref b10), .val (.ref b12), .val (.int x126), .val (.int x133)] [(.int x133)])
            refine Go.of (fun t k => XS.iconst X15.here hx rfl (hb hby at_166) k) ?_
            show Go p e below Φ T15 (mkF m 167 #[.val (.int i0), .val (.int i1), .val (.int i2), .val (.int i3), .val (.int v11), .val (.int v24), .val (.int x31), .val (.ref b3), .val (.int v71), .val (.int x82), .val (.int x93), .val (.ref b10), .val (.ref b12), .val (.int x126), .val (.int x133)] [(.int (1 : Int32)), (.int x133)])
            refine Go.of (fun t k => XS.goto X15.here hx rfl (pc0 := 167) (pc' := 171) rfl (hb hby at_167) (by decide) (by decide) k) ?_
            show Go p e below Φ T15 (mkF m 171 #[.val (.int i0), .val (.int i1), .val (.int i2), .val (.int i3), .val (.int v11), .val (.int v24), .val (.int x31), .val (.ref b3), .val (.int v71), .val (.int x82), .val (.int x93), .val (.ref b10), .val (.ref b12), .val (.int x126), .val (.int x133)] [(.int (1 : Int32)), (.int x133)])
            by_cases hc171 : x133 = (1 : Int32)
            · refine Go.of (fun t k => XS.icmpNo X15.here hx rfl (hb hby at_171) rfl (XT.ii_ne_f hc171) k) ?_
              show Go p e below Φ T15 (mkF m 174 #[.val (.int i0), .val (.int i1), .val (.int i2), .val (.int i3), .val (.int v11), .val (.int v24), .val (.int x31), .val (.ref b3), .val (.int v71), .val (.int x82), .val (.int x93), .val (.ref b10), .val (.ref b12), .val (.int x126), .val (.int x133)] [])
              refine Go.of (fun t k => XS.iconst X15.here hx rfl (hb hby at_174) k) ?_
              show Go p e below Φ T15 (mkF m 175 #[.val (.int i0), .val (.int i1), .val (.int i2), .val (.int i3), .val (.int v11), .val (.int v24), .val (.int x31), .val (.ref b3), .val (.int v71), .val (.int x82), .val (.int x93), .val (.ref b10), .val (.ref b12), .val (.int x126), .val (.int x133)] [(.int (1 : Int32))])
              refine Go.of (fun t k => XS.goto X15.here hx rfl (pc0 := 175) (pc' := 179) rfl (hb hby at_175) (by decide) (by decide) k) ?_
              show Go p e below Φ T15 (mkF m 179 #[.val (.int i0), .val (.int i1), .val (.int i2), .val (.int i3), .val (.int v11), .val (.int v24), .val (.int x31), .val (.ref b3), .val (.int v71), .val (.int x82), .val (.int x93), .val (.ref b10), .val (.ref b12), .val (.int x126), .val (.int x133)] [(.int (1 : Int32))])
              exact j179_16 _ (by rw [if_neg hc137, if_pos hc146, if_pos hc154, if_pos hc163, if_pos hc171])
            · refine Go.of (fun t k => XS.icmpYes X15.here hx rfl (pc0 := 171) (pc' := 178) rfl (hb hby at_171) rfl (XT.ii_ne_t hc171) (by decide) (by decide) k) ?_
              show Go p e below Φ T15 (mkF m 178 #[.val (.int i0), .val (.int i1), .val (.int i2), .val (.int i3), .val (.int v11), .val (.int v24), .val (.int x31), .val (.ref b3), .val (.int v71), .val (.int x82), .val (.int x93), .val (.ref b10), .val (.ref b12), .val (.int x126), .val (.int x133)] [])
              refine Go.of (fun t k => XS.iconst X15.here hx rfl (hb hby at_178) k) ?_
              show Go p e below Φ T15 (mkF m 179 #[.val (.int i0), .val (.int i1), .val (.int i2), .val (.int i3), .val (.int v11), .val (.int v24), .val (.int x31), .val (.ref b3), .val (.int v71), .val (.int x82), .val (.int x93), .val (.ref b10), .val (.ref b12), .val (.int x126), .val (.int x133)] [(.int (0 : Int32))])
              exact j179_16 _ (by rw [if_neg hc137, if_pos hc146, if_pos hc154, if_pos hc163, if_neg hc171])
          · refine Go.of (fun t k => XS.icmpYes X15.here hx rfl (pc0 := 163) (pc' := 170) rfl (hb hby at_163) rfl (XT.ii_ne_t hc163) (by decide) (by decide) k) ?_
            show Go p e below Φ T15 (mkF m 170 #[.val (.int i0), .val (.int i1), .val (.int i2), .val (.int i3), .val (.int v11), .val (.int v24), .val (.int x31), .val (.ref b3), .val (.int v71), .val (.int x82), .val (.int x93), .val (.ref b10), .val (.ref b12), .val (.int x126), .val (.int x133)] [(.int x133)])
            refine Go.of (fun t k => XS.iconst X15.here hx rfl (hb hby at_170) k) ?_
            show Go p e below Φ T15 (mkF m 171 #[.val (.int i0), .val (.int i1), .val (.int i2), .val (.int i3), .val (.int v11), .val (.int v24), .val (.int x31), .val (.ref b3), .val (.int v71), .val (.int x82), .val (.int x93), .val (.ref b10), .val (.ref b12), .val (.int x126), .val (.int x133)] [(.int (0 : Int32)), (.int x133)])
            by_cases hc171 : x133 = (0 : Int32)
            · refine Go.of (fun t k => XS.icmpNo X15.here hx rfl (hb hby at_171) rfl (XT.ii_ne_f hc171) k) ?_
              show Go p e below Φ T15 (mkF m 174 #[.val (.int i0), .val (.int i1), .val (.int i2), .val (.int i3), .val (.int v11), .val (.int v24), .val (.int x31), .val (.ref b3), .val (.int v71), .val (.int x82), .val (.int x93), .val (.ref b10), .val (.ref b12), .val (.int x126), .val (.int x133)] [])
              refine Go.of (fun t k => XS.iconst X15.here hx rfl (hb hby at_174) k) ?_
              show Go p e below Φ T15 (mkF m 175 #[.val (.int i0), .val (.int i1), .val (.int i2), .val (.int i3), .val (.int v11), .val (.int v24), .val (.int x31), .val (.ref b3), .val (.int v71), .val (.int x82), .val (.int x93), .val (.ref b10), .val (.ref b12), .val (.int x126), .val (.int x133)] [(.int (1 : Int32))])
              refine Go.of (fun t k => XS.goto X15.here hx rfl (pc0 := 175) (pc' := 179) rfl (hb hby at_175) (by decide) (by decide) k) ?_
              show Go p e below Φ T15 (mkF m 179 #[.val (.int i0), .val (.int i1), .val (.int i2), .val (.int i3), .val (.int v11), .val (.int v24), .val (.int x31), .val (.ref b3), .val (.int v71), .val (.int x82), .val (.int x93), .val (.ref b10), .val (.ref b12), .val (.int x126), .val (.int x133)] [(.int (1 : Int32))])
              exact j179_16 _ (by rw [if_neg hc137, if_pos hc146, if_pos hc154, if_neg hc163, if_pos hc171])
            · refine Go.of (fun t k => XS.icmpYes X15.here hx rfl (pc0 := 171) (pc' := 178) rfl (hb hby at_171) rfl (XT.ii_ne_t hc171) (by decide) (by decide) k) ?_
              show Go p e below Φ T15 (mkF m 178 #[.val (.int i0), .val (.int i1), .val (.int i2), .val (.int i3), .val (.int v11), .val (.int v24), .val (.int x31), .val (.ref b3), .val (.int v71), .val (.int x82), .val (.int x93), .val (.ref b10), .val (.ref b12), .val (.int x126), .val (.int x133)] [])
              refine Go.of (fun t k => XS.iconst X15.here hx rfl (hb hby at_178) k) ?_
              show Go p e below Φ T15 (mkF m 179 #[.val (.int i0), .val (.int i1), .val (.int i2), .val (.int i3), .val (.int v11), .val (.int v24), .val (.int x31), .val (.ref b3), .val (.int v71), .val (.int x82), .val (.int x93), .val (.ref b10), .val (.ref b12), .val (.int x126), .val (.int x133)] [(.int (0 : Int32))])
              exact j179_16 _ (by rw [if_neg hc137, if_pos hc146, if_pos hc154, if_neg hc163, if_neg hc171])
        · refine Go.of (fun t k => XS.icmpYes X15.here hx rfl (pc0 := 154) (pc' := 178) rfl (hb hby at_154) rfl (XT.ii_ne_t hc154) (by decide) (by decide) k) ?_
          show Go p e below Φ T15 (mkF m 178 #[.val (.int i0), .val (.int i1), .val (.int i2), .val (.int i3), .val (.int v11), .val (.int v24), .val (.int x31), .val (.ref b3), .val (.int v71), .val (.int x82), .val (.int x93), .val (.ref b10), .val (.ref b12), .val (.int x126), .val (.int x133)] [])
          refine Go.of (fun t k => XS.iconst X15.here hx rfl (hb hby at_178) k) ?_
          show Go p e below Φ T15 (mkF m 179 #[.val (.int i0), .val (.int i1), .val (.int i2), .val (.int i3), .val (.int v11), .val (.int v24), .val (.int x31), .val (.ref b3), .val (.int v71), .val (.int x82), .val (.int x93), .val (.ref b10), .val (.ref b12), .val (.int x126), .val (.int x133)] [(.int (0 : Int32))])
          exact j179_16 _ (by rw [if_neg hc137, if_pos hc146, if_neg hc154])
      · refine Go.of (fun t k => XS.icmpYes X15.here hx rfl (pc0 := 146) (pc' := 153) rfl (hb hby at_146) rfl (XT.ii_ne_t hc146) (by decide) (by decide) k) ?_
        show Go p e below Φ T15 (mkF m 153 #[.val (.int i0), .val (.int i1), .val (.int i2), .val (.int i3), .val (.int v11), .val (.int v24), .val (.int x31), .val (.ref b3), .val (.int v71), .val (.int x82), .val (.int x93), .val (.ref b10), .val (.ref b12), .val (.int x126), .val (.int x133)] [(.int x126)])
        refine Go.of (fun t k => XS.iconst X15.here hx rfl (hb hby at_153) k) ?_
        show Go p e below Φ T15 (mkF m 154 #[.val (.int i0), .val (.int i1), .val (.int i2), .val (.int i3), .val (.int v11), .val (.int v24), .val (.int x31), .val (.ref b3), .val (.int v71), .val (.int x82), .val (.int x93), .val (.ref b10), .val (.ref b12), .val (.int x126), .val (.int x133)] [(.int (0 : Int32)), (.int x126)])
        by_cases hc154 : x126 = (0 : Int32)
        · refine Go.of (fun t k => XS.icmpNo X15.here hx rfl (hb hby at_154) rfl (XT.ii_ne_f hc154) k) ?_
          show Go p e below Φ T15 (mkF m 157 #[.val (.int i0), .val (.int i1), .val (.int i2), .val (.int i3), .val (.int v11), .val (.int v24), .val (.int x31), .val (.ref b3), .val (.int v71), .val (.int x82), .val (.int x93), .val (.ref b10), .val (.ref b12), .val (.int x126), .val (.int x133)] [])
          refine Go.of (fun t k => XS.iload X15.here hx rfl (hb hby at_157) rfl  k) ?_
          show Go p e below Φ T15 (mkF m 159 #[.val (.int i0), .val (.int i1), .val (.int i2), .val (.int i3), .val (.int v11), .val (.int v24), .val (.int x31), .val (.ref b3), .val (.int v71), .val (.int x82), .val (.int x93), .val (.ref b10), .val (.ref b12), .val (.int x126), .val (.int x133)] [(.int x133)])
          refine Go.of (fun t k => XS.iload X15.here hx rfl (hb hby at_159) rfl  k) ?_
          show Go p e below Φ T15 (mkF m 161 #[.val (.int i0), .val (.int i1), .val (.int i2), .val (.int i3), .val (.int v11), .val (.int v24), .val (.int x31), .val (.ref b3), .val (.int v71), .val (.int x82), .val (.int x93), .val (.ref b10), .val (.ref b12), .val (.int x126), .val (.int x133)] [(.int x93), (.int x133)])
          refine Go.of (fun t k => XS.bipush X15.here hx rfl (hb hby at_161) k) ?_
          show Go p e below Φ T15 (mkF m 163 #[.val (.int i0), .val (.int i1), .val (.int i2), .val (.int i3), .val (.int v11), .val (.int v24), .val (.int x31), .val (.ref b3), .val (.int v71), .val (.int x82), .val (.int x93), .val (.ref b10), .val (.ref b12), .val (.int x126), .val (.int x133)] [(.int (118 : Int32)), (.int x93), (.int x133)])
          by_cases hc163 : x93 = (118 : Int32)
          · refine Go.of (fun t k => XS.icmpNo X15.here hx rfl (hb hby at_163) rfl (XT.ii_ne_f hc163) k) ?_
            show Go p e below Φ T15 (mkF m 166 #[.val (.int i0), .val (.int i1), .val (.int i2), .val (.int i3), .val (.int v11), .val (.int v24), .val (.int x31), .val (.ref b3), .val (.int v71), .val (.int x82), .val (.int x93), .val (.ref b10), .val (.ref b12), .val (.int x126), .val (.int x133)] [(.int x133)])
            refine Go.of (fun t k => XS.iconst X15.here hx rfl (hb hby at_166) k) ?_
            show Go p e below Φ T15 (mkF m 167 #[.val (.int i0), .val (.int i1), .val (.int i2), .val (.int i3), .val (.int v11), .val (.int v24), .val (.int x31), .val (.ref b3), .val (.int v71), .val (.int x82), .val (.int x93), .val (.ref b10), .val (.ref b12), .val (.int x126), .val (.int x133)] [(.int (1 : Int32)), (.int x133)])
            refine Go.of (fun t k => XS.goto X15.here hx rfl (pc0 := 167) (pc' := 171) rfl (hb hby at_167) (by decide) (by decide) k) ?_
            show Go p e below Φ T15 (mkF m 171 #[.val (.int i0), .val (.int i1), .val (.int i2), .val (.int i3), .val (.int v11), .val (.int v24), .val (.int x31), .val (.ref b3), .val (.int v71), .val (.int x82), .val (.int x93), .val (.ref b10), .val (.ref b12), .val (.int x126), .val (.int x133)] [(.int (1 : Int32)), (.int x133)])
            by_cases hc171 : x133 = (1 : Int32)
            · refine Go.of (fun t k => XS.icmpNo X15.here hx rfl (hb hby at_171) rfl (XT.ii_ne_f hc171) k) ?_
              show Go p e below Φ T15 (mkF m 174 #[.val (.int i0), .val (.int i1), .val (.int i2), .val (.int i3), .val (.int v11), .val (.int v24), .val (.int x31), .val (.ref b3), .val (.int v71), .val (.int x82), .val (.int x93), .val (.ref b10), .val (.ref b12), .val (.int x126), .val (.int x133)] [])
              refine Go.of (fun t k => XS.iconst X15.here hx rfl (hb hby at_174) k) ?_
              show Go p e below Φ T15 (mkF m 175 #[.val (.int i0), .val (.int i1), .val (.int i2), .val (.int i3), .val (.int v11), .val (.int v24), .val (.int x31), .val (.ref b3), .val (.int v71), .val (.int x82), .val (.int x93), .val (.ref b10), .val (.ref b12), .val (.int x126), .val (.int x133)] [(.int (1 : Int32))])
              refine Go.of (fun t k => XS.goto X15.here hx rfl (pc0 := 175) (pc' := 179) rfl (hb hby at_175) (by decide) (by decide) k) ?_
              show Go p e below Φ T15 (mkF m 179 #[.val (.int i0), .val (.int i1), .val (.int i2), .val (.int i3), .val (.int v11), .val (.int v24), .val (.int x31), .val (.ref b3), .val (.int v71), .val (.int x82), .val (.int x93), .val (.ref b10), .val (.ref b12), .val (.int x126), .val (.int x133)] [(.int (1 : Int32))])
              exact j179_16 _ (by rw [if_neg hc137, if_neg hc146, if_pos hc154, if_pos hc163, if_pos hc171])
            · refine Go.of (fun t k => XS.icmpYes X15.here hx rfl (pc0 := 171) (pc' := 178) rfl (hb hby at_171) rfl (XT.ii_ne_t hc171) (by decide) (by decide) k) ?_
              show Go p e below Φ T15 (mkF m 178 #[.val (.int i0), .val (.int i1), .val (.int i2), .val (.int i3), .val (.int v11), .val (.int v24), .val (.int x31), .val (.ref b3), .val (.int v71), .val (.int x82), .val (.int x93), .val (.ref b10), .val (.ref b12), .val (.int x126), .val (.int x133)] [])
              refine Go.of (fun t k => XS.iconst X15.here hx rfl (hb hby at_178) k) ?_
              show Go p e below Φ T15 (mkF m 179 #[.val (.int i0), .val (.int i1), .val (.int i2), .val (.int i3), .val (.int v11), .val (.int v24), .val (.int x31), .val (.ref b3), .val (.int v71), .val (.int x82), .val (.int x93), .val (.ref b10), .val (.ref b12), .val (.int x126), .val (.int x133)] [(.int (0 : Int32))])
              exact j179_16 _ (by rw [if_neg hc137, if_neg hc146, if_pos hc154, if_pos hc163, if_neg hc171])
          · refine Go.of (fun t k => XS.icmpYes X15.here hx rfl (pc0 := 163) (pc' := 170) rfl (hb hby at_163) rfl (XT.ii_ne_t hc163) (by decide) (by decide) k) ?_
            show Go p e below Φ T15 (mkF m 170 #[.val (.int i0), .val (.int i1), .val (.int i2), .val (.int i3), .val (.int v11), .val (.int v24), .val (.int x31), .val (.ref b3), .val (.int v71), .val (.int x82), .val (.int x93), .val (.ref b10), .val (.ref b12), .val (.int x126), .val (.int x133)] [(.int x133)])
            refine Go.of (fun t k => XS.iconst X15.here hx rfl (hb hby at_170) k) ?_
            show Go p e below Φ T15 (mkF m 171 #[.val (.int i0), .val (.int i1), .val (.int i2), .val (.int i3), .val (.int v11), .val (.int v24), .val (.int x31), .val (.ref b3), .val (.int v71), .val (.int x82), .val (.int x93), .val (.ref b10), .val (.ref b12), .val (.int x126), .val (.int x133)] [(.int (0 : Int32)), (.int x133)])
            by_cases hc171 : x133 = (0 : Int32)
            · refine Go.of (fun t k => XS.icmpNo X15.here hx rfl (hb hby at_171) rfl (XT.ii_ne_f hc171) k) ?_
              show Go p e below Φ T15 (mkF m 174 #[.val (.int i0), .val (.int i1), .val (.int i2), .val (.int i3), .val (.int v11), .val (.int v24), .val (.int x31), .val (.ref b3), .val (.int v71), .val (.int x82), .val (.int x93), .val (.ref b10), .val (.ref b12), .val (.int x126), .val (.int x133)] [])
              refine Go.of (fun t k => XS.iconst X15.here hx rfl (hb hby at_174) k) ?_
              show Go p e below Φ T15 (mkF m 175 #[.val (.int i0), .val (.int i1), .val (.int i2), .val (.int i3), .val (.int v11), .val (.int v24), .val (.int x31), .val (.ref b3), .val (.int v71), .val (.int x82), .val (.int x93), .val (.ref b10), .val (.ref b12), .val (.int x126), .val (.int x133)] [(.int (1 : Int32))])
              refine Go.of (fun t k => XS.goto X15.here hx rfl (pc0 := 175) (pc' := 179) rfl (hb hby at_175) (by decide) (by decide) k) ?_
              show Go p e below Φ T15 (mkF m 179 #[.val (.int i0), .val (.int i1), .val (.int i2), .val (.int i3), .val (.int v11), .val (.int v24), .val (.int x31), .val (.ref b3), .val (.int v71), .val (.int x82), .val (.int x93), .val (.ref b10), .val (.ref b12), .val (.int x126), .val (.int x133)] [(.int (1 : Int32))])
              exact j179_16 _ (by rw [if_neg hc137, if_neg hc146, if_pos hc154, if_neg hc163, if_pos hc171])
            · refine Go.of (fun t k => XS.icmpYes X15.here hx rfl (pc0 := 171) (pc' := 178) rfl (hb hby at_171) rfl (XT.ii_ne_t hc171) (by decide) (by decide) k) ?_
              show Go p e below Φ T15 (mkF m 178 #[.val (.int i0), .val (.int i1), .val (.int i2), .val (.int i3), .val (.int v11), .val (.int v24), .val (.int x31), .val (.ref b3), .val (.int v71), .val (.int x82), .val (.int x93), .val (.ref b10), .val (.ref b12), .val (.int x126), .val (.int x133)] [])
              refine Go.of (fun t k => XS.iconst X15.here hx rfl (hb hby at_178) k) ?_
              show Go p e below Φ T15 (mkF m 179 #[.val (.int i0), .val (.int i1), .val (.int i2), .val (.int i3), .val (.int v11), .val (.int v24), .val (.int x31), .val (.ref b3), .val (.int v71), .val (.int x82), .val (.int x93), .val (.ref b10), .val (.ref b12), .val (.int x126), .val (.int x133)] [(.int (0 : Int32))])
              exact j179_16 _ (by rw [if_neg hc137, if_neg hc146, if_pos hc154, if_neg hc163, if_neg hc171])
        · refine Go.of (fun t k => XS.icmpYes X15.here hx rfl (pc0 := 154) (pc' := 178) rfl (hb hby at_154) rfl (XT.ii_ne_t hc154) (by decide) (by decide) k) ?_
          show Go p e below Φ T15 (mkF m 178 #[.val (.int i0), .val (.int i1), .val (.int i2), .val (.int i3), .val (.int v11), .val (.int v24), .val (.int x31), .val (.ref b3), .val (.int v71), .val (.int x82), .val (.int x93), .val (.ref b10), .val (.ref b12), .val (.int x126), .val (.int x133)] [])
          refine Go.of (fun t k => XS.iconst X15.here hx rfl (hb hby at_178) k) ?_
          show Go p e below Φ T15 (mkF m 179 #[.val (.int i0), .val (.int i1), .val (.int i2), .val (.int i3), .val (.int v11), .val (.int v24), .val (.int x31), .val (.ref b3), .val (.int v71), .val (.int x82), .val (.int x93), .val (.ref b10), .val (.ref b12), .val (.int x126), .val (.int x133)] [(.int (0 : Int32))])
          exact j179_16 _ (by rw [if_neg hc137, if_neg hc146, if_neg hc154])
  intro v179 hv179
  show Go p e below Φ T15 (mkF m 179 #[.val (.int i0), .val (.int i1), .val (.int i2), .val (.int i3), .val (.int v11), .val (.int v24), .val (.int x31), .val (.ref b3), .val (.int v71), .val (.int x82), .val (.int x93), .val (.ref b10), .val (.ref b12), .val (.int x126), .val (.int x133)] [(.int v179)])
  refine Go.of (fun t k => XS.istore X15.here hx rfl (hb hby at_179) rfl (l' := #[.val (.int i0), .val (.int i1), .val (.int i2), .val (.int i3), .val (.int v11), .val (.int v24), .val (.int x31), .val (.ref b3), .val (.int v179), .val (.int x82), .val (.int x93), .val (.ref b10), .val (.ref b12), .val (.int x126), .val (.int x133)]) rfl k) ?_
  show Go p e below Φ T15 (mkF m 181 #[.val (.int i0), .val (.int i1), .val (.int i2), .val (.int i3), .val (.int v11), .val (.int v24), .val (.int x31), .val (.ref b3), .val (.int v179), .val (.int x82), .val (.int x93), .val (.ref b10), .val (.ref b12), .val (.int x126), .val (.int x133)] [])
  refine Go.of (fun t k => XS.iload X15.here hx rfl (hb hby at_181) rfl  k) ?_
  show Go p e below Φ T15 (mkF m 183 #[.val (.int i0), .val (.int i1), .val (.int i2), .val (.int i3), .val (.int v11), .val (.int v24), .val (.int x31), .val (.ref b3), .val (.int v179), .val (.int x82), .val (.int x93), .val (.ref b10), .val (.ref b12), .val (.int x126), .val (.int x133)] [(.int v179)])
  refine Go.of (fun t k => XS.ifNo X15.here hx rfl (hb hby at_183) rfl (XT.i0_eq_f (own_at183 i0 i1 i2 i3 v11 hv11 v24 hv24 x31 hx31 y4_volatility hy4_volatility y4_returnsSets hy4_returnsSets v63 hv63 v71 hv71 x82 hx82 x93 hx93 y11_volatility hy11_volatility y11_returnsSets hy11_returnsSets y13_volatility hy13_volatility y13_returnsSets hy13_returnsSets x126 hx126 x133 hx133 v179 hv179 )) k) ?_
  show Go p e below Φ T15 (mkF m 186 #[.val (.int i0), .val (.int i1), .val (.int i2), .val (.int i3), .val (.int v11), .val (.int v24), .val (.int x31), .val (.ref b3), .val (.int v179), .val (.int x82), .val (.int x93), .val (.ref b10), .val (.ref b12), .val (.int x126), .val (.int x133)] [])
  refine Go.of (fun t k => XS.aload X15.here hx rfl (hb hby at_186) rfl rfl  k) ?_
  show Go p e below Φ T15 (mkF m 188 #[.val (.int i0), .val (.int i1), .val (.int i2), .val (.int i3), .val (.int v11), .val (.int v24), .val (.int x31), .val (.ref b3), .val (.int v179), .val (.int x82), .val (.int x93), .val (.ref b10), .val (.ref b12), .val (.int x126), .val (.int x133)] [(.ref b10)])
  refine Go.of (fun t k => XS.aload X15.here hx rfl (hb hby at_188) rfl rfl  k) ?_
  show Go p e below Φ T15 (mkF m 190 #[.val (.int i0), .val (.int i1), .val (.int i2), .val (.int i3), .val (.int v11), .val (.int v24), .val (.int x31), .val (.ref b3), .val (.int v179), .val (.int x82), .val (.int x93), .val (.ref b10), .val (.ref b12), .val (.int x126), .val (.int x133)] [(.ref b12), (.ref b10)])
  obtain ⟨cq17, kq17, q17a, q17b, q17c⟩ := isOf hZ (e15q) E_b10
  obtain ⟨_, _, ⟨T17, L17, k17, n17⟩, -, X17, ⟨Lc17, hQ17, l17, y17, z17⟩, st17⟩ := X15.virtualBack hx (y := (⟨"com/example/shelfset/shelfset/Catalog$Function", "and", "(Lcom/example/shelfset/shelfset/Catalog$Function;)Lcom/example/shelfset/shelfset/Catalog$Function;"⟩ : MethodName)) (z := (⟨"com/example/shelfset/shelfset/Catalog$Function", "and", "(Lcom/example/shelfset/shelfset/Catalog$Function;)Lcom/example/shelfset/shelfset/Catalog$Function;"⟩ : MethodName)) hown (mvT hZ (hw _ (List.mem_of_getElem? (i := 29) rfl))) (mvT hZ (hw _ (List.mem_of_getElem? (i := 30) rfl))) (notFace_of_selects (args := #[]) (mvT hZ (hw _ (List.mem_of_getElem? (i := 32) rfl)))) (mvT hZ (hw _ (List.mem_of_getElem? (i := 32) rfl))) (mvT hZ (hw _ (List.mem_of_getElem? (i := 31) rfl))) (by decide) (backOf (W := 0) (rm6 l Z a0 hw [] b10 b12 y11_volatility y11_returnsSets y13_volatility y13_returnsSets T13.heap n0 Z13 F_b10_volatility F_b10_returnsSets F_b12_volatility F_b12_returnsSets E_b10 E_b12) hZ (hw _ (List.mem_of_getElem? (i := 33) rfl)) (hw _ (List.mem_of_getElem? (i := 3) rfl)) (by decide) (by decide)) q17a q17c (g := (mkF m 190 #[.val (.int i0), .val (.int i1), .val (.int i2), .val (.int i3), .val (.int v11), .val (.int v24), .val (.int x31), .val (.ref b3), .val (.int v179), .val (.int x82), .val (.int x93), .val (.ref b10), .val (.ref b12), .val (.int x126), .val (.int x133)] [(.ref b12), (.ref b10)])) rfl (by rw [hml]; rfl) (Steps.refl _) (argsL := [(.ref b12)]) (rest := []) (lenOf own_pd5 rfl) rfl (by show 2 * 0 + _ ≤ _; exact Nat.le_of_eq rfl) (hb hby at_190) (fun _ _ => ⟨rfl, (e15q), (by decide : 3 + 1 ≤ _), (by decide : 6 + 2 ≤ _)⟩)
  dsimp only [Pt.U, Pt.locs, Pt.cells, Pt.slots] at X17 l17 y17 z17 st17 hQ17
  subst l17 y17 z17
  obtain ⟨b17, rfl, N17q, K17q, s17q, c17_0, c17_1, c17_2⟩ := hQ17
  have N17 := Fr.app N15 N17q
  obtain ⟨lc17, X17, N17⟩ : ∃ lc, Stand p l e room_1 s m #[(.int i0), (.int i1), (.int i2), (.int i3)] below meth c T17 lc 4 8 ∧ Fr n0 lc := ⟨_, X17, N17⟩
  have ne_b3_b17 : b3 ≠ b17 := Nat.ne_of_lt (Nat.lt_of_lt_of_le E_b3.lt s17q)
  have ne_b10_b17 : b10 ≠ b17 := Nat.ne_of_lt (Nat.lt_of_lt_of_le E_b10.lt s17q)
  have ne_b12_b17 : b12 ≠ b17 := Nat.ne_of_lt (Nat.lt_of_lt_of_le E_b12.lt s17q)
  have g_b17 : n0 ≤ b17 := Nat.le_trans Z13 s17q
  have E_b3 := E_b3.keep K17q
  have F_b3_volatility := F_b3_volatility.keep K17q nin0
  have F_b3_returnsSets := F_b3_returnsSets.keep K17q nin0
  have E_b10 := E_b10.keep K17q
  have F_b10_volatility := F_b10_volatility.keep K17q nin0
  have F_b10_returnsSets := F_b10_returnsSets.keep K17q nin0
  have E_b12 := E_b12.keep K17q
  have F_b12_volatility := F_b12_volatility.keep K17q nin0
  have F_b12_returnsSets := F_b12_returnsSets.keep K17q nin0
  have E_b17 := c17_0
  obtain ⟨y17_volatility, hy17_volatility⟩ : ∃ z : Int32, z = (nar .char ((own_max y11_volatility y13_volatility).toUInt32.toUInt16.toUInt32.toInt32)) := ⟨_, rfl⟩
  rw [← hy17_volatility] at c17_1
  have F_b17_volatility := c17_1
  obtain ⟨y17_returnsSets, hy17_returnsSets⟩ : ∃ z : Int32, z = (nar .boolean (if y11_returnsSets = (0 : Int32) then (if y13_returnsSets = (0 : Int32) then (0 : Int32) else (1 : Int32)) else (1 : Int32))) := ⟨_, rfl⟩
  rw [← hy17_returnsSets] at c17_2
  have F_b17_returnsSets := c17_2
  have Z17 := Nat.le_trans Z13 K17q.1
  refine Go.tr st17 ?_
  show Go p e below Φ T17 (mkF m 193 #[.val (.int i0), .val (.int i1), .val (.int i2), .val (.int i3), .val (.int v11), .val (.int v24), .val (.int x31), .val (.ref b3), .val (.int v179), .val (.int x82), .val (.int x93), .val (.ref b10), .val (.ref b12), .val (.int x126), .val (.int x133)] [(.ref b17)])
  obtain ⟨cq18, kq18, q18a, q18b, q18c⟩ := isOf hZ rfl E_b17
  obtain ⟨_, _, ⟨T18, L18, k18, n18⟩, -, X18, ⟨Lc18, hQ18, l18, y18, z18⟩, st18⟩ := X17.virtualBack hx (y := (⟨"com/example/shelfset/shelfset/Catalog$Function", "mayWrite", "()Z"⟩ : MethodName)) (z := (⟨"com/example/shelfset/shelfset/Catalog$Function", "mayWrite", "()Z"⟩ : MethodName)) hown (mvT hZ (hw _ (List.mem_of_getElem? (i := 19) rfl))) (mvT hZ (hw _ (List.mem_of_getElem? (i := 20) rfl))) (notFace_of_selects (args := #[]) (mvT hZ (hw _ (List.mem_of_getElem? (i := 22) rfl)))) (mvT hZ (hw _ (List.mem_of_getElem? (i := 22) rfl))) (mvT hZ (hw _ (List.mem_of_getElem? (i := 21) rfl))) (by decide) (backOf (W := 0) (rm4 l Z a0 hw [] b17 y17_volatility T17.heap n0 Z17 F_b17_volatility) hZ (hw _ (List.mem_of_getElem? (i := 23) rfl)) (hw _ (List.mem_of_getElem? (i := 3) rfl)) (by decide) (by decide)) q18a q18c (g := (mkF m 193 #[.val (.int i0), .val (.int i1), .val (.int i2), .val (.int i3), .val (.int v11), .val (.int v24), .val (.int x31), .val (.ref b3), .val (.int v179), .val (.int x82), .val (.int x93), .val (.ref b10), .val (.ref b12), .val (.int x126), .val (.int x133)] [(.ref b17)])) rfl (by rw [hml]; rfl) (Steps.refl _) (argsL := []) (rest := []) (lenOf own_pd3 rfl) rfl (by show 2 * 0 + _ ≤ _; exact Nat.le_of_eq rfl) (hb hby at_193) (fun _ _ => ⟨rfl, rfl, (by decide : 4 + 0 ≤ _), (by decide : 8 + 0 ≤ _)⟩)
  dsimp only [Pt.U, Pt.locs, Pt.cells, Pt.slots] at X18 l18 y18 z18 st18 hQ18
  subst l18 y18 z18
  obtain ⟨rfl, N18q, e18q⟩ := hQ18
  have N18 := Fr.app N17 N18q
  obtain ⟨lc18, X18, N18⟩ : ∃ lc, Stand p l e room_1 s m #[(.int i0), (.int i1), (.int i2), (.int i3)] below meth c T18 lc 4 8 ∧ Fr n0 lc := ⟨_, X18, N18⟩
  refine Go.tr st18 ?_
  show Go p e below Φ T18 (mkF m 196 #[.val (.int i0), .val (.int i1), .val (.int i2), .val (.int i3), .val (.int v11), .val (.int v24), .val (.int x31), .val (.ref b3), .val (.int v179), .val (.int x82), .val (.int x93), .val (.ref b10), .val (.ref b12), .val (.int x126), .val (.int x133)] [(.int (own_may y17_volatility))])
  refine Go.of (fun t k => XS.iload X18.here hx rfl (hb hby at_196) rfl  k) ?_
  show Go p e below Φ T18 (mkF m 198 #[.val (.int i0), .val (.int i1), .val (.int i2), .val (.int i3), .val (.int v11), .val (.int v24), .val (.int x31), .val (.ref b3), .val (.int v179), .val (.int x82), .val (.int x93), .val (.ref b10), .val (.ref b12), .val (.int x126), .val (.int x133)] [(.int x126), (.int (own_may y17_volatility))])
  suffices j211_19 :  ∀ v211 : Int32, v211 = (if x126 = (0 : Int32) then (if x133 = (0 : Int32) then (0 : Int32) else (1 : Int32)) else (1 : Int32)) → Go p e below Φ T18 (mkF m 211 #[.val (.int i0), .val (.int i1), .val (.int i2), .val (.int i3), .val (.int v11), .val (.int v24), .val (.int x31), .val (.ref b3), .val (.int v179), .val (.int x82), .val (.int x93), .val (.ref b10), .val (.ref b12), .val (.int x126), .val (.int x133)] [(.int v211), (.int (own_may y17_volatility))]) by
    by_cases hc198 : x126 = (0 : Int32)
    · refine Go.of (fun t k => XS.ifNo X18.here hx rfl (hb hby at_198) rfl (XT.i0_ne_f hc198) k) ?_
      show Go p e below Φ T18 (mkF m 201 #[.val (.int i0), .val (.int i1), .val (.int i2), .val (.int i3), .val (.int v11), .val (.int v24), .val (.int x31), .val (.ref b3), .val (.int v179), .val (.int x82), .val (.int x93), .val (.ref b10), .val (.ref b12), .val (.int x126), .val (.int x133)] [(.int (own_may y17_volatility))])
      refine Go.of (fun t k => XS.iload X18.here hx rfl (hb hby at_201) rfl  k) ?_
      show Go p e below Φ T18 (mkF m 203 #[.val (.int i0), .val (.int i1), .val (.int i2), .val (.int i3), .val (.int v11), .val (.int v24), .val (.int x31), .val (.ref b3), .val (.int v179), .val (.int x82), .val (.int x93), .val (.ref b10), .val (.ref b12), .val (.int x126), .val (.int x133)] [(.int x133), (.int (own_may y17_volatility))])
      by_cases hc203 : x133 = (0 : Int32)
      · refine Go.of (fun t k => XS.ifYes X18.here hx rfl (pc0 := 203) (pc' := 210) rfl (hb hby at_203) rfl (XT.i0_eq_t hc203) (by decide) (by decide) k) ?_
        show Go p e below Φ T18 (mkF m 210 #[.val (.int i0), .val (.int i1), .val (.int i2), .val (.int i3), .val (.int v11), .val (.int v24), .val (.int x31), .val (.ref b3), .val (.int v179), .val (.int x82), .val (.int x93), .val (.ref b10), .val (.ref b12), .val (.int x126), .val (.int x133)] [(.int (own_may y17_volatility))])
        refine Go.of (fun t k => XS.iconst X18.here hx rfl (hb hby at_210) k) ?_
        show Go p e below Φ T18 (mkF m 211 #[.val (.int i0), .val (.int i1), .val (.int i2), .val (.int i3), .val (.int v11), .val (.int v24), .val (.int x31), .val (.ref b3), .val (.int v179), .val (.int x82), .val (.int x93), .val (.ref b10), .val (.ref b12), .val (.int x126), .val (.int x133)] [(.int (0 : Int32)), (.int (own_may y17_volatility))])
        exact j211_19 _ (by rw [if_pos hc198, if_pos hc203])
      · refine Go.of (fun t k => XS.ifNo X18.here hx rfl (hb hby at_203) rfl (XT.i0_eq_f hc203) k) ?_
        show Go p e below Φ T18 (mkF m 206 #[.val (.int i0), .val (.int i1), .val (.int i2), .val (.int i3), .val (.int v11), .val (.int v24), .val (.int x31), .val (.ref b3), .val (.int v179), .val (.int x82), .val (.int x93), .val (.ref b10), .val (.ref b12), .val (.int x126), .val (.int x133)] [(.int (own_may y17_volatility))])
        refine Go.of (fun t k => XS.iconst X18.here hx rfl (hb hby at_206) k) ?_
        show Go p e below Φ T18 (mkF m 207 #[.val (.int i0), .val (.int i1), .val (.int i2), .val (.int i3), .val (.int v11), .val (.int v24), .val (.int x31), .val (.ref b3), .val (.int v179), .val (.int x82), .val (.int x93), .val (.ref b10), .val (.ref b12), .val (.int x126), .val (.int x133)] [(.int (1 : Int32)), (.int (own_may y17_volatility))])
        refine Go.of (fun t k => XS.goto X18.here hx rfl (pc0 := 207) (pc' := 211) rfl (hb hby at_207) (by decide) (by decide) k) ?_
        show Go p e below Φ T18 (mkF m 211 #[.val (.int i0), .val (.int i1), .val (.int i2), .val (.int i3), .val (.int v11), .val (.int v24), .val (.int x31), .val (.ref b3), .val (.int v179), .val (.int x82), .val (.int x93), .val (.ref b10), .val (.ref b12), .val (.int x126), .val (.int x133)] [(.int (1 : Int32)), (.int (own_may y17_volatility))])
        exact j211_19 _ (by rw [if_pos hc198, if_neg hc203])
    · refine Go.of (fun t k => XS.ifYes X18.here hx rfl (pc0 := 198) (pc' := 206) rfl (hb hby at_198) rfl (XT.i0_ne_t hc198) (by decide) (by decide) k) ?_
      show Go p e below Φ T18 (mkF m 206 #[.val (.int i0), .val (.int i1), .val (.int i2), .val (.int i3), .val (.int v11), .val (.int v24), .val (.int x31), .val (.ref b3), .val (.int v179), .val (.int x82), .val (.int x93), .val (.ref b10), .val (.ref b12), .val (.int x126), .val (.int x133)] [(.int (own_may y17_volatility))])
      refine Go.of (fun t k => XS.iconst X18.here hx rfl (hb hby at_206) k) ?_
      show Go p e below Φ T18 (mkF m 207 #[.val (.int i0), .val (.int i1), .val (.int i2), .val (.int i3), .val (.int v11), .val (.int v24), .val (.int x31), .val (.ref b3), .val (.int v179), .val (.int x82), .val (.int x93), .val (.ref b10), .val (.ref b12), .val (.int x126), .val (.int x133)] [(.int (1 : Int32)), (.int (own_may y17_volatility))])
      refine Go.of (fun t k => XS.goto X18.here hx rfl (pc0 := 207) (pc' := 211) rfl (hb hby at_207) (by decide) (by decide) k) ?_
      show Go p e below Φ T18 (mkF m 211 #[.val (.int i0), .val (.int i1), .val (.int i2), .val (.int i3), .val (.int v11), .val (.int v24), .val (.int x31), .val (.ref b3), .val (.int v179), .val (.int x82), .val (.int x93), .val (.ref b10), .val (.ref b12), .val (.int x126), .val (.int x133)] [(.int (1 : Int32)), (.int (own_may y17_volatility))])
      exact j211_19 _ (by rw [if_neg hc198])
  intro v211 hv211
  show Go p e below Φ T18 (mkF m 211 #[.val (.int i0), .val (.int i1), .val (.int i2), .val (.int i3), .val (.int v11), .val (.int v24), .val (.int x31), .val (.ref b3), .val (.int v179), .val (.int x82), .val (.int x93), .val (.ref b10), .val (.ref b12), .val (.int x126), .val (.int x133)] [(.int v211), (.int (own_may y17_volatility))])
  suffices j219_20 :  ∀ v219 : Int32, v219 = (if (own_may y17_volatility) = v211 then (1 : Int32) else (0 : Int32)) → Go p e below Φ T18 (mkF m 219 #[.val (.int i0), .val (.int i1), .val (.int i2), .val (.int i3), .val (.int v11), .val (.int v24), .val (.int x31), .val (.ref b3), .val (.int v179), .val (.int x82), .val (.int x93), .val (.ref b10), .val (.ref b12), .val (.int x126), .val (.int x133)] [(.int v219)]) by
    by_cases hc211 : (own_may y17_volatility) = v211
    · refine Go.of (fun t k => XS.icmpNo X18.here hx rfl (hb hby at_211) rfl (XT.ii_ne_f hc211) k) ?_
      show Go p e below Φ T18 (mkF m 214 #[.val (.int i0), .val (.int i1), .val (.int i2), .val (.int i3), .val (.int v11), .val (.int v24), .val (.int x31), .val (.ref b3), .val (.int v179), .val (.int x82), .val (.int x93), .val (.ref b10), .val (.ref b12), .val (.int x126), .val (.int x133)] [])
      refine Go.of (fun t k => XS.iconst X18.here hx rfl (hb hby at_214) k) ?_
      show Go p e below Φ T18 (mkF m 215 #[.val (.int i0), .val (.int i1), .val (.int i2), .val (.int i3), .val (.int v11), .val (.int v24), .val (.int x31), .val (.ref b3), .val (.int v179), .val (.int x82), .val (.int x93), .val (.ref b10), .val (.ref b12), .val (.int x126), .val (.int x133)] [(.int (1 : Int32))])
      refine Go.of (fun t k => XS.goto X18.here hx rfl (pc0 := 215) (pc' := 219) rfl (hb hby at_215) (by decide) (by decide) k) ?_
      show Go p e below Φ T18 (mkF m 219 #[.val (.int i0), .val (.int i1), .val (.int i2), .val (.int i3), .val (.int v11), .val (.int v24), .val (.int x31), .val (.ref b3), .val (.int v179), .val (.int x82), .val (.int x93), .val (.ref b10), .val (.ref b12), .val (.int x126), .val (.int x133)] [(.int (1 : Int32))])
      exact j219_20 _ (by rw [if_pos hc211])
    · refine Go.of (fun t k => XS.icmpYes X18.here hx rfl (pc0 := 211) (pc' := 218) rfl (hb hby at_211) rfl (XT.ii_ne_t hc211) (by decide) (by decide) k) ?_
      show Go p e below Φ T18 (mkF m 218 #[.val (.int i0), .val (.int i1), .val (.int i2), .val (.int i3), .val (.int v11), .val (.int v24), .val (.int x31), .val (.ref b3), .val (.int v179), .val (.int x82), .val (.int x93), .val (.ref b10), .val (.ref b12), .val (.int x126), .val (.int x133)] [])
      refine Go.of (fun t k => XS.iconst X18.here hx rfl (hb hby at_218) k) ?_
      show Go p e below Φ T18 (mkF m 219 #[.val (.int i0), .val (.int i1), .val (.int i2), .val (.int i3), .val (.int v11), .val (.int v24), .val (.int x31), .val (.ref b3), .val (.int v179), .val (.int x82), .val (.int x93), .val (.ref b10), .val (.ref b12), .val (.int x126), .val (.int x133)] [(.int (0 : Int32))])
      exact j219_20 _ (by rw [if_neg hc211])
  intro v219 hv219
  show Go p e below Φ T18 (mkF m 219 #[.val (.int i0), .val (.int i1), .val (.int i2), .val (.int i3), .val (.int v11), .val (.int v24), .val (.int x31), .val (.ref b3), .val (.int v179), .val (.int x82), .val (.int x93), .val (.ref b10), .val (.ref b12), .val (.int x126), .val (.int x133)] [(.int v219)])
  refine Go.of (fun t k => XS.istore X18.here hx rfl (hb hby at_219) rfl (l' := #[.val (.int i0), .val (.int i1), .val (.int i2), .val (.int i3), .val (.int v11), .val (.int v24), .val (.int x31), .val (.ref b3), .val (.int v219), .val (.int x82), .val (.int x93), .val (.ref b10), .val (.ref b12), .val (.int x126), .val (.int x133)]) rfl k) ?_
  show Go p e below Φ T18 (mkF m 221 #[.val (.int i0), .val (.int i1), .val (.int i2), .val (.int i3), .val (.int v11), .val (.int v24), .val (.int x31), .val (.ref b3), .val (.int v219), .val (.int x82), .val (.int x93), .val (.ref b10), .val (.ref b12), .val (.int x126), .val (.int x133)] [])
  refine Go.of (fun t k => XS.iload X18.here hx rfl (hb hby at_221) rfl  k) ?_
  show Go p e below Φ T18 (mkF m 223 #[.val (.int i0), .val (.int i1), .val (.int i2), .val (.int i3), .val (.int v11), .val (.int v24), .val (.int x31), .val (.ref b3), .val (.int v219), .val (.int x82), .val (.int x93), .val (.ref b10), .val (.ref b12), .val (.int x126), .val (.int x133)] [(.int v219)])
  rw [hΦ]
  refine Go.ret X18 hx Bd.notSynchronized Bd.returns (own_one (own_plain i0 i1 i2 i3 v11 hv11 v24 hv24 x31 hx31 y4_volatility hy4_volatility y4_returnsSets hy4_returnsSets v63 hv63 v71 hv71 x82 hx82 x93 hx93 y11_volatility hy11_volatility y11_returnsSets hy11_returnsSets y13_volatility hy13_volatility y13_returnsSets hy13_returnsSets x126 hx126 x133 hx133 v179 hv179 y17_volatility hy17_volatility y17_returnsSets hy17_returnsSets v211 hv211 v219 hv219 )) (Or.inl ⟨rfl, Or.inr (Or.inl rfl), _, rfl⟩) (hb hby at_223) (by decide) (by decide) ?_
  rw [(e18q)]
  exact ⟨congrArg (fun z => some (Value.int z)) (own_plain i0 i1 i2 i3 v11 hv11 v24 hv24 x31 hx31 y4_volatility hy4_volatility y4_returnsSets hy4_returnsSets v63 hv63 v71 hv71 x82 hx82 x93 hx93 y11_volatility hy11_volatility y11_returnsSets hy11_returnsSets y13_volatility hy13_volatility y13_returnsSets hy13_returnsSets x126 hx126 x133 hx133 v179 hv179 y17_volatility hy17_volatility y17_returnsSets hy17_returnsSets v211 hv211 v219 hv219 ), N18⟩
set_option maxRecDepth 65536 in
set_option maxHeartbeats 40000000 in
theorem comes_1 {Post : Tables → Env → Array Value → State → Outcome → State → Prop} (hpost : ∀ tb e args s v u, (limb_1_1.after args s (.returned v) u = true ∧ limb_1_2.after args s (.returned v) u = true ∧ True) → FrameEnd s (.returned v) u (Jvm.fieldLocs frame_1_writes args s ++ Jvm.arrayLocs frame_1_arrays args s ++ Jvm.staticLocs frame_1_statics s) 16 128 → Post tb e args s (.returned v) u) :
    ArmFor flags0 classFile x code maxLocals ret World_1 tables_1 room_1 Calls_1 rest_1 Pre_1 Post := by
  intro l hfl _ _ p e ha hc hk s m args below hf hA hF happ hP
  obtain ⟨hcalls, hrest, hpre⟩ := hP
  obtain ⟨-, -, -, hnamed, -, -, -, hat⟩ := (Spec.applies_iff hf).mp happ
  obtain ⟨hg, hn⟩ := and_e (Cond.before_iff.mp (show (Jvm.Cond.and given_1 narrow_1).before args s = true from hpre))
  obtain ⟨g1, g2⟩ := and_e hg
  obtain ⟨g3, g4⟩ := and_e g2
  obtain ⟨g5, g6⟩ := and_e g4
  obtain ⟨g7, g8⟩ := and_e g6
  obtain ⟨w0, w1, w2, w3, rfl⟩ : ∃ w0 w1 w2 w3 : Value, args = #[w0, w1, w2, w3] := by
    have hs : args.size = 4 := by simpa [Cond.value, given_1] using g1
    obtain ⟨L⟩ := args
    match L, hs with
    | [w0, w1, w2, w3], _ => exact ⟨w0, w1, w2, w3, rfl⟩
  have hw := fun d (hd : d ∈ tables_1) => atoms_spec (ws := Jvm.Cond.code x code maxLocals ret :: tables_1) hat d (List.mem_cons_of_mem _ hd)
  have hfit : Fit s := fun {y c} hc i hi => by
    obtain ⟨ha, rfl⟩ := Array.getElem?_eq_some_iff.mp hc
    have q := List.all_eq_true.mp ((Array.all_eq_true_iff_forall_mem.mp hF) _ (Array.getElem_mem ha)) i (List.mem_range.mpr hi)
    simpa [Array.getElem?_eq_getElem hi] using q
  obtain ⟨i0, ei0⟩ := is_v g3
  obtain rfl : w0 = (.int i0) := Option.some.inj ei0
  obtain ⟨i1, ei1⟩ := is_v g5
  obtain rfl : w1 = (.int i1) := Option.some.inj ei1
  obtain ⟨i2, ei2⟩ := is_v g7
  obtain rfl : w2 = (.int i2) := Option.some.inj ei2
  obtain ⟨i3, ei3⟩ := is_v g8
  obtain rfl : w3 = (.int i3) := Option.some.inj ei3
  obtain ⟨n, o, h1, h2, h3, _, L, rfl, ⟨rfl, N⟩, hq⟩ := rm0 l s _ hw tables_1 i0 i1 i2 i3  s.heap s.heap.size (Nat.le_refl _)  p e ha hc hk s m _ below hf ((Spec.applies_iff_loose hf).mp happ).1 ⟨rfl, State.Warmed39.refl s, rfl⟩ trivial
  refine ⟨n, _, h1, h2, h3, hpost _ _ _ _ _ _ ⟨Cond.after_iff.mpr rfl, Cond.after_iff.mpr (eq_i res_at (Term.int_eval (1)) rfl), trivial⟩ ⟨hq.1, hq.2.1, (hq.2.2.sift fun y hy => Or.inr (N y hy)).mono (by decide) (by decide)⟩⟩
theorem main_1_1 : Claimed_1_1 := comes_1 fun _ _ _ _ _ _ h hF => ⟨h.1, hF⟩
theorem main_1_2 : Claimed_1_2 := comes_1 fun _ _ _ _ _ _ h hF => ⟨h.2.1, hF⟩
end Jvm.Pilot.@@N@@
namespace Jvm.Pilot.@@N@@
open Jvm Jvm.ClassFile Sem Op Lib Jvm.Free Jvm.Stand Jvm.Pilot.@@N@@.Jvm.D
/-! MADE BY PROGRAM (witnessworld.py) out of the Statement's table words and the real class files: 11 classes; the members and pool entries that the words name. The judged class is class 1, her method 2. -/
namespace start1
open Jvm.ClassFile
def u (s : String) : CpInfo := .utf8 (stringToUtf16 s)
/-- a pool by its gaps: so many unusable entries, then the entry; so many at the end -/
def gap : Nat → List CpInfo → List CpInfo
  | 0, r => r
  | n + 1, r => .unusable :: gap n r
def poolList (es : List (Nat × CpInfo)) (last : Nat) : List CpInfo := es.foldr (fun e r => gap e.1 (e.2 :: r)) (gap last [])
def pool (es : List (Nat × CpInfo)) (last : Nat) : Array CpInfo := ⟨poolList es last⟩
def fileOf (pool : Array CpInfo) (this : Nat) (attrs : Array Attribute := #[]) (ms : Array MethodInfo := #[]) (fl : Nat := 33) (sup : Nat := 0) (ifs : Array Nat := #[]) (fds : Array FieldInfo := #[]) : ClassFile where
  minorVersion := 0
  majorVersion := 65
  constantPool := pool
  accessFlags := fl
  thisClass := this
  superClass := sup
  interfaces := ifs
  fields := fds
  methods := ms
  attributes := attrs
def plain (name : String) (sup : Option ClassId) : Class where
  name := name
  kind := .ordinary
  loader := none
  accessFlags := 33
  super := sup
  interfaces := #[]
  cf := none
  fields := #[]
  methods := #[]
  instanceTypes := #[]
  staticTypes := #[]
  resolved := #[]
  callSites := []
  init := .initialized
  statics := none
  mirror := none

def pool0 : Array CpInfo := pool [(5, u "<init>"), (0, u "()V"), (1, .class_ 10), (1, u "java/lang/Object")] 113

def k0c0 : Code := { maxStack := 0, maxLocals := 1, code := object_method_1_code, exceptionTable := #[], attributes := #[] }
def k0m0 : Method := { name := "<init>", desc := "()V", sig := { parameters := [], returnType := none }, accessFlags := 1, code := some k0c0 }
/-- java/lang/Object -/
def k0 : Class := { plain "java/lang/Object" none with
  accessFlags := 33
  interfaces := #[]
  cf := some (fileOf pool0 8 #[] #[{ accessFlags := 1, nameIndex := 5, descriptorIndex := 6, attributes := #[] }] 33 0 #[] #[])
  fields := #[]
  methods := #[k0m0]
  instanceTypes := #[]
  staticTypes := #[]
  resolved := Array.replicate 124 none
  statics := none }

def pool1 : Array CpInfo := pool [(2, .class_ 4), (1, u "java/lang/Object"), (0, u "<init>"), (0, u "()V"), (0, .integer 65535), (0, .class_ 9), (0, u "com/example/shelfset/shelfset/Catalog$Function"), (0, .methodref 8 11), (0, .nameAndType 5 12), (0, u "(CZ)V"), (0, .methodref 8 14), (0, .nameAndType 15 16), (0, u "mayWrite"), (0, u "()Z"), (0, .integer 2147483647), (0, .methodref 19 20), (0, .class_ 21), (0, .nameAndType 22 23), (0, u "com/example/shelfset/shelfset/FunctionMayWritePinLaw"), (0, u "level"), (0, u "(I)C"), (0, .methodref 8 25), (0, .nameAndType 26 27), (0, u "and"), (0, u "(Lcom/example/shelfset/shelfset/Catalog$Function;)Lcom/example/shelfset/shelfset/Catalog$Function;"), (3, u "law"), (0, u "(IIII)Z")] 6

def k1m0 : Method := { name := "<init>", desc := "()V", sig := { parameters := [], returnType := none }, accessFlags := 2, code := none }
def k1c1 : Code := { maxStack := 2, maxLocals := 1, code := method_2_code, exceptionTable := #[], attributes := #[] }
def k1m1 : Method := { name := "level", desc := "(I)C", sig := { parameters := [.int], returnType := some .char }, accessFlags := 10, code := some k1c1 }
def k1c2 : Code := { maxStack := 4, maxLocals := 15, code := code, exceptionTable := #[], attributes := #[] }
def k1m2 : Method := { name := "law", desc := "(IIII)Z", sig := { parameters := [.int, .int, .int, .int], returnType := some .boolean }, accessFlags := 9, code := some k1c2 }
/-- com/example/shelfset/shelfset/FunctionMayWritePinLaw -/
def k1 : Class := { plain "com/example/shelfset/shelfset/FunctionMayWritePinLaw" (some 0) with
  accessFlags := 49
  interfaces := #[]
  cf := some (fileOf pool1 19 #[] #[{ accessFlags := 2, nameIndex := 5, descriptorIndex := 6, attributes := #[] }, { accessFlags := 10, nameIndex := 22, descriptorIndex := 23, attributes := #[] }, { accessFlags := 9, nameIndex := 31, descriptorIndex := 32, attributes := #[] }] 49 2 #[] #[])
  fields := #[]
  methods := #[k1m0, k1m1, k1m2]
  instanceTypes := #[]
  staticTypes := #[]
  resolved := Array.replicate 39 none
  statics := none }

def pool2 : Array CpInfo := pool [(1, .methodref 2 3), (0, .class_ 4), (0, .nameAndType 5 6), (0, u "java/lang/Object"), (0, u "<init>"), (0, u "()V"), (0, .class_ 8), (0, u "java/lang/Record")] 13

def k2c0 : Code := { maxStack := 1, maxLocals := 1, code := jdk_30_method_1_code, exceptionTable := #[], attributes := #[] }
def k2m0 : Method := { name := "<init>", desc := "()V", sig := { parameters := [], returnType := none }, accessFlags := 4, code := some k2c0 }
/-- java/lang/Record -/
def k2 : Class := { plain "java/lang/Record" (some 0) with
  accessFlags := 1057
  interfaces := #[]
  cf := some (fileOf pool2 7 #[] #[{ accessFlags := 4, nameIndex := 5, descriptorIndex := 6, attributes := #[] }] 1057 2 #[] #[])
  fields := #[]
  methods := #[k2m0]
  instanceTypes := #[]
  staticTypes := #[]
  resolved := Array.replicate 22 none
  statics := none }

def pool3 : Array CpInfo := pool [(1, .methodref 2 3), (0, .class_ 4), (0, .nameAndType 5 6), (0, u "java/lang/Record"), (0, u "<init>"), (0, u "()V"), (0, .fieldref 8 9), (0, .class_ 10), (0, .nameAndType 11 12), (0, u "com/example/shelfset/shelfset/Catalog$Function"), (0, u "volatility"), (0, u "C"), (0, .fieldref 8 14), (0, .nameAndType 15 16), (0, u "returnsSets"), (0, u "Z"), (0, .methodref 18 19), (0, .class_ 20), (0, .nameAndType 21 22), (0, u "java/lang/Math"), (0, u "max"), (0, u "(II)I"), (0, .methodref 8 24), (0, .nameAndType 5 25), (0, u "(CZ)V"), (14, u "NONE"), (0, u "Lcom/example/shelfset/shelfset/Catalog$Function;"), (2, u "UNKNOWN"), (0, u "IMMUTABLE"), (2, u "READS_TABLES"), (1, u "STABLE"), (1, u "UNREPEATABLE"), (1, u "VOLATILE"), (4, u "and"), (0, u "(Lcom/example/shelfset/shelfset/Catalog$Function;)Lcom/example/shelfset/shelfset/Catalog$Function;"), (2, u "()Z"), (1, u "mayWrite"), (8, .class_ 75), (0, u "com/example/shelfset/shelfset/Catalog")] 20

def k3c0 : Code := { maxStack := 2, maxLocals := 3, code := prog_27_method_1_code, exceptionTable := #[], attributes := #[] }
def k3m0 : Method := { name := "<init>", desc := "(CZ)V", sig := { parameters := [.char, .boolean], returnType := none }, accessFlags := 0, code := some k3c0 }
def k3c1 : Code := { maxStack := 4, maxLocals := 2, code := prog_27_method_2_code, exceptionTable := #[], attributes := #[] }
def k3m1 : Method := { name := "and", desc := "(Lcom/example/shelfset/shelfset/Catalog$Function;)Lcom/example/shelfset/shelfset/Catalog$Function;", sig := { parameters := [(.object "com/example/shelfset/shelfset/Catalog$Function")], returnType := some (.object "com/example/shelfset/shelfset/Catalog$Function") }, accessFlags := 0, code := some k3c1 }
def k3c2 : Code := { maxStack := 2, maxLocals := 1, code := prog_27_method_5_code, exceptionTable := #[], attributes := #[] }
def k3m2 : Method := { name := "mayWrite", desc := "()Z", sig := { parameters := [], returnType := some .boolean }, accessFlags := 0, code := some k3c2 }
/-- com/example/shelfset/shelfset/Catalog$Function -/
def k3 : Class := { plain "com/example/shelfset/shelfset/Catalog$Function" (some 2) with
  accessFlags := 48
  interfaces := #[]
  cf := some (fileOf pool3 8 #[.nestHost 74] #[{ accessFlags := 0, nameIndex := 5, descriptorIndex := 25, attributes := #[] }, { accessFlags := 0, nameIndex := 59, descriptorIndex := 60, attributes := #[] }, { accessFlags := 0, nameIndex := 65, descriptorIndex := 63, attributes := #[] }] 48 2 #[] #[{ accessFlags := 18, nameIndex := 11, descriptorIndex := 12, attributes := #[] }, { accessFlags := 18, nameIndex := 15, descriptorIndex := 16, attributes := #[] }, { accessFlags := 24, nameIndex := 45, descriptorIndex := 12, attributes := #[] }, { accessFlags := 24, nameIndex := 48, descriptorIndex := 12, attributes := #[] }, { accessFlags := 24, nameIndex := 50, descriptorIndex := 12, attributes := #[] }, { accessFlags := 24, nameIndex := 52, descriptorIndex := 12, attributes := #[] }, { accessFlags := 24, nameIndex := 54, descriptorIndex := 12, attributes := #[] }, { accessFlags := 24, nameIndex := 40, descriptorIndex := 41, attributes := #[] }, { accessFlags := 24, nameIndex := 44, descriptorIndex := 41, attributes := #[] }])
  fields := #[{ name := "volatility", type := .char, accessFlags := 18, slot := 0, constantValue := 0 }, { name := "returnsSets", type := .boolean, accessFlags := 18, slot := 1, constantValue := 0 }, { name := "IMMUTABLE", type := .char, accessFlags := 24, slot := 0, constantValue := 0 }, { name := "READS_TABLES", type := .char, accessFlags := 24, slot := 1, constantValue := 0 }, { name := "STABLE", type := .char, accessFlags := 24, slot := 2, constantValue := 0 }, { name := "UNREPEATABLE", type := .char, accessFlags := 24, slot := 3, constantValue := 0 }, { name := "VOLATILE", type := .char, accessFlags := 24, slot := 4, constantValue := 0 }, { name := "NONE", type := (.object "com/example/shelfset/shelfset/Catalog$Function"), accessFlags := 24, slot := 5, constantValue := 0 }, { name := "UNKNOWN", type := (.object "com/example/shelfset/shelfset/Catalog$Function"), accessFlags := 24, slot := 6, constantValue := 0 }]
  methods := #[k3m0, k3m1, k3m2]
  instanceTypes := #[.char, .boolean]
  staticTypes := #[.char, .char, .char, .char, .char, (.object "com/example/shelfset/shelfset/Catalog$Function"), (.object "com/example/shelfset/shelfset/Catalog$Function")]
  resolved := Array.replicate 96 none
  statics := none }

def pool4 : Array CpInfo := pool [(1, .class_ 2), (0, u "java/lang/Math"), (1, .class_ 6), (1, u "java/lang/Object"), (0, u "<init>"), (0, u "()V"), (89, .class_ 100), (1, u "java/lang/Math$RandomNumberGeneratorHolder"), (71, u "negativeZeroFloatBits"), (0, u "J"), (2, u "negativeZeroDoubleBits"), (21, u "max"), (46, u "$assertionsDisabled"), (0, u "Z"), (88, u "(II)I"), (2, u "twoToTheDoubleScaleDown"), (0, u "D"), (4, u "twoToTheDoubleScaleUp"), (9, u "E"), (3, u "PI"), (2, u "TAU"), (2, u "DEGREES_TO_RADIANS"), (0, u "RADIANS_TO_DEGREES")] 94

def k4m0 : Method := { name := "<init>", desc := "()V", sig := { parameters := [], returnType := none }, accessFlags := 2, code := none }
def k4c1 : Code := { maxStack := 2, maxLocals := 2, code := jdk_29_method_65_code, exceptionTable := #[], attributes := #[] }
def k4m1 : Method := { name := "max", desc := "(II)I", sig := { parameters := [.int, .int], returnType := some .int }, accessFlags := 9, code := some k4c1 }
/-- java/lang/Math -/
def k4 : Class := { plain "java/lang/Math" (some 0) with
  accessFlags := 49
  interfaces := #[]
  cf := some (fileOf pool4 1 #[.nestMembers #[98]] #[{ accessFlags := 2, nameIndex := 7, descriptorIndex := 8, attributes := #[] }, { accessFlags := 9, nameIndex := 198, descriptorIndex := 335, attributes := #[] }] 49 4 #[] #[{ accessFlags := 25, nameIndex := 354, descriptorIndex := 339, attributes := #[] }, { accessFlags := 25, nameIndex := 358, descriptorIndex := 339, attributes := #[] }, { accessFlags := 25, nameIndex := 361, descriptorIndex := 339, attributes := #[] }, { accessFlags := 26, nameIndex := 364, descriptorIndex := 339, attributes := #[] }, { accessFlags := 26, nameIndex := 365, descriptorIndex := 339, attributes := #[] }, { accessFlags := 26, nameIndex := 172, descriptorIndex := 173, attributes := #[] }, { accessFlags := 26, nameIndex := 176, descriptorIndex := 173, attributes := #[] }, { accessFlags := 8, nameIndex := 344, descriptorIndex := 339, attributes := #[] }, { accessFlags := 8, nameIndex := 338, descriptorIndex := 339, attributes := #[] }, { accessFlags := 4120, nameIndex := 245, descriptorIndex := 246, attributes := #[] }])
  fields := #[{ name := "E", type := .double, accessFlags := 25, slot := 0, constantValue := 0 }, { name := "PI", type := .double, accessFlags := 25, slot := 1, constantValue := 0 }, { name := "TAU", type := .double, accessFlags := 25, slot := 2, constantValue := 0 }, { name := "DEGREES_TO_RADIANS", type := .double, accessFlags := 26, slot := 3, constantValue := 0 }, { name := "RADIANS_TO_DEGREES", type := .double, accessFlags := 26, slot := 4, constantValue := 0 }, { name := "negativeZeroFloatBits", type := .long, accessFlags := 26, slot := 5, constantValue := 0 }, { name := "negativeZeroDoubleBits", type := .long, accessFlags := 26, slot := 6, constantValue := 0 }, { name := "twoToTheDoubleScaleUp", type := .double, accessFlags := 8, slot := 7, constantValue := 0 }, { name := "twoToTheDoubleScaleDown", type := .double, accessFlags := 8, slot := 8, constantValue := 0 }, { name := "$assertionsDisabled", type := .boolean, accessFlags := 4120, slot := 9, constantValue := 0 }]
  methods := #[k4m0, k4m1]
  instanceTypes := #[]
  staticTypes := #[.double, .double, .double, .double, .double, .long, .long, .double, .double, .boolean]
  resolved := Array.replicate 460 none
  statics := none }

def pool5 : Array CpInfo := pool [(1, u "java/lang/Cloneable"), (0, .class_ 1), (0, u "java/lang/Object"), (0, .class_ 3)] 3

/-- java/lang/Cloneable -/
def k5 : Class := { plain "java/lang/Cloneable" (some 0) with
  accessFlags := 1537
  interfaces := #[]
  cf := some (fileOf pool5 2 #[] #[] 1537 4 #[] #[])
  fields := #[]
  methods := #[]
  instanceTypes := #[]
  staticTypes := #[]
  resolved := Array.replicate 8 none
  statics := none }

def pool6 : Array CpInfo := pool [(1, u "java/io/Serializable"), (0, .class_ 1), (0, u "java/lang/Object"), (0, .class_ 3)] 3

/-- java/io/Serializable -/
def k6 : Class := { plain "java/io/Serializable" (some 0) with
  accessFlags := 1537
  interfaces := #[]
  cf := some (fileOf pool6 2 #[] #[] 1537 4 #[] #[])
  fields := #[]
  methods := #[]
  instanceTypes := #[]
  staticTypes := #[]
  resolved := Array.replicate 8 none
  statics := none }

/-- the primitive byte -/
def k7 : Class := { plain "byte" none with kind := .primitive 'B', accessFlags := 0x411 }
/-- [B -/
def k8 : Class := { plain "[B" (some 0) with kind := .array 7 .byte, interfaces := #[5, 6], accessFlags := 1041 }

/-- the primitive int -/
def k9 : Class := { plain "int" none with kind := .primitive 'I', accessFlags := 0x411 }
/-- [I -/
def k10 : Class := { plain "[I" (some 0) with kind := .array 9 .int, interfaces := #[5, 6], accessFlags := 1041 }

def heap : Heap := #[]
def classes : Array Class := #[k0, k1, k2, k3, k4, k5, k6, k7, k8, k9, k10]
def interned : List (Array UInt16 × Addr) := []
def slotsUsed : Nat := 0
def theMethod : MethodId := ⟨1, 2⟩
def args0 : Array Value := #[.int 97, .int 1, .int 2, .int 3]
def aboutOver (below : List Frame) : State where
  vm := { classes := classes, interned := interned.toArray }
  heap := heap
  slotsUsed := slotsUsed
  threads := #[{ frames := .invoking theMethod args0 :: below }]
def below0 : List Frame := [.native { method := ⟨0, 0⟩, args := #[] }]
def about1 : State := aboutOver below0
def p0 : Program := .bare "" "" ""
def e0 : Env := launch0.env 0 0 0
theorem w_frames : about1.frames = Frame.invoking theMethod args0 :: below0 := rfl
set_option maxRecDepth 65536 in
theorem w_args : argsFit about1.vm theMethod args0 = true := by decide +kernel
set_option maxRecDepth 65536 in
theorem w_heap : heapFits about1 = true := by decide +kernel
set_option maxRecDepth 65536 in
theorem w_runnable : about1.curStatus? = some .runnable := by decide +kernel
set_option maxRecDepth 65536 in
theorem w_alone : about1.alone = true := by decide +kernel
set_option maxRecDepth 65536 in
theorem w_named : about1.methodNamed? x = some theMethod := by decide +kernel
set_option maxRecDepth 65536 in
theorem w_hears : about1.hears theMethod below0 = true := by decide +kernel
set_option maxRecDepth 65536 in
theorem w_ripe : about1.ripe theMethod args0 below0 = true := by decide +kernel
theorem w_running : about1.status = .running := rfl
set_option maxRecDepth 65536 in
theorem w_room : about1.hasRoom e0.platform room_1 = true :=
  launch0.hasRoom_least _ room_1 (by decide +kernel) (by decide +kernel) (by decide +kernel) (by decide +kernel) (by decide +kernel) (by decide +kernel)
theorem allAtoms_all (ts : List Jvm.Cond) (a : Array Jvm.Value) (st : Jvm.State) : (allAtoms ts).before a st = ts.all (fun c => c.before a st) := by
  induction ts with
  | nil => rfl
  | cons c t ih =>
    show (Jvm.Cond.and c (allAtoms t)).before a st = _
    rw [Jvm.Cond.before_and, ih, List.all_cons]
def words1 : List Jvm.Cond := Jvm.Cond.code x code maxLocals ret :: tables_1
/-- a 'code' word, met by the world's own term for the bytes: nothing is compared byte by byte -/
theorem code_word {y : MethodName} {bytes : ByteArray} {mx : Nat} {rt : Option FieldType} {a : Array Value} {s : State} {m : MethodId} {meth : Method} {c : Code} (h1 : s.methodNamed? y = some m) (h2 : s.vm.method? m = some meth) (h3 : meth.code = some c) (h4 : c.code = bytes)
    (h5 : (c.maxLocals == mx && c.exceptionTable.isEmpty && decide (c.maxStack ≤ mostOperands) && decide (meth.sig.returnType = rt) && !meth.locks && decide (parseMethodDescriptor y.desc = some meth.sig)) = true) : (Jvm.Cond.code y bytes mx rt).before a s = true := by
  simp only [Bool.and_eq_true, beq_iff_eq, Bool.not_eq_true', decide_eq_true_eq] at h5
  obtain ⟨⟨⟨⟨⟨g1, g2⟩, g3⟩, g4⟩, g5⟩, g6⟩ := h5
  simp [Cond.before, Cond.holds, Cond.value, h1, h2, h3, h4, g1, g2, g3, g4, g5, g6]
def isCode : Jvm.Cond → Bool
  | .code _ _ _ _ => true
  | _ => false
theorem all_split {L : List Jvm.Cond} {P : Jvm.Cond → Bool} (h1 : L.all (fun c => isCode c || P c) = true) (h2 : ∀ c ∈ L.filter isCode, P c = true) : L.all P = true := by
  refine List.all_eq_true.mpr fun c hc => ?_
  have h := List.all_eq_true.mp h1 c hc
  rcases Bool.eq_false_or_eq_true (isCode c) with hi | hi
  · exact h2 c (List.mem_filter.mpr ⟨hc, hi⟩)
  · simpa [hi] using h
set_option maxRecDepth 65536 in
theorem w_c0 : (Jvm.Cond.code x code maxLocals ret).before args0 about1 = true := code_word (m := ⟨1, 2⟩) (meth := k1m2) (c := k1c2) (by decide +kernel) rfl rfl rfl (by decide +kernel)
set_option maxRecDepth 65536 in
theorem w_c1 : (Jvm.Cond.code ({ cls := "com/example/shelfset/shelfset/Catalog$Function", name := "<init>", desc := "(CZ)V" } : Jvm.MethodName) prog_27_method_1_code (3 : Nat) (Option.none : Option Jvm.ClassFile.FieldType)).before args0 about1 = true := code_word (m := ⟨3, 0⟩) (meth := k3m0) (c := k3c0) (by decide +kernel) rfl rfl rfl (by decide +kernel)
set_option maxRecDepth 65536 in
theorem w_c2 : (Jvm.Cond.code ({ cls := "java/lang/Record", name := "<init>", desc := "()V" } : Jvm.MethodName) jdk_30_method_1_code (1 : Nat) (Option.none : Option Jvm.ClassFile.FieldType)).before args0 about1 = true := code_word (m := ⟨2, 0⟩) (meth := k2m0) (c := k2c0) (by decide +kernel) rfl rfl rfl (by decide +kernel)
set_option maxRecDepth 65536 in
theorem w_c3 : (Jvm.Cond.code ({ cls := "java/lang/Object", name := "<init>", desc := "()V" } : Jvm.MethodName) object_method_1_code (1 : Nat) (Option.none : Option Jvm.ClassFile.FieldType)).before args0 about1 = true := code_word (m := ⟨0, 0⟩) (meth := k0m0) (c := k0c0) (by decide +kernel) rfl rfl rfl (by decide +kernel)
set_option maxRecDepth 65536 in
theorem w_c4 : (Jvm.Cond.code ({ cls := "com/example/shelfset/shelfset/Catalog$Function", name := "mayWrite", desc := "()Z" } : Jvm.MethodName) prog_27_method_5_code (1 : Nat) (Option.some Jvm.ClassFile.FieldType.boolean)).before args0 about1 = true := code_word (m := ⟨3, 2⟩) (meth := k3m2) (c := k3c2) (by decide +kernel) rfl rfl rfl (by decide +kernel)
set_option maxRecDepth 65536 in
theorem w_c5 : (Jvm.Cond.code ({ cls := "com/example/shelfset/shelfset/FunctionMayWritePinLaw", name := "level", desc := "(I)C" } : Jvm.MethodName) method_2_code (1 : Nat) (Option.some Jvm.ClassFile.FieldType.char)).before args0 about1 = true := code_word (m := ⟨1, 1⟩) (meth := k1m1) (c := k1c1) (by decide +kernel) rfl rfl rfl (by decide +kernel)
set_option maxRecDepth 65536 in
theorem w_c6 : (Jvm.Cond.code ({ cls := "com/example/shelfset/shelfset/Catalog$Function", name := "and", desc := "(Lcom/example/shelfset/shelfset/Catalog$Function;)Lcom/example/shelfset/shelfset/Catalog$Function;" } : Jvm.MethodName) prog_27_method_2_code (2 : Nat) (Option.some (Jvm.ClassFile.FieldType.object "com/example/shelfset/shelfset/Catalog$Function"))).before args0 about1 = true := code_word (m := ⟨3, 1⟩) (meth := k3m1) (c := k3c1) (by decide +kernel) rfl rfl rfl (by decide +kernel)
set_option maxRecDepth 65536 in
theorem w_c7 : (Jvm.Cond.code ({ cls := "java/lang/Math", name := "max", desc := "(II)I" } : Jvm.MethodName) jdk_29_method_65_code (2 : Nat) (Option.some Jvm.ClassFile.FieldType.int)).before args0 about1 = true := code_word (m := ⟨4, 1⟩) (meth := k4m1) (c := k4c1) (by decide +kernel) rfl rfl rfl (by decide +kernel)
def codes1 : List Jvm.Cond := [Jvm.Cond.code x code maxLocals ret, Jvm.Cond.code ({ cls := "com/example/shelfset/shelfset/Catalog$Function", name := "<init>", desc := "(CZ)V" } : Jvm.MethodName) prog_27_method_1_code (3 : Nat) (Option.none : Option Jvm.ClassFile.FieldType), Jvm.Cond.code ({ cls := "java/lang/Record", name := "<init>", desc := "()V" } : Jvm.MethodName) jdk_30_method_1_code (1 : Nat) (Option.none : Option Jvm.ClassFile.FieldType), Jvm.Cond.code ({ cls := "java/lang/Object", name := "<init>", desc := "()V" } : Jvm.MethodName) object_method_1_code (1 : Nat) (Option.none : Option Jvm.ClassFile.FieldType), Jvm.Cond.code ({ cls := "com/example/shelfset/shelfset/Catalog$Function", name := "mayWrite", desc := "()Z" } : Jvm.MethodName) prog_27_method_5_code (1 : Nat) (Option.some Jvm.ClassFile.FieldType.boolean), Jvm.Cond.code ({ cls := "com/example/shelfset/shelfset/FunctionMayWritePinLaw", name := "level", desc := "(I)C" } : Jvm.MethodName) method_2_code (1 : Nat) (Option.some Jvm.ClassFile.FieldType.char), Jvm.Cond.code ({ cls := "com/example/shelfset/shelfset/Catalog$Function", name := "and", desc := "(Lcom/example/shelfset/shelfset/Catalog$Function;)Lcom/example/shelfset/shelfset/Catalog$Function;" } : Jvm.MethodName) prog_27_method_2_code (2 : Nat) (Option.some (Jvm.ClassFile.FieldType.object "com/example/shelfset/shelfset/Catalog$Function")), Jvm.Cond.code ({ cls := "java/lang/Math", name := "max", desc := "(II)I" } : Jvm.MethodName) jdk_29_method_65_code (2 : Nat) (Option.some Jvm.ClassFile.FieldType.int)]
set_option maxRecDepth 65536 in
theorem codes_eq : words1.filter isCode = codes1 := rfl
theorem w_codes : ∀ c ∈ words1.filter isCode, c.before args0 about1 = true := by
  rw [codes_eq]
  intro c hc
  simp only [codes1, List.mem_cons, List.not_mem_nil, or_false] at hc
  rcases hc with rfl | rfl | rfl | rfl | rfl | rfl | rfl | rfl
  · exact w_c0
  · exact w_c1
  · exact w_c2
  · exact w_c3
  · exact w_c4
  · exact w_c5
  · exact w_c6
  · exact w_c7
set_option maxRecDepth 65536 in
theorem w_t1 : (words1.take 24).all (fun c => isCode c || c.before args0 about1) = true := by decide +kernel
set_option maxRecDepth 65536 in
theorem w_t2 : (words1.drop 24).all (fun c => isCode c || c.before args0 about1) = true := by decide +kernel
theorem w_tables : (allAtoms (Jvm.Cond.code x code maxLocals ret :: tables_1)).before args0 about1 = true := by
  rw [allAtoms_all]
  show words1.all (fun c => c.before args0 about1) = true
  refine all_split ?_ w_codes
  rw [← List.take_append_drop 24 words1, List.all_append, w_t1, w_t2]
  rfl
set_option maxRecDepth 65536 in
theorem w_case : (Jvm.Cond.and given_1 narrow_1).before args0 about1 = true := by decide +kernel
theorem w_applies : (headSpec (Jvm.Cond.code x code maxLocals ret :: tables_1) room_1).applies x e0.platform about1 = true :=
  (Spec.applies_iff w_frames).mpr ⟨w_running, w_runnable, w_alone, w_named, w_hears, w_ripe, w_room, w_tables⟩
theorem atStart : AtStart classFile x code maxLocals ret World_1 tables_1 room_1 Calls_1 rest_1 Pre_1 launch0 p0 e0 about1 theMethod args0 below0 :=
  ⟨lists_1, trivial, launch0.admits_env _ _ _, launch0.least_env, fairChoices_fair.cas, fairChoices_fair.clock, w_frames, w_args, w_heap, w_applies, trivial, trivial, w_case⟩
end start1
theorem witness_1 : WitnessClaimed_1 := ⟨start1.p0, start1.e0, start1.about1, start1.theMethod, start1.args0, start1.below0, start1.atStart⟩
end Jvm.Pilot.@@N@@
