import JvmDerived
import JvmDerived.Pilot.@@N@@Statement
import JvmDerived.Pilot.@@N@@Code
set_option linter.unusedVariables false
set_option linter.unusedSimpArgs false
namespace Jvm.Pilot.@@N@@
open Jvm Jvm.ClassFile Sem Op Lib Jvm.Free Jvm.Stand Jvm.LawKit Jvm.RoadKit Bundle Jvm.Pilot.@@N@@.Jvm.D
section Own
variable {p : Program} {l : Launch} {e : Env} {R : Room} {s : State} {m : MethodId} {args : Array Value} {below : List Frame} {meth : Method} {c : Code} {T T' : State} {locs : List Loc} {cells slots : Nat} {Φ : State → Outcome → Prop} {g g' : JFrame}
/-- from (T, g) the run comes to an end that Φ takes -/
def Go (p : Program) (e : Env) (below : List Frame) (Φ : State → Outcome → Prop) (T : State) (g : JFrame) : Prop := ∃ t o, Steps p.tables e below (T.setTop g) t ∧ Φ t o
theorem Go.of (h : ∀ t, Steps p.tables e below (T'.setTop g') t → Steps p.tables e below (T.setTop g) t) (k : Go p e below Φ T' g') : Go p e below Φ T g := by
  obtain ⟨t, o, h1, h2⟩ := k
  exact ⟨t, o, h t h1, h2⟩
theorem Go.tr (h : Steps p.tables e below (T.setTop g) (T'.setTop g')) (k : Go p e below Φ T' g') : Go p e below Φ T g := by
  obtain ⟨t, o, h1, h2⟩ := k
  exact ⟨t, o, h.trans h1, h2⟩
/-- what a body owes at its end -/
def EndQ (s : State) (below : List Frame) (Q : Option Value → Heap → List Loc → Prop) (C S : Nat) (t : State) (o : Outcome) : Prop := t.status = .running ∧ Ended t below o ∧ ∃ v L, o = .returned v ∧ Q v t.heap L ∧ FrameEnd s o t L C S
theorem Go.ret (X : Stand p l e R s m args below meth c T locs cells slots) (hx : p.tables.exec = Jvm.exec) (hlocks : meth.locks = false) {pc : Nat} {Ls : Array Slot} {w : Value} {t : FieldType} {i : Instr} {rest : List Value} (hret : meth.sig.returnType = some t) (hn : narrow t w = w)
    (hi : (i = .ireturn ∧ (t = .int ∨ t = .boolean ∨ t = .byte ∨ t = .char ∨ t = .short) ∧ ∃ z, w = .int z) ∨ (i = .lreturn ∧ t = .long ∧ ∃ z, w = .long z) ∨ (i = .dreturn ∧ t = .double ∧ ∃ z, w = .double z) ∨ (i = .freturn ∧ t = .float ∧ ∃ z, w = .float z) ∨ (i = .areturn ∧ t.isReference = true ∧ w.isRef = true))
    (hd : decode c.code pc = .ok (i, 1)) {Q : Option Value → Heap → List Loc → Prop} {C S : Nat} (hC : cells ≤ C) (hS : slots ≤ S) (hQ : Q (some w) T.heap locs) : Go p e below (EndQ s below Q C S) T (mkF m pc Ls (w :: rest)) := by
  obtain ⟨fs, hr, hrun, hended, hW, hsame⟩ := X.leave (v := some w) (fun h => by rw [hret] at h; cases h) hlocks
  exact ⟨_, _, retOut X hx hret hn hi hd hr, hrun, hended, _, _, rfl, hQ, ⟨_, rfl⟩, hW, hsame.mono hC hS⟩
theorem Go.retV (X : Stand p l e R s m args below meth c T locs cells slots) (hx : p.tables.exec = Jvm.exec) (hlocks : meth.locks = false) {pc : Nat} {Ls : Array Slot} (hret : meth.sig.returnType = none)
    (hd : decode c.code pc = .ok (.return_, 1)) {Q : Option Value → Heap → List Loc → Prop} {C S : Nat} (hC : cells ≤ C) (hS : slots ≤ S) (hQ : Q none T.heap locs) : Go p e below (EndQ s below Q C S) T (mkF m pc Ls []) := by
  obtain ⟨fs, hr, hrun, hended, hW, hsame⟩ := X.leave (v := none) (fun _ => rfl) hlocks
  exact ⟨_, _, X.returnOut hx hret hd hr, hrun, hended, _, _, rfl, hQ, ⟨_, rfl⟩, hW, hsame.mono hC hS⟩
def own_ushr (x y : Int32) : Int32 := (x.toUInt32 >>> (y &&& 31).toUInt32).toInt32
def own_ushrL (x : Int64) (y : Int32) : Int64 := (x.toUInt64 >>> (y &&& 0x3f).toInt64.toUInt64).toInt64
theorem own_one {v : Int32} (h : v = 1) : narrow .boolean (.int v) = .int v := by rw [h]; rfl
theorem own_nar_ref {t : FieldType} {v : Value} (h : v.isRef = true) (ht : t.isReference = true := by rfl) : narrow t v = v := by cases v <;> simp [Value.isRef] at h <;> cases t <;> first | rfl | cases ht
theorem own_fits_ref {t : FieldType} {v : Value} (h : v.isRef = true) (ht : t.isReference = true := by rfl) : fits t v = true := by cases v <;> simp [Value.isRef] at h <;> cases t <;> first | rfl | cases ht
end Own
theorem own_d1_0 : decode prog_27_method_1_code 0 = .ok (.aload_n 0, 1) := by decide +kernel
theorem own_d1_1 : decode prog_27_method_1_code 1 = .ok (.invokespecial 1, 3) := by decide +kernel
theorem own_d1_4 : decode prog_27_method_1_code 4 = .ok (.aload_n 0, 1) := by decide +kernel
theorem own_d1_5 : decode prog_27_method_1_code 5 = .ok (.iload_n 1, 1) := by decide +kernel
theorem own_d1_6 : decode prog_27_method_1_code 6 = .ok (.putfield 7, 3) := by decide +kernel
theorem own_d1_9 : decode prog_27_method_1_code 9 = .ok (.aload_n 0, 1) := by decide +kernel
theorem own_d1_10 : decode prog_27_method_1_code 10 = .ok (.iload_n 2, 1) := by decide +kernel
theorem own_d1_11 : decode prog_27_method_1_code 11 = .ok (.putfield 13, 3) := by decide +kernel
theorem own_d1_14 : decode prog_27_method_1_code 14 = .ok (.return_, 1) := by decide +kernel
theorem own_d2_0 : decode jdk_30_method_1_code 0 = .ok (.aload_n 0, 1) := by decide +kernel
theorem own_d2_1 : decode jdk_30_method_1_code 1 = .ok (.invokespecial 1, 3) := by decide +kernel
theorem own_d2_4 : decode jdk_30_method_1_code 4 = .ok (.return_, 1) := by decide +kernel
theorem own_d4_0 : decode prog_27_method_3_code 0 = .ok (.aload_n 0, 1) := by decide +kernel
theorem own_d4_1 : decode prog_27_method_3_code 1 = .ok (.getfield 7, 3) := by decide +kernel
theorem own_d4_4 : decode prog_27_method_3_code 4 = .ok (.bipush 105, 2) := by decide +kernel
theorem own_d4_6 : decode prog_27_method_3_code 6 = .ok (.if_icmp .ne 7, 3) := by decide +kernel
theorem own_d4_9 : decode prog_27_method_3_code 9 = .ok (.iconst 1, 1) := by decide +kernel
theorem own_d4_10 : decode prog_27_method_3_code 10 = .ok (.goto 4, 3) := by decide +kernel
theorem own_d4_13 : decode prog_27_method_3_code 13 = .ok (.iconst 0, 1) := by decide +kernel
theorem own_d4_14 : decode prog_27_method_3_code 14 = .ok (.ireturn, 1) := by decide +kernel
theorem own_d5_0 : decode prog_27_method_2_code 0 = .ok (.new 8, 3) := by decide +kernel
theorem own_d5_3 : decode prog_27_method_2_code 3 = .ok (.dup, 1) := by decide +kernel
theorem own_d5_4 : decode prog_27_method_2_code 4 = .ok (.aload_n 0, 1) := by decide +kernel
theorem own_d5_5 : decode prog_27_method_2_code 5 = .ok (.getfield 7, 3) := by decide +kernel
theorem own_d5_8 : decode prog_27_method_2_code 8 = .ok (.aload_n 1, 1) := by decide +kernel
theorem own_d5_9 : decode prog_27_method_2_code 9 = .ok (.getfield 7, 3) := by decide +kernel
theorem own_d5_12 : decode prog_27_method_2_code 12 = .ok (.invokestatic 17, 3) := by decide +kernel
theorem own_d5_15 : decode prog_27_method_2_code 15 = .ok (.i2c, 1) := by decide +kernel
theorem own_d5_16 : decode prog_27_method_2_code 16 = .ok (.aload_n 0, 1) := by decide +kernel
theorem own_d5_17 : decode prog_27_method_2_code 17 = .ok (.getfield 13, 3) := by decide +kernel
theorem own_d5_20 : decode prog_27_method_2_code 20 = .ok (.ifCond .ne 10, 3) := by decide +kernel
theorem own_d5_23 : decode prog_27_method_2_code 23 = .ok (.aload_n 1, 1) := by decide +kernel
theorem own_d5_24 : decode prog_27_method_2_code 24 = .ok (.getfield 13, 3) := by decide +kernel
theorem own_d5_27 : decode prog_27_method_2_code 27 = .ok (.ifCond .eq 7, 3) := by decide +kernel
theorem own_d5_30 : decode prog_27_method_2_code 30 = .ok (.iconst 1, 1) := by decide +kernel
theorem own_d5_31 : decode prog_27_method_2_code 31 = .ok (.goto 4, 3) := by decide +kernel
theorem own_d5_34 : decode prog_27_method_2_code 34 = .ok (.iconst 0, 1) := by decide +kernel
theorem own_d5_35 : decode prog_27_method_2_code 35 = .ok (.invokespecial 23, 3) := by decide +kernel
theorem own_d5_38 : decode prog_27_method_2_code 38 = .ok (.areturn, 1) := by decide +kernel
theorem own_d6_0 : decode jdk_29_method_65_code 0 = .ok (.iload_n 0, 1) := by decide +kernel
theorem own_d6_1 : decode jdk_29_method_65_code 1 = .ok (.iload_n 1, 1) := by decide +kernel
theorem own_d6_2 : decode jdk_29_method_65_code 2 = .ok (.if_icmp .lt 7, 3) := by decide +kernel
theorem own_d6_5 : decode jdk_29_method_65_code 5 = .ok (.iload_n 0, 1) := by decide +kernel
theorem own_d6_6 : decode jdk_29_method_65_code 6 = .ok (.goto 4, 3) := by decide +kernel
theorem own_d6_9 : decode jdk_29_method_65_code 9 = .ok (.iload_n 1, 1) := by decide +kernel
theorem own_d6_10 : decode jdk_29_method_65_code 10 = .ok (.ireturn, 1) := by decide +kernel
theorem own_d7_0 : decode prog_27_method_4_code 0 = .ok (.aload_n 0, 1) := by decide +kernel
theorem own_d7_1 : decode prog_27_method_4_code 1 = .ok (.getfield 7, 3) := by decide +kernel
theorem own_d7_4 : decode prog_27_method_4_code 4 = .ok (.bipush 114, 2) := by decide +kernel
theorem own_d7_6 : decode prog_27_method_4_code 6 = .ok (.if_icmp .gt 7, 3) := by decide +kernel
theorem own_d7_9 : decode prog_27_method_4_code 9 = .ok (.iconst 1, 1) := by decide +kernel
theorem own_d7_10 : decode prog_27_method_4_code 10 = .ok (.goto 4, 3) := by decide +kernel
theorem own_d7_13 : decode prog_27_method_4_code 13 = .ok (.iconst 0, 1) := by decide +kernel
theorem own_d7_14 : decode prog_27_method_4_code 14 = .ok (.ireturn, 1) := by decide +kernel
theorem own_d8_0 : decode prog_27_method_5_code 0 = .ok (.aload_n 0, 1) := by decide +kernel
theorem own_d8_1 : decode prog_27_method_5_code 1 = .ok (.getfield 7, 3) := by decide +kernel
theorem own_d8_4 : decode prog_27_method_5_code 4 = .ok (.bipush 118, 2) := by decide +kernel
theorem own_d8_6 : decode prog_27_method_5_code 6 = .ok (.if_icmp .ne 7, 3) := by decide +kernel
theorem own_d8_9 : decode prog_27_method_5_code 9 = .ok (.iconst 1, 1) := by decide +kernel
theorem own_d8_10 : decode prog_27_method_5_code 10 = .ok (.goto 4, 3) := by decide +kernel
theorem own_d8_13 : decode prog_27_method_5_code 13 = .ok (.iconst 0, 1) := by decide +kernel
theorem own_d8_14 : decode prog_27_method_5_code 14 = .ok (.ireturn, 1) := by decide +kernel
theorem own_pn0 : plainName "java/lang/Record" = true := by first | (simp [plainName, overriddenIn]; done) | decide +kernel
theorem own_pn1 : plainName "com/example/shelfset/shelfset/Catalog$Function" = true := by first | (simp [plainName, overriddenIn]; done) | decide +kernel
theorem own_pn2 : plainName "com/example/shelfset/shelfset/CatalogReadsNothingPinLaw" = true := by first | (simp [plainName, overriddenIn]; done) | decide +kernel
theorem own_pd0 : parseMethodDescriptor "()V" = some ⟨[], none⟩ := by decide +kernel
theorem own_pd1 : parseMethodDescriptor "(II)I" = some ⟨[.int, .int], some .int⟩ := by decide +kernel
theorem own_pd2 : parseMethodDescriptor "(CZ)V" = some ⟨[.char, .boolean], none⟩ := by decide +kernel
theorem own_pd3 : parseMethodDescriptor "()Z" = some ⟨[], some .boolean⟩ := by decide +kernel
theorem own_pd4 : parseMethodDescriptor "(Lcom/example/shelfset/shelfset/Catalog$Function;)Lcom/example/shelfset/shelfset/Catalog$Function;" = some ⟨[(.object "com/example/shelfset/shelfset/Catalog$Function")], some (.object "com/example/shelfset/shelfset/Catalog$Function")⟩ := by decide +kernel
theorem own_ef2 (m : MethodId) (a : Addr) : entryFrame m #[(.ref a)] 1 = mkF m 0 #[.val (.ref a)] [] := by first | (simp [entryFrame, mkF, argsToLocals, Value.category]; done) | rfl
def Q2 (Z : State) (a : Addr) (h0 : Heap) (n0 : Nat) (vr : Option Value) (hr : Heap) (Lr : List Loc) : Prop := vr = none ∧ Fr n0 Lr ∧ hr = h0
set_option maxRecDepth 65536 in
set_option maxHeartbeats 40000000 in
theorem rm2 (l : Launch) (Z : State) (a0 : Array Value) (hw : ∀ d ∈ tables_1, d.before a0 Z = true) (ws : List Jvm.Cond) (a : Addr) (h0 : Heap) (n0 : Nat) (Z0 : n0 ≤ h0.size) :
    MetFree l (⟨"java/lang/Record", "<init>", "()V"⟩ : MethodName) (head1 (Jvm.Cond.code (⟨"java/lang/Record", "<init>", "()V"⟩ : MethodName) jdk_30_method_1_code 1 none :: ws) ({ frames := 1, cells := 0, slots := 0, locals := 12 } : Room)) (fun aQ UQ => aQ = #[(.ref a)] ∧ Z.Warmed39 UQ.vm ∧ UQ.heap = h0) (fun _ _ _ _ _ => True) (fun _ UQ oQ VQ => ∃ vQ LQ, oQ = .returned vQ ∧ Q2 Z a h0 n0 vQ VQ.heap LQ ∧ FrameEnd UQ oQ VQ LQ ({ frames := 1, cells := 0, slots := 0, locals := 12 } : Room).cells ({ frames := 1, cells := 0, slots := 0, locals := 12 } : Room).slots) := by
  refine MetFree.of_bodySF (plainFor_of_name own_pn0) hisR ?_
  intro p e s m args below meth c s₁ Bd hml0 hP hK
  obtain ⟨rfl, hZ, hh⟩ := hP
  have hx := Bd.exec
  have hby := Bd.bytes
  have hml : c.maxLocals = 1 := hml0
  have hown : s.vm.findClass "java/lang/Record" = some m.cls := findClass_of_methodNamed Bd.named
  have hnm := (name_of_methodNamed Bd.named Bd.method).1
  have X0 : Stand p l e ({ frames := 1, cells := 0, slots := 0, locals := 12 } : Room) s m #[(.ref a)] below meth c s₁ [] 0 0 := Stand.of_body Bd
  have e0 : s₁.heap = h0 := by rw [← hh, Bd.state]; rfl
  have N0 := Fr.nil n0
  show Go p e below (EndQ s below (Q2 Z a h0 n0) ({ frames := 1, cells := 0, slots := 0, locals := 12 } : Room).cells ({ frames := 1, cells := 0, slots := 0, locals := 12 } : Room).slots) s₁ (entryFrame m #[(.ref a)] 1)
  obtain ⟨Φ, hΦ⟩ : ∃ Φ, Φ = EndQ s below (Q2 Z a h0 n0) ({ frames := 1, cells := 0, slots := 0, locals := 12 } : Room).cells ({ frames := 1, cells := 0, slots := 0, locals := 12 } : Room).slots := ⟨_, rfl⟩
  rw [← hΦ, own_ef2]
  show Go p e below Φ s₁ (mkF m 0 #[.val (.ref a)] [])
  refine Go.of (fun t k => XS.aloadN X0.here hx rfl (hb hby own_d2_0) rfl rfl  k) ?_
  show Go p e below Φ s₁ (mkF m 1 #[.val (.ref a)] [(.ref a)])
  obtain ⟨T1, X1, e1, st1⟩ := initO X0 hx hZ hown (hw _ (List.mem_of_getElem? (i := 13) rfl)) (hw _ (List.mem_of_getElem? (i := 14) rfl)) (hw _ (List.mem_of_getElem? (i := 15) rfl)) e0 (g := (mkF m 1 #[.val (.ref a)] [(.ref a)])) rfl (by rw [hml]; rfl) rfl (hb hby own_d2_1) (by decide) (W := 0) (by show 2 * 0 + _ ≤ _; exact Nat.le_of_eq rfl) (by decide)
  refine Go.of st1 ?_
  show Go p e below Φ T1 (mkF m 4 #[.val (.ref a)] [])
  rw [hΦ]
  refine Go.retV X1 hx Bd.notSynchronized Bd.returns (hb hby own_d2_4) (by decide) (by decide) ?_
  rw [e1]
  exact ⟨rfl, N0, rfl⟩
theorem own_ef1 (m : MethodId) (a : Addr) (cc : Int32) (z : Int32) : entryFrame m #[(.ref a), (.int cc), (.int z)] 3 = mkF m 0 #[.val (.ref a), .val (.int cc), .val (.int z)] [] := by first | (simp [entryFrame, mkF, argsToLocals, Value.category]; done) | rfl
def Q1 (Z : State) (a : Addr) (cc : Int32) (z : Int32) (w1 : Int32) (w2 : Int32) (h0 : Heap) (n0 : Nat) (vr : Option Value) (hr : Heap) (Lr : List Loc) : Prop := vr = none ∧ Fr n0 Lr ∧ Keep h0 hr [a] ∧ Exa Z hr a "com/example/shelfset/shelfset/Catalog$Function" ∧ Fld Z hr a "com/example/shelfset/shelfset/Catalog$Function" "volatility" "C" (.int (nar .char cc)) ∧ Fld Z hr a "com/example/shelfset/shelfset/Catalog$Function" "returnsSets" "Z" (.int (nar .boolean z))
set_option maxRecDepth 65536 in
set_option maxHeartbeats 40000000 in
theorem rm1 (l : Launch) (Z : State) (a0 : Array Value) (hw : ∀ d ∈ tables_1, d.before a0 Z = true) (ws : List Jvm.Cond) (a : Addr) (cc : Int32) (z : Int32) (w1 : Int32) (w2 : Int32) (h0 : Heap) (n0 : Nat) (Z0 : n0 ≤ h0.size) (F_a_volatility : Fld Z h0 a "com/example/shelfset/shelfset/Catalog$Function" "volatility" "C" (.int w1)) (F_a_returnsSets : Fld Z h0 a "com/example/shelfset/shelfset/Catalog$Function" "returnsSets" "Z" (.int w2)) (E_a : Exa Z h0 a "com/example/shelfset/shelfset/Catalog$Function") (g_a : n0 ≤ a) :
    MetFree l (⟨"com/example/shelfset/shelfset/Catalog$Function", "<init>", "(CZ)V"⟩ : MethodName) (head1 (Jvm.Cond.code (⟨"com/example/shelfset/shelfset/Catalog$Function", "<init>", "(CZ)V"⟩ : MethodName) prog_27_method_1_code 3 none :: ws) ({ frames := 2, cells := 0, slots := 0, locals := 24 } : Room)) (fun aQ UQ => aQ = #[(.ref a), (.int cc), (.int z)] ∧ Z.Warmed39 UQ.vm ∧ UQ.heap = h0) (fun _ _ _ _ _ => True) (fun _ UQ oQ VQ => ∃ vQ LQ, oQ = .returned vQ ∧ Q1 Z a cc z w1 w2 h0 n0 vQ VQ.heap LQ ∧ FrameEnd UQ oQ VQ LQ ({ frames := 2, cells := 0, slots := 0, locals := 24 } : Room).cells ({ frames := 2, cells := 0, slots := 0, locals := 24 } : Room).slots) := by
  refine MetFree.of_bodySF (plainFor_of_name own_pn1) hisR ?_
  intro p e s m args below meth c s₁ Bd hml0 hP hK
  obtain ⟨rfl, hZ, hh⟩ := hP
  have hx := Bd.exec
  have hby := Bd.bytes
  have hml : c.maxLocals = 3 := hml0
  have hown : s.vm.findClass "com/example/shelfset/shelfset/Catalog$Function" = some m.cls := findClass_of_methodNamed Bd.named
  have hnm := (name_of_methodNamed Bd.named Bd.method).1
  have X0 : Stand p l e ({ frames := 2, cells := 0, slots := 0, locals := 24 } : Room) s m #[(.ref a), (.int cc), (.int z)] below meth c s₁ [] 0 0 := Stand.of_body Bd
  have e0 : s₁.heap = h0 := by rw [← hh, Bd.state]; rfl
  have N0 := Fr.nil n0
  show Go p e below (EndQ s below (Q1 Z a cc z w1 w2 h0 n0) ({ frames := 2, cells := 0, slots := 0, locals := 24 } : Room).cells ({ frames := 2, cells := 0, slots := 0, locals := 24 } : Room).slots) s₁ (entryFrame m #[(.ref a), (.int cc), (.int z)] 3)
  obtain ⟨Φ, hΦ⟩ : ∃ Φ, Φ = EndQ s below (Q1 Z a cc z w1 w2 h0 n0) ({ frames := 2, cells := 0, slots := 0, locals := 24 } : Room).cells ({ frames := 2, cells := 0, slots := 0, locals := 24 } : Room).slots := ⟨_, rfl⟩
  rw [← hΦ, own_ef1]
  show Go p e below Φ s₁ (mkF m 0 #[.val (.ref a), .val (.int cc), .val (.int z)] [])
  refine Go.of (fun t k => XS.aloadN X0.here hx rfl (hb hby own_d1_0) rfl rfl  k) ?_
  show Go p e below Φ s₁ (mkF m 1 #[.val (.ref a), .val (.int cc), .val (.int z)] [(.ref a)])
  obtain ⟨_, _, ⟨T1, L1, k1, n1⟩, -, X1, ⟨Lc1, hQ1, l1, y1, z1⟩, st1⟩ := X0.specialBack hx (y := (⟨"java/lang/Record", "<init>", "()V"⟩ : MethodName)) rfl hown (mvT hZ (hw _ (List.mem_of_getElem? (i := 8) rfl))) (mvT hZ (hw _ (List.mem_of_getElem? (i := 9) rfl))) (mvT hZ (hw _ (List.mem_of_getElem? (i := 12) rfl))) (by decide) (backOf (W := 0) (rm2 l Z a0 hw [] a h0 n0 Z0 ) hZ (hw _ (List.mem_of_getElem? (i := 12) rfl)) (hw _ (List.mem_of_getElem? (i := 11) rfl)) (by decide) (by decide)) (g := (mkF m 1 #[.val (.ref a), .val (.int cc), .val (.int z)] [(.ref a)])) rfl (by rw [hml]; rfl) (Steps.refl _) (a := a) (argsL := []) (rest := []) (lenOf own_pd0 rfl) rfl (by show 2 * 0 + _ ≤ _; exact Nat.le_of_eq rfl) (hb hby own_d1_1) (fun _ _ => ⟨rfl, e0, (by decide : 0 + 0 ≤ _), (by decide : 0 + 0 ≤ _)⟩)
  dsimp only [Pt.U, Pt.locs, Pt.cells, Pt.slots] at X1 l1 y1 z1 st1 hQ1
  subst l1 y1 z1
  obtain ⟨rfl, N1q, e1q⟩ := hQ1
  have N1 := Fr.app N0 N1q
  obtain ⟨lc1, X1, N1⟩ : ∃ lc, Stand p l e ({ frames := 2, cells := 0, slots := 0, locals := 24 } : Room) s m #[(.ref a), (.int cc), (.int z)] below meth c T1 lc 0 0 ∧ Fr n0 lc := ⟨_, X1, N1⟩
  refine Go.tr st1 ?_
  show Go p e below Φ T1 (mkF m 4 #[.val (.ref a), .val (.int cc), .val (.int z)] [])
  refine Go.of (fun t k => XS.aloadN X1.here hx rfl (hb hby own_d1_4) rfl rfl  k) ?_
  show Go p e below Φ T1 (mkF m 5 #[.val (.ref a), .val (.int cc), .val (.int z)] [(.ref a)])
  refine Go.of (fun t k => XS.iloadN X1.here hx rfl (hb hby own_d1_5) rfl  k) ?_
  show Go p e below Φ T1 (mkF m 6 #[.val (.ref a), .val (.int cc), .val (.int z)] [(.int cc), (.ref a)])
  obtain ⟨T2, h2, X2, e2, W2, st2⟩ := putFN X1 hx hZ hown (hw _ (List.mem_of_getElem? (i := 16) rfl)) Via.refl (e1q) F_a_volatility E_a (Or.inr ⟨(hw _ (List.mem_of_getElem? (i := 17) rfl)), rfl, hnm⟩) (hw _ (List.mem_of_getElem? (i := 3) rfl)) (ty := .char) (v' := (.int (nar .char cc))) (by decide) rfl (fits_nar_char _) (g := (mkF m 6 #[.val (.ref a), .val (.int cc), .val (.int z)] [(.int cc), (.ref a)])) rfl rfl (hb hby own_d1_6)
  have N2 := Fr.snoc X2 N1 g_a
  have F_a_volatility := F_a_volatility.same W2
  have F_a_returnsSets := F_a_returnsSets.other W2 (Or.inr (slot_ne (Or.inr (hw _ (List.mem_of_getElem? (i := 19) rfl))) (Or.inr (hw _ (List.mem_of_getElem? (i := 17) rfl))) (by decide) (t := .boolean) (t' := .char) (by decide) (by decide)))
  have E_a := E_a.wr W2
  have K2 : Keep h0 h2 [a] := (Keep.refl h0 [a]).wr W2 (Or.inl (List.mem_of_getElem? (i := 0) rfl))
  have Z2 := Nat.le_trans Z0 (Keep.of_wr W2).1
  obtain ⟨lc2, X2, N2⟩ : ∃ lc, Stand p l e ({ frames := 2, cells := 0, slots := 0, locals := 24 } : Room) s m #[(.ref a), (.int cc), (.int z)] below meth c T2 lc 0 0 ∧ Fr n0 lc := ⟨_, X2, N2⟩
  refine Go.of st2 ?_
  show Go p e below Φ T2 (mkF m 9 #[.val (.ref a), .val (.int cc), .val (.int z)] [])
  refine Go.of (fun t k => XS.aloadN X2.here hx rfl (hb hby own_d1_9) rfl rfl  k) ?_
  show Go p e below Φ T2 (mkF m 10 #[.val (.ref a), .val (.int cc), .val (.int z)] [(.ref a)])
  refine Go.of (fun t k => XS.iloadN X2.here hx rfl (hb hby own_d1_10) rfl  k) ?_
  show Go p e below Φ T2 (mkF m 11 #[.val (.ref a), .val (.int cc), .val (.int z)] [(.int z), (.ref a)])
  obtain ⟨T3, h3, X3, e3, W3, st3⟩ := putFN X2 hx hZ hown (hw _ (List.mem_of_getElem? (i := 18) rfl)) Via.refl e2 F_a_returnsSets E_a (Or.inr ⟨(hw _ (List.mem_of_getElem? (i := 19) rfl)), rfl, hnm⟩) (hw _ (List.mem_of_getElem? (i := 3) rfl)) (ty := .boolean) (v' := (.int (nar .boolean z))) (by decide) rfl (fits_nar_bool _) (g := (mkF m 11 #[.val (.ref a), .val (.int cc), .val (.int z)] [(.int z), (.ref a)])) rfl rfl (hb hby own_d1_11)
  have N3 := Fr.snoc X3 N2 g_a
  have F_a_returnsSets := F_a_returnsSets.same W3
  have F_a_volatility := F_a_volatility.other W3 (Or.inr (slot_ne (Or.inr (hw _ (List.mem_of_getElem? (i := 17) rfl))) (Or.inr (hw _ (List.mem_of_getElem? (i := 19) rfl))) (by decide) (t := .char) (t' := .boolean) (by decide) (by decide)))
  have E_a := E_a.wr W3
  have K3 : Keep h0 h3 [a] := K2.wr W3 (Or.inl (List.mem_of_getElem? (i := 0) rfl))
  have Z3 := Nat.le_trans Z2 (Keep.of_wr W3).1
  obtain ⟨lc3, X3, N3⟩ : ∃ lc, Stand p l e ({ frames := 2, cells := 0, slots := 0, locals := 24 } : Room) s m #[(.ref a), (.int cc), (.int z)] below meth c T3 lc 0 0 ∧ Fr n0 lc := ⟨_, X3, N3⟩
  refine Go.of st3 ?_
  show Go p e below Φ T3 (mkF m 14 #[.val (.ref a), .val (.int cc), .val (.int z)] [])
  rw [hΦ]
  refine Go.retV X3 hx Bd.notSynchronized Bd.returns (hb hby own_d1_14) (by decide) (by decide) ?_
  rw [e3]
  exact ⟨rfl, N3, K3, E_a, F_a_volatility, F_a_returnsSets⟩
def own_reads (w : Int32) : Int32 := (if w = (105 : Int32) then (1 : Int32) else (0 : Int32))
theorem own_ef4 (m : MethodId) (a : Addr) : entryFrame m #[(.ref a)] 1 = mkF m 0 #[.val (.ref a)] [] := by first | (simp [entryFrame, mkF, argsToLocals, Value.category]; done) | rfl
def Q4 (Z : State) (a : Addr) (w : Int32) (h0 : Heap) (n0 : Nat) (vr : Option Value) (hr : Heap) (Lr : List Loc) : Prop := vr = some (.int (own_reads w)) ∧ Fr n0 Lr ∧ hr = h0
set_option maxRecDepth 65536 in
set_option maxHeartbeats 40000000 in
theorem rm4 (l : Launch) (Z : State) (a0 : Array Value) (hw : ∀ d ∈ tables_1, d.before a0 Z = true) (ws : List Jvm.Cond) (a : Addr) (w : Int32) (h0 : Heap) (n0 : Nat) (Z0 : n0 ≤ h0.size) (F_a_volatility : Fld Z h0 a "com/example/shelfset/shelfset/Catalog$Function" "volatility" "C" (.int w)) :
    MetFree l (⟨"com/example/shelfset/shelfset/Catalog$Function", "readsNothing", "()Z"⟩ : MethodName) (head1 (Jvm.Cond.code (⟨"com/example/shelfset/shelfset/Catalog$Function", "readsNothing", "()Z"⟩ : MethodName) prog_27_method_3_code 1 (some .boolean) :: ws) ({ frames := 0, cells := 0, slots := 0, locals := 0 } : Room)) (fun aQ UQ => aQ = #[(.ref a)] ∧ Z.Warmed39 UQ.vm ∧ UQ.heap = h0) (fun _ _ _ _ _ => True) (fun _ UQ oQ VQ => ∃ vQ LQ, oQ = .returned vQ ∧ Q4 Z a w h0 n0 vQ VQ.heap LQ ∧ FrameEnd UQ oQ VQ LQ ({ frames := 0, cells := 0, slots := 0, locals := 0 } : Room).cells ({ frames := 0, cells := 0, slots := 0, locals := 0 } : Room).slots) := by
  refine MetFree.of_bodySF (plainFor_of_name own_pn1) hisR ?_
  intro p e s m args below meth c s₁ Bd hml0 hP hK
  obtain ⟨rfl, hZ, hh⟩ := hP
  have hx := Bd.exec
  have hby := Bd.bytes
  have hml : c.maxLocals = 1 := hml0
  have hown : s.vm.findClass "com/example/shelfset/shelfset/Catalog$Function" = some m.cls := findClass_of_methodNamed Bd.named
  have hnm := (name_of_methodNamed Bd.named Bd.method).1
  have X0 : Stand p l e ({ frames := 0, cells := 0, slots := 0, locals := 0 } : Room) s m #[(.ref a)] below meth c s₁ [] 0 0 := Stand.of_body Bd
  have e0 : s₁.heap = h0 := by rw [← hh, Bd.state]; rfl
  have N0 := Fr.nil n0
  show Go p e below (EndQ s below (Q4 Z a w h0 n0) ({ frames := 0, cells := 0, slots := 0, locals := 0 } : Room).cells ({ frames := 0, cells := 0, slots := 0, locals := 0 } : Room).slots) s₁ (entryFrame m #[(.ref a)] 1)
  obtain ⟨Φ, hΦ⟩ : ∃ Φ, Φ = EndQ s below (Q4 Z a w h0 n0) ({ frames := 0, cells := 0, slots := 0, locals := 0 } : Room).cells ({ frames := 0, cells := 0, slots := 0, locals := 0 } : Room).slots := ⟨_, rfl⟩
  rw [← hΦ, own_ef4]
  show Go p e below Φ s₁ (mkF m 0 #[.val (.ref a)] [])
  refine Go.of (fun t k => XS.aloadN X0.here hx rfl (hb hby own_d4_0) rfl rfl  k) ?_
  show Go p e below Φ s₁ (mkF m 1 #[.val (.ref a)] [(.ref a)])
  obtain ⟨T1, X1, e1, st1⟩ := getF X0 hx hZ hown (host := "") (Or.inl (hw _ (List.mem_of_getElem? (i := 16) rfl))) Via.refl e0 F_a_volatility (g := (mkF m 1 #[.val (.ref a)] [(.ref a)])) rfl rfl (hb hby own_d4_1)
  refine Go.of st1 ?_
  show Go p e below Φ T1 (mkF m 4 #[.val (.ref a)] [(.int w)])
  refine Go.of (fun t k => XS.bipush X1.here hx rfl (hb hby own_d4_4) k) ?_
  show Go p e below Φ T1 (mkF m 6 #[.val (.ref a)] [(.int (105 : Int32)), (.int w)])
  by_cases hc6 : w = (105 : Int32)
  · refine Go.of (fun t k => XS.icmpNo X1.here hx rfl (hb hby own_d4_6) rfl (XT.ii_ne_f hc6) k) ?_
    show Go p e below Φ T1 (mkF m 9 #[.val (.ref a)] [])
    refine Go.of (fun t k => XS.iconst X1.here hx rfl (hb hby own_d4_9) k) ?_
    show Go p e below Φ T1 (mkF m 10 #[.val (.ref a)] [(.int (1 : Int32))])
    refine Go.of (fun t k => XS.goto X1.here hx rfl (pc0 := 10) (pc' := 14) rfl (hb hby own_d4_10) (by decide) (by decide) k) ?_
    show Go p e below Φ T1 (mkF m 14 #[.val (.ref a)] [(.int (1 : Int32))])
    rw [hΦ]
    refine Go.ret X1 hx Bd.notSynchronized Bd.returns rfl (Or.inl ⟨rfl, Or.inr (Or.inl rfl), _, rfl⟩) (hb hby own_d4_14) (by decide) (by decide) ?_
    rw [e1]
    exact ⟨by rw [own_reads, if_pos hc6], N0, rfl⟩
  · refine Go.of (fun t k => XS.icmpYes X1.here hx rfl (pc0 := 6) (pc' := 13) rfl (hb hby own_d4_6) rfl (XT.ii_ne_t hc6) (by decide) (by decide) k) ?_
    show Go p e below Φ T1 (mkF m 13 #[.val (.ref a)] [])
    refine Go.of (fun t k => XS.iconst X1.here hx rfl (hb hby own_d4_13) k) ?_
    show Go p e below Φ T1 (mkF m 14 #[.val (.ref a)] [(.int (0 : Int32))])
    rw [hΦ]
    refine Go.ret X1 hx Bd.notSynchronized Bd.returns rfl (Or.inl ⟨rfl, Or.inr (Or.inl rfl), _, rfl⟩) (hb hby own_d4_14) (by decide) (by decide) ?_
    rw [e1]
    exact ⟨by rw [own_reads, if_neg hc6], N0, rfl⟩
def own_rep (w : Int32) : Int32 := (if (114 : Int32) < w then (0 : Int32) else (1 : Int32))
theorem own_ef7 (m : MethodId) (a : Addr) : entryFrame m #[(.ref a)] 1 = mkF m 0 #[.val (.ref a)] [] := by first | (simp [entryFrame, mkF, argsToLocals, Value.category]; done) | rfl
def Q7 (Z : State) (a : Addr) (w : Int32) (h0 : Heap) (n0 : Nat) (vr : Option Value) (hr : Heap) (Lr : List Loc) : Prop := vr = some (.int (own_rep w)) ∧ Fr n0 Lr ∧ hr = h0
set_option maxRecDepth 65536 in
set_option maxHeartbeats 40000000 in
theorem rm7 (l : Launch) (Z : State) (a0 : Array Value) (hw : ∀ d ∈ tables_1, d.before a0 Z = true) (ws : List Jvm.Cond) (a : Addr) (w : Int32) (h0 : Heap) (n0 : Nat) (Z0 : n0 ≤ h0.size) (F_a_volatility : Fld Z h0 a "com/example/shelfset/shelfset/Catalog$Function" "volatility" "C" (.int w)) :
    MetFree l (⟨"com/example/shelfset/shelfset/Catalog$Function", "repeatable", "()Z"⟩ : MethodName) (head1 (Jvm.Cond.code (⟨"com/example/shelfset/shelfset/Catalog$Function", "repeatable", "()Z"⟩ : MethodName) prog_27_method_4_code 1 (some .boolean) :: ws) ({ frames := 0, cells := 0, slots := 0, locals := 0 } : Room)) (fun aQ UQ => aQ = #[(.ref a)] ∧ Z.Warmed39 UQ.vm ∧ UQ.heap = h0) (fun _ _ _ _ _ => True) (fun _ UQ oQ VQ => ∃ vQ LQ, oQ = .returned vQ ∧ Q7 Z a w h0 n0 vQ VQ.heap LQ ∧ FrameEnd UQ oQ VQ LQ ({ frames := 0, cells := 0, slots := 0, locals := 0 } : Room).cells ({ frames := 0, cells := 0, slots := 0, locals := 0 } : Room).slots) := by
  refine MetFree.of_bodySF (plainFor_of_name own_pn1) hisR ?_
  intro p e s m args below meth c s₁ Bd hml0 hP hK
  obtain ⟨rfl, hZ, hh⟩ := hP
  have hx := Bd.exec
  have hby := Bd.bytes
  have hml : c.maxLocals = 1 := hml0
  have hown : s.vm.findClass "com/example/shelfset/shelfset/Catalog$Function" = some m.cls := findClass_of_methodNamed Bd.named
  have hnm := (name_of_methodNamed Bd.named Bd.method).1
  have X0 : Stand p l e ({ frames := 0, cells := 0, slots := 0, locals := 0 } : Room) s m #[(.ref a)] below meth c s₁ [] 0 0 := Stand.of_body Bd
  have e0 : s₁.heap = h0 := by rw [← hh, Bd.state]; rfl
  have N0 := Fr.nil n0
  show Go p e below (EndQ s below (Q7 Z a w h0 n0) ({ frames := 0, cells := 0, slots := 0, locals := 0 } : Room).cells ({ frames := 0, cells := 0, slots := 0, locals := 0 } : Room).slots) s₁ (entryFrame m #[(.ref a)] 1)
  obtain ⟨Φ, hΦ⟩ : ∃ Φ, Φ = EndQ s below (Q7 Z a w h0 n0) ({ frames := 0, cells := 0, slots := 0, locals := 0 } : Room).cells ({ frames := 0, cells := 0, slots := 0, locals := 0 } : Room).slots := ⟨_, rfl⟩
  rw [← hΦ, own_ef7]
  show Go p e below Φ s₁ (mkF m 0 #[.val (.ref a)] [])
  refine Go.of (fun t k => XS.aloadN X0.here hx rfl (hb hby own_d7_0) rfl rfl  k) ?_
  show Go p e below Φ s₁ (mkF m 1 #[.val (.ref a)] [(.ref a)])
  obtain ⟨T1, X1, e1, st1⟩ := getF X0 hx hZ hown (host := "") (Or.inl (hw _ (List.mem_of_getElem? (i := 16) rfl))) Via.refl e0 F_a_volatility (g := (mkF m 1 #[.val (.ref a)] [(.ref a)])) rfl rfl (hb hby own_d7_1)
  refine Go.of st1 ?_
  show Go p e below Φ T1 (mkF m 4 #[.val (.ref a)] [(.int w)])
  refine Go.of (fun t k => XS.bipush X1.here hx rfl (hb hby own_d7_4) k) ?_
  show Go p e below Φ T1 (mkF m 6 #[.val (.ref a)] [(.int (114 : Int32)), (.int w)])
  by_cases hc6 : (114 : Int32) < w
  · refine Go.of (fun t k => XS.icmpYes X1.here hx rfl (pc0 := 6) (pc' := 13) rfl (hb hby own_d7_6) rfl (XT.ii_gt_t hc6) (by decide) (by decide) k) ?_
    show Go p e below Φ T1 (mkF m 13 #[.val (.ref a)] [])
    refine Go.of (fun t k => XS.iconst X1.here hx rfl (hb hby own_d7_13) k) ?_
    show Go p e below Φ T1 (mkF m 14 #[.val (.ref a)] [(.int (0 : Int32))])
    rw [hΦ]
    refine Go.ret X1 hx Bd.notSynchronized Bd.returns rfl (Or.inl ⟨rfl, Or.inr (Or.inl rfl), _, rfl⟩) (hb hby own_d7_14) (by decide) (by decide) ?_
    rw [e1]
    exact ⟨by rw [own_rep, if_pos hc6], N0, rfl⟩
  · refine Go.of (fun t k => XS.icmpNo X1.here hx rfl (hb hby own_d7_6) rfl (XT.ii_gt_f hc6) k) ?_
    show Go p e below Φ T1 (mkF m 9 #[.val (.ref a)] [])
    refine Go.of (fun t k => XS.iconst X1.here hx rfl (hb hby own_d7_9) k) ?_
    show Go p e below Φ T1 (mkF m 10 #[.val (.ref a)] [(.int (1 : Int32))])
    refine Go.of (fun t k => XS.goto X1.here hx rfl (pc0 := 10) (pc' := 14) rfl (hb hby own_d7_10) (by decide) (by decide) k) ?_
    show Go p e below Φ T1 (mkF m 14 #[.val (.ref a)] [(.int (1 : Int32))])
    rw [hΦ]
    refine Go.ret X1 hx Bd.notSynchronized Bd.returns rfl (Or.inl ⟨rfl, Or.inr (Or.inl rfl), _, rfl⟩) (hb hby own_d7_14) (by decide) (by decide) ?_
    rw [e1]
    exact ⟨by rw [own_rep, if_neg hc6], N0, rfl⟩
def own_may (w : Int32) : Int32 := (if w = (118 : Int32) then (1 : Int32) else (0 : Int32))
theorem own_ef8 (m : MethodId) (a : Addr) : entryFrame m #[(.ref a)] 1 = mkF m 0 #[.val (.ref a)] [] := by first | (simp [entryFrame, mkF, argsToLocals, Value.category]; done) | rfl
def Q8 (Z : State) (a : Addr) (w : Int32) (h0 : Heap) (n0 : Nat) (vr : Option Value) (hr : Heap) (Lr : List Loc) : Prop := vr = some (.int (own_may w)) ∧ Fr n0 Lr ∧ hr = h0
set_option maxRecDepth 65536 in
set_option maxHeartbeats 40000000 in
theorem rm8 (l : Launch) (Z : State) (a0 : Array Value) (hw : ∀ d ∈ tables_1, d.before a0 Z = true) (ws : List Jvm.Cond) (a : Addr) (w : Int32) (h0 : Heap) (n0 : Nat) (Z0 : n0 ≤ h0.size) (F_a_volatility : Fld Z h0 a "com/example/shelfset/shelfset/Catalog$Function" "volatility" "C" (.int w)) :
    MetFree l (⟨"com/example/shelfset/shelfset/Catalog$Function", "mayWrite", "()Z"⟩ : MethodName) (head1 (Jvm.Cond.code (⟨"com/example/shelfset/shelfset/Catalog$Function", "mayWrite", "()Z"⟩ : MethodName) prog_27_method_5_code 1 (some .boolean) :: ws) ({ frames := 0, cells := 0, slots := 0, locals := 0 } : Room)) (fun aQ UQ => aQ = #[(.ref a)] ∧ Z.Warmed39 UQ.vm ∧ UQ.heap = h0) (fun _ _ _ _ _ => True) (fun _ UQ oQ VQ => ∃ vQ LQ, oQ = .returned vQ ∧ Q8 Z a w h0 n0 vQ VQ.heap LQ ∧ FrameEnd UQ oQ VQ LQ ({ frames := 0, cells := 0, slots := 0, locals := 0 } : Room).cells ({ frames := 0, cells := 0, slots := 0, locals := 0 } : Room).slots) := by
  refine MetFree.of_bodySF (plainFor_of_name own_pn1) hisR ?_
  intro p e s m args below meth c s₁ Bd hml0 hP hK
  obtain ⟨rfl, hZ, hh⟩ := hP
  have hx := Bd.exec
  have hby := Bd.bytes
  have hml : c.maxLocals = 1 := hml0
  have hown : s.vm.findClass "com/example/shelfset/shelfset/Catalog$Function" = some m.cls := findClass_of_methodNamed Bd.named
  have hnm := (name_of_methodNamed Bd.named Bd.method).1
  have X0 : Stand p l e ({ frames := 0, cells := 0, slots := 0, locals := 0 } : Room) s m #[(.ref a)] below meth c s₁ [] 0 0 := Stand.of_body Bd
  have e0 : s₁.heap = h0 := by rw [← hh, Bd.state]; rfl
  have N0 := Fr.nil n0
  show Go p e below (EndQ s below (Q8 Z a w h0 n0) ({ frames := 0, cells := 0, slots := 0, locals := 0 } : Room).cells ({ frames := 0, cells := 0, slots := 0, locals := 0 } : Room).slots) s₁ (entryFrame m #[(.ref a)] 1)
  obtain ⟨Φ, hΦ⟩ : ∃ Φ, Φ = EndQ s below (Q8 Z a w h0 n0) ({ frames := 0, cells := 0, slots := 0, locals := 0 } : Room).cells ({ frames := 0, cells := 0, slots := 0, locals := 0 } : Room).slots := ⟨_, rfl⟩
  rw [← hΦ, own_ef8]
  show Go p e below Φ s₁ (mkF m 0 #[.val (.ref a)] [])
  refine Go.of (fun t k => XS.aloadN X0.here hx rfl (hb hby own_d8_0) rfl rfl  k) ?_
  show Go p e below Φ s₁ (mkF m 1 #[.val (.ref a)] [(.ref a)])
  obtain ⟨T1, X1, e1, st1⟩ := getF X0 hx hZ hown (host := "") (Or.inl (hw _ (List.mem_of_getElem? (i := 16) rfl))) Via.refl e0 F_a_volatility (g := (mkF m 1 #[.val (.ref a)] [(.ref a)])) rfl rfl (hb hby own_d8_1)
  refine Go.of st1 ?_
  show Go p e below Φ T1 (mkF m 4 #[.val (.ref a)] [(.int w)])
  refine Go.of (fun t k => XS.bipush X1.here hx rfl (hb hby own_d8_4) k) ?_
  show Go p e below Φ T1 (mkF m 6 #[.val (.ref a)] [(.int (118 : Int32)), (.int w)])
  by_cases hc6 : w = (118 : Int32)
  · refine Go.of (fun t k => XS.icmpNo X1.here hx rfl (hb hby own_d8_6) rfl (XT.ii_ne_f hc6) k) ?_
    show Go p e below Φ T1 (mkF m 9 #[.val (.ref a)] [])
    refine Go.of (fun t k => XS.iconst X1.here hx rfl (hb hby own_d8_9) k) ?_
    show Go p e below Φ T1 (mkF m 10 #[.val (.ref a)] [(.int (1 : Int32))])
    refine Go.of (fun t k => XS.goto X1.here hx rfl (pc0 := 10) (pc' := 14) rfl (hb hby own_d8_10) (by decide) (by decide) k) ?_
    show Go p e below Φ T1 (mkF m 14 #[.val (.ref a)] [(.int (1 : Int32))])
    rw [hΦ]
    refine Go.ret X1 hx Bd.notSynchronized Bd.returns rfl (Or.inl ⟨rfl, Or.inr (Or.inl rfl), _, rfl⟩) (hb hby own_d8_14) (by decide) (by decide) ?_
    rw [e1]
    exact ⟨by rw [own_may, if_pos hc6], N0, rfl⟩
  · refine Go.of (fun t k => XS.icmpYes X1.here hx rfl (pc0 := 6) (pc' := 13) rfl (hb hby own_d8_6) rfl (XT.ii_ne_t hc6) (by decide) (by decide) k) ?_
    show Go p e below Φ T1 (mkF m 13 #[.val (.ref a)] [])
    refine Go.of (fun t k => XS.iconst X1.here hx rfl (hb hby own_d8_13) k) ?_
    show Go p e below Φ T1 (mkF m 14 #[.val (.ref a)] [(.int (0 : Int32))])
    rw [hΦ]
    refine Go.ret X1 hx Bd.notSynchronized Bd.returns rfl (Or.inl ⟨rfl, Or.inr (Or.inl rfl), _, rfl⟩) (hb hby own_d8_14) (by decide) (by decide) ?_
    rw [e1]
    exact ⟨by rw [own_may, if_neg hc6], N0, rfl⟩
def own_max (xx : Int32) (yy : Int32) : Int32 := (if xx < yy then yy else xx)
theorem own_ef6 (m : MethodId) (xx : Int32) (yy : Int32) : entryFrame m #[(.int xx), (.int yy)] 2 = mkF m 0 #[.val (.int xx), .val (.int yy)] [] := by first | (simp [entryFrame, mkF, argsToLocals, Value.category]; done) | rfl
def Q6 (Z : State) (xx : Int32) (yy : Int32) (h0 : Heap) (n0 : Nat) (vr : Option Value) (hr : Heap) (Lr : List Loc) : Prop := vr = some (.int (own_max xx yy)) ∧ Fr n0 Lr ∧ hr = h0
set_option maxRecDepth 65536 in
set_option maxHeartbeats 40000000 in
theorem rm6 (l : Launch) (Z : State) (a0 : Array Value) (hw : ∀ d ∈ tables_1, d.before a0 Z = true) (ws : List Jvm.Cond) (xx : Int32) (yy : Int32) (h0 : Heap) (n0 : Nat) (Z0 : n0 ≤ h0.size) :
    MetFree l (⟨"java/lang/Math", "max", "(II)I"⟩ : MethodName) (head1 (Jvm.Cond.code (⟨"java/lang/Math", "max", "(II)I"⟩ : MethodName) jdk_29_method_65_code 2 (some .int) :: ws) ({ frames := 0, cells := 0, slots := 0, locals := 0 } : Room)) (fun aQ UQ => aQ = #[(.int xx), (.int yy)] ∧ Z.Warmed39 UQ.vm ∧ UQ.heap = h0) (fun _ _ _ _ _ => True) (fun _ UQ oQ VQ => ∃ vQ LQ, oQ = .returned vQ ∧ Q6 Z xx yy h0 n0 vQ VQ.heap LQ ∧ FrameEnd UQ oQ VQ LQ ({ frames := 0, cells := 0, slots := 0, locals := 0 } : Room).cells ({ frames := 0, cells := 0, slots := 0, locals := 0 } : Room).slots) := by
  refine MetFree.of_bodySF (Jvm.Free.JP.mathPlain rfl (by decide +kernel)) hisR ?_
  intro p e s m args below meth c s₁ Bd hml0 hP hK
  obtain ⟨rfl, hZ, hh⟩ := hP
  have hx := Bd.exec
  have hby := Bd.bytes
  have hml : c.maxLocals = 2 := hml0
  have hown : s.vm.findClass "java/lang/Math" = some m.cls := findClass_of_methodNamed Bd.named
  have hnm := (name_of_methodNamed Bd.named Bd.method).1
  have X0 : Stand p l e ({ frames := 0, cells := 0, slots := 0, locals := 0 } : Room) s m #[(.int xx), (.int yy)] below meth c s₁ [] 0 0 := Stand.of_body Bd
  have e0 : s₁.heap = h0 := by rw [← hh, Bd.state]; rfl
  have N0 := Fr.nil n0
  show Go p e below (EndQ s below (Q6 Z xx yy h0 n0) ({ frames := 0, cells := 0, slots := 0, locals := 0 } : Room).cells ({ frames := 0, cells := 0, slots := 0, locals := 0 } : Room).slots) s₁ (entryFrame m #[(.int xx), (.int yy)] 2)
  obtain ⟨Φ, hΦ⟩ : ∃ Φ, Φ = EndQ s below (Q6 Z xx yy h0 n0) ({ frames := 0, cells := 0, slots := 0, locals := 0 } : Room).cells ({ frames := 0, cells := 0, slots := 0, locals := 0 } : Room).slots := ⟨_, rfl⟩
  rw [← hΦ, own_ef6]
  show Go p e below Φ s₁ (mkF m 0 #[.val (.int xx), .val (.int yy)] [])
  refine Go.of (fun t k => XS.iloadN X0.here hx rfl (hb hby own_d6_0) rfl  k) ?_
  show Go p e below Φ s₁ (mkF m 1 #[.val (.int xx), .val (.int yy)] [(.int xx)])
  refine Go.of (fun t k => XS.iloadN X0.here hx rfl (hb hby own_d6_1) rfl  k) ?_
  show Go p e below Φ s₁ (mkF m 2 #[.val (.int xx), .val (.int yy)] [(.int yy), (.int xx)])
  by_cases hc2 : xx < yy
  · refine Go.of (fun t k => XS.icmpYes X0.here hx rfl (pc0 := 2) (pc' := 9) rfl (hb hby own_d6_2) rfl (XT.ii_lt_t hc2) (by decide) (by decide) k) ?_
    show Go p e below Φ s₁ (mkF m 9 #[.val (.int xx), .val (.int yy)] [])
    refine Go.of (fun t k => XS.iloadN X0.here hx rfl (hb hby own_d6_9) rfl  k) ?_
    show Go p e below Φ s₁ (mkF m 10 #[.val (.int xx), .val (.int yy)] [(.int yy)])
    rw [hΦ]
    refine Go.ret X0 hx Bd.notSynchronized Bd.returns rfl (Or.inl ⟨rfl, Or.inl rfl, _, rfl⟩) (hb hby own_d6_10) (by decide) (by decide) ?_
    rw [e0]
    exact ⟨by rw [own_max, if_pos hc2], N0, rfl⟩
  · refine Go.of (fun t k => XS.icmpNo X0.here hx rfl (hb hby own_d6_2) rfl (XT.ii_lt_f hc2) k) ?_
    show Go p e below Φ s₁ (mkF m 5 #[.val (.int xx), .val (.int yy)] [])
    refine Go.of (fun t k => XS.iloadN X0.here hx rfl (hb hby own_d6_5) rfl  k) ?_
    show Go p e below Φ s₁ (mkF m 6 #[.val (.int xx), .val (.int yy)] [(.int xx)])
    refine Go.of (fun t k => XS.goto X0.here hx rfl (pc0 := 6) (pc' := 10) rfl (hb hby own_d6_6) (by decide) (by decide) k) ?_
    show Go p e below Φ s₁ (mkF m 10 #[.val (.int xx), .val (.int yy)] [(.int xx)])
    rw [hΦ]
    refine Go.ret X0 hx Bd.notSynchronized Bd.returns rfl (Or.inl ⟨rfl, Or.inl rfl, _, rfl⟩) (hb hby own_d6_10) (by decide) (by decide) ?_
    rw [e0]
    exact ⟨by rw [own_max, if_neg hc2], N0, rfl⟩
theorem own_ef5 (m : MethodId) (a : Addr) (b : Addr) : entryFrame m #[(.ref a), (.ref b)] 2 = mkF m 0 #[.val (.ref a), .val (.ref b)] [] := by first | (simp [entryFrame, mkF, argsToLocals, Value.category]; done) | rfl
def Q5 (Z : State) (a : Addr) (b : Addr) (w1 : Int32) (w2 : Int32) (u1 : Int32) (u2 : Int32) (h0 : Heap) (n0 : Nat) (vr : Option Value) (hr : Heap) (Lr : List Loc) : Prop := ∃ br : Addr, vr = some (.ref br) ∧ Fr n0 Lr ∧ Keep h0 hr [] ∧ h0.size ≤ br ∧ Exa Z hr br "com/example/shelfset/shelfset/Catalog$Function" ∧ Fld Z hr br "com/example/shelfset/shelfset/Catalog$Function" "volatility" "C" (.int (nar .char ((own_max w1 u1).toUInt32.toUInt16.toUInt32.toInt32))) ∧ Fld Z hr br "com/example/shelfset/shelfset/Catalog$Function" "returnsSets" "Z" (.int (nar .boolean (if w2 = (0 : Int32) then (if u2 = (0 : Int32) then (0 : Int32) else (1 : Int32)) else (1 : Int32))))
set_option maxRecDepth 65536 in
set_option maxHeartbeats 40000000 in
theorem rm5 (l : Launch) (Z : State) (a0 : Array Value) (hw : ∀ d ∈ tables_1, d.before a0 Z = true) (ws : List Jvm.Cond) (a : Addr) (b : Addr) (w1 : Int32) (w2 : Int32) (u1 : Int32) (u2 : Int32) (h0 : Heap) (n0 : Nat) (Z0 : n0 ≤ h0.size) (F_a_volatility : Fld Z h0 a "com/example/shelfset/shelfset/Catalog$Function" "volatility" "C" (.int w1)) (F_a_returnsSets : Fld Z h0 a "com/example/shelfset/shelfset/Catalog$Function" "returnsSets" "Z" (.int w2)) (F_b_volatility : Fld Z h0 b "com/example/shelfset/shelfset/Catalog$Function" "volatility" "C" (.int u1)) (F_b_returnsSets : Fld Z h0 b "com/example/shelfset/shelfset/Catalog$Function" "returnsSets" "Z" (.int u2)) (E_a : Exa Z h0 a "com/example/shelfset/shelfset/Catalog$Function") (E_b : Exa Z h0 b "com/example/shelfset/shelfset/Catalog$Function") :
    MetFree l (⟨"com/example/shelfset/shelfset/Catalog$Function", "and", "(Lcom/example/shelfset/shelfset/Catalog$Function;)Lcom/example/shelfset/shelfset/Catalog$Function;"⟩ : MethodName) (head1 (Jvm.Cond.code (⟨"com/example/shelfset/shelfset/Catalog$Function", "and", "(Lcom/example/shelfset/shelfset/Catalog$Function;)Lcom/example/shelfset/shelfset/Catalog$Function;"⟩ : MethodName) prog_27_method_2_code 2 (some (.object "com/example/shelfset/shelfset/Catalog$Function")) :: ws) ({ frames := 3, cells := 1, slots := 2, locals := 39 } : Room)) (fun aQ UQ => aQ = #[(.ref a), (.ref b)] ∧ Z.Warmed39 UQ.vm ∧ UQ.heap = h0) (fun _ _ _ _ _ => True) (fun _ UQ oQ VQ => ∃ vQ LQ, oQ = .returned vQ ∧ Q5 Z a b w1 w2 u1 u2 h0 n0 vQ VQ.heap LQ ∧ FrameEnd UQ oQ VQ LQ ({ frames := 3, cells := 1, slots := 2, locals := 39 } : Room).cells ({ frames := 3, cells := 1, slots := 2, locals := 39 } : Room).slots) := by
  refine MetFree.of_bodySF (plainFor_of_name own_pn1) hisR ?_
  intro p e s m args below meth c s₁ Bd hml0 hP hK
  obtain ⟨rfl, hZ, hh⟩ := hP
  have hx := Bd.exec
  have hby := Bd.bytes
  have hml : c.maxLocals = 2 := hml0
  have hown : s.vm.findClass "com/example/shelfset/shelfset/Catalog$Function" = some m.cls := findClass_of_methodNamed Bd.named
  have hnm := (name_of_methodNamed Bd.named Bd.method).1
  have X0 : Stand p l e ({ frames := 3, cells := 1, slots := 2, locals := 39 } : Room) s m #[(.ref a), (.ref b)] below meth c s₁ [] 0 0 := Stand.of_body Bd
  have e0 : s₁.heap = h0 := by rw [← hh, Bd.state]; rfl
  have N0 := Fr.nil n0
  show Go p e below (EndQ s below (Q5 Z a b w1 w2 u1 u2 h0 n0) ({ frames := 3, cells := 1, slots := 2, locals := 39 } : Room).cells ({ frames := 3, cells := 1, slots := 2, locals := 39 } : Room).slots) s₁ (entryFrame m #[(.ref a), (.ref b)] 2)
  obtain ⟨Φ, hΦ⟩ : ∃ Φ, Φ = EndQ s below (Q5 Z a b w1 w2 u1 u2 h0 n0) ({ frames := 3, cells := 1, slots := 2, locals := 39 } : Room).cells ({ frames := 3, cells := 1, slots := 2, locals := 39 } : Room).slots := ⟨_, rfl⟩
  rw [← hΦ, own_ef5]
  show Go p e below Φ s₁ (mkF m 0 #[.val (.ref a), .val (.ref b)] [])
  obtain ⟨T1, h1, X1, e1, E1, A1, D1, -, st1⟩ := newO X0 hx hZ hown (hw _ (List.mem_of_getElem? (i := 30) rfl)) (hw _ (List.mem_of_getElem? (i := 3) rfl)) (hw _ (List.mem_of_getElem? (i := 4) rfl)) e0 (g := (mkF m 0 #[.val (.ref a), .val (.ref b)] [])) rfl (hb hby own_d5_0) (by decide) (by decide)
  obtain ⟨b1, g1⟩ : ∃ z, z = h0.size := ⟨_, rfl⟩
  rw [← g1] at A1 D1 st1
  have ne_a_b1 : a ≠ b1 := Nat.ne_of_lt (Nat.lt_of_lt_of_le F_a_volatility.lt (Nat.le_of_eq g1.symm))
  have ne_b_b1 : b ≠ b1 := Nat.ne_of_lt (Nat.lt_of_lt_of_le F_b_volatility.lt (Nat.le_of_eq g1.symm))
  have g_b1 : n0 ≤ b1 := Nat.le_trans Z0 (Nat.le_of_eq g1.symm)
  have sz_b1 : h0.size ≤ b1 := Nat.le_trans (Keep.refl h0 []).1 (Nat.le_of_eq g1.symm)
  have K1 := (Keep.refl h0 []).ext E1
  have Z1 := Nat.le_trans Z0 E1.1
  have F_a_volatility := F_a_volatility.ext E1
  have F_a_returnsSets := F_a_returnsSets.ext E1
  have F_b_volatility := F_b_volatility.ext E1
  have F_b_returnsSets := F_b_returnsSets.ext E1
  have E_a := E_a.ext E1
  have E_b := E_b.ext E1
  have E_b1 := A1
  have F_b1_volatility : Fld Z h1 b1 "com/example/shelfset/shelfset/Catalog$Function" "volatility" "C" (.int (0 : Int32)) := D1 (Or.inr (hw _ (List.mem_of_getElem? (i := 17) rfl))) (ty := .char) (by decide)
  have F_b1_returnsSets : Fld Z h1 b1 "com/example/shelfset/shelfset/Catalog$Function" "returnsSets" "Z" (.int (0 : Int32)) := D1 (Or.inr (hw _ (List.mem_of_getElem? (i := 19) rfl))) (ty := .boolean) (by decide)
  refine Go.of st1 ?_
  show Go p e below Φ T1 (mkF m 3 #[.val (.ref a), .val (.ref b)] [(.ref b1)])
  refine Go.of (fun t k => XS.dup X1.here hx rfl (hb hby own_d5_3) rfl rfl k) ?_
  show Go p e below Φ T1 (mkF m 4 #[.val (.ref a), .val (.ref b)] [(.ref b1), (.ref b1)])
  refine Go.of (fun t k => XS.aloadN X1.here hx rfl (hb hby own_d5_4) rfl rfl  k) ?_
  show Go p e below Φ T1 (mkF m 5 #[.val (.ref a), .val (.ref b)] [(.ref a), (.ref b1), (.ref b1)])
  obtain ⟨T2, X2, e2, st2⟩ := getF X1 hx hZ hown (host := "") (Or.inl (hw _ (List.mem_of_getElem? (i := 16) rfl))) Via.refl e1 F_a_volatility (g := (mkF m 5 #[.val (.ref a), .val (.ref b)] [(.ref a), (.ref b1), (.ref b1)])) rfl rfl (hb hby own_d5_5)
  refine Go.of st2 ?_
  show Go p e below Φ T2 (mkF m 8 #[.val (.ref a), .val (.ref b)] [(.int w1), (.ref b1), (.ref b1)])
  refine Go.of (fun t k => XS.aloadN X2.here hx rfl (hb hby own_d5_8) rfl rfl  k) ?_
  show Go p e below Φ T2 (mkF m 9 #[.val (.ref a), .val (.ref b)] [(.ref b), (.int w1), (.ref b1), (.ref b1)])
  obtain ⟨T3, X3, e3, st3⟩ := getF X2 hx hZ hown (host := "") (Or.inl (hw _ (List.mem_of_getElem? (i := 16) rfl))) Via.refl e2 F_b_volatility (g := (mkF m 9 #[.val (.ref a), .val (.ref b)] [(.ref b), (.int w1), (.ref b1), (.ref b1)])) rfl rfl (hb hby own_d5_9)
  refine Go.of st3 ?_
  show Go p e below Φ T3 (mkF m 12 #[.val (.ref a), .val (.ref b)] [(.int u1), (.int w1), (.ref b1), (.ref b1)])
  obtain ⟨_, _, ⟨T4, L4, k4, n4⟩, -, X4, ⟨Lc4, hQ4, l4, y4, z4⟩, st4⟩ := Jvm.LawKit.callS X3 hx (y := (⟨"java/lang/Math", "max", "(II)I"⟩ : MethodName)) hown (mvT hZ (hw _ (List.mem_of_getElem? (i := 31) rfl))) (mvT hZ (hw _ (List.mem_of_getElem? (i := 32) rfl))) (mvT hZ (hw _ (List.mem_of_getElem? (i := 33) rfl))) (mvT hZ (hw _ (List.mem_of_getElem? (i := 34) rfl))) (by decide) (backOf (W := 2) (rm6 l Z a0 hw [] w1 u1 h1 n0 Z1) hZ (hw _ (List.mem_of_getElem? (i := 34) rfl)) (hw _ (List.mem_of_getElem? (i := 33) rfl)) (by decide) (by decide)) (g := (mkF m 12 #[.val (.ref a), .val (.ref b)] [(.int u1), (.int w1), (.ref b1), (.ref b1)])) rfl (by rw [hml]; rfl) (argsL := [(.int w1), (.int u1)]) (rest := [(.ref b1), (.ref b1)]) (lenOf own_pd1 rfl) rfl (by show 2 * 0 + _ ≤ _; exact Nat.le_of_eq rfl) (hb hby own_d5_12) (fun _ _ => ⟨rfl, e3, (by decide : 1 + 0 ≤ _), (by decide : 2 + 0 ≤ _)⟩)
  dsimp only [Pt.U, Pt.locs, Pt.cells, Pt.slots] at X4 l4 y4 z4 st4 hQ4
  subst l4 y4 z4
  obtain ⟨rfl, N4q, e4q⟩ := hQ4
  have N4 := Fr.app N0 N4q
  obtain ⟨lc4, X4, N4⟩ : ∃ lc, Stand p l e ({ frames := 3, cells := 1, slots := 2, locals := 39 } : Room) s m #[(.ref a), (.ref b)] below meth c T4 lc 1 2 ∧ Fr n0 lc := ⟨_, X4, N4⟩
  refine Go.of st4 ?_
  show Go p e below Φ T4 (mkF m 15 #[.val (.ref a), .val (.ref b)] [(.int (own_max w1 u1)), (.ref b1), (.ref b1)])
  refine Go.of (fun t k => XS.i2c X4.here hx rfl (hb hby own_d5_15) rfl k) ?_
  show Go p e below Φ T4 (mkF m 16 #[.val (.ref a), .val (.ref b)] [(.int ((own_max w1 u1).toUInt32.toUInt16.toUInt32.toInt32)), (.ref b1), (.ref b1)])
  refine Go.of (fun t k => XS.aloadN X4.here hx rfl (hb hby own_d5_16) rfl rfl  k) ?_
  show Go p e below Φ T4 (mkF m 17 #[.val (.ref a), .val (.ref b)] [(.ref a), (.int ((own_max w1 u1).toUInt32.toUInt16.toUInt32.toInt32)), (.ref b1), (.ref b1)])
  obtain ⟨T5, X5, e5, st5⟩ := getF X4 hx hZ hown (host := "") (Or.inl (hw _ (List.mem_of_getElem? (i := 18) rfl))) Via.refl (e4q) F_a_returnsSets (g := (mkF m 17 #[.val (.ref a), .val (.ref b)] [(.ref a), (.int ((own_max w1 u1).toUInt32.toUInt16.toUInt32.toInt32)), (.ref b1), (.ref b1)])) rfl rfl (hb hby own_d5_17)
  refine Go.of st5 ?_
  show Go p e below Φ T5 (mkF m 20 #[.val (.ref a), .val (.ref b)] [(.int w2), (.int ((own_max w1 u1).toUInt32.toUInt16.toUInt32.toInt32)), (.ref b1), (.ref b1)])
  suffices j35_6 : ∀ T6 : State, Stand p l e ({ frames := 3, cells := 1, slots := 2, locals := 39 } : Room) s m #[(.ref a), (.ref b)] below meth c T6 lc4 1 2 → T6.heap = h1 → ∀ v35 : Int32, v35 = (if w2 = (0 : Int32) then (if u2 = (0 : Int32) then (0 : Int32) else (1 : Int32)) else (1 : Int32)) → Go p e below Φ T6 (mkF m 35 #[.val (.ref a), .val (.ref b)] [(.int v35), (.int ((own_max w1 u1).toUInt32.toUInt16.toUInt32.toInt32)), (.ref b1), (.ref b1)]) by
    by_cases hc20 : w2 = (0 : Int32)
    · refine Go.of (fun t k => XS.ifNo X5.here hx rfl (hb hby own_d5_20) rfl (XT.i0_ne_f hc20) k) ?_
      show Go p e below Φ T5 (mkF m 23 #[.val (.ref a), .val (.ref b)] [(.int ((own_max w1 u1).toUInt32.toUInt16.toUInt32.toInt32)), (.ref b1), (.ref b1)])
      refine Go.of (fun t k => XS.aloadN X5.here hx rfl (hb hby own_d5_23) rfl rfl  k) ?_
      show Go p e below Φ T5 (mkF m 24 #[.val (.ref a), .val (.ref b)] [(.ref b), (.int ((own_max w1 u1).toUInt32.toUInt16.toUInt32.toInt32)), (.ref b1), (.ref b1)])
      obtain ⟨T7, X7, e7, st7⟩ := getF X5 hx hZ hown (host := "") (Or.inl (hw _ (List.mem_of_getElem? (i := 18) rfl))) Via.refl e5 F_b_returnsSets (g := (mkF m 24 #[.val (.ref a), .val (.ref b)] [(.ref b), (.int ((own_max w1 u1).toUInt32.toUInt16.toUInt32.toInt32)), (.ref b1), (.ref b1)])) rfl rfl (hb hby own_d5_24)
      refine Go.of st7 ?_
      show Go p e below Φ T7 (mkF m 27 #[.val (.ref a), .val (.ref b)] [(.int u2), (.int ((own_max w1 u1).toUInt32.toUInt16.toUInt32.toInt32)), (.ref b1), (.ref b1)])
      by_cases hc27 : u2 = (0 : Int32)
      · refine Go.of (fun t k => XS.ifYes X7.here hx rfl (pc0 := 27) (pc' := 34) rfl (hb hby own_d5_27) rfl (XT.i0_eq_t hc27) (by decide) (by decide) k) ?_
        show Go p e below Φ T7 (mkF m 34 #[.val (.ref a), .val (.ref b)] [(.int ((own_max w1 u1).toUInt32.toUInt16.toUInt32.toInt32)), (.ref b1), (.ref b1)])
        refine Go.of (fun t k => XS.iconst X7.here hx rfl (hb hby own_d5_34) k) ?_
        show Go p e below Φ T7 (mkF m 35 #[.val (.ref a), .val (.ref b)] [(.int (0 : Int32)), (.int ((own_max w1 u1).toUInt32.toUInt16.toUInt32.toInt32)), (.ref b1), (.ref b1)])
        exact j35_6 _ X7 e7 _ (by rw [if_pos hc20, if_pos hc27])
      · refine Go.of (fun t k => XS.ifNo X7.here hx rfl (hb hby own_d5_27) rfl (XT.i0_eq_f hc27) k) ?_
        show Go p e below Φ T7 (mkF m 30 #[.val (.ref a), .val (.ref b)] [(.int ((own_max w1 u1).toUInt32.toUInt16.toUInt32.toInt32)), (.ref b1), (.ref b1)])
        refine Go.of (fun t k => XS.iconst X7.here hx rfl (hb hby own_d5_30) k) ?_
        show Go p e below Φ T7 (mkF m 31 #[.val (.ref a), .val (.ref b)] [(.int (1 : Int32)), (.int ((own_max w1 u1).toUInt32.toUInt16.toUInt32.toInt32)), (.ref b1), (.ref b1)])
        refine Go.of (fun t k => XS.goto X7.here hx rfl (pc0 := 31) (pc' := 35) rfl (hb hby own_d5_31) (by decide) (by decide) k) ?_
        show Go p e below Φ T7 (mkF m 35 #[.val (.ref a), .val (.ref b)] [(.int (1 : Int32)), (.int ((own_max w1 u1).toUInt32.toUInt16.toUInt32.toInt32)), (.ref b1), (.ref b1)])
        exact j35_6 _ X7 e7 _ (by rw [if_pos hc20, if_neg hc27])
    · refine Go.of (fun t k => XS.ifYes X5.here hx rfl (pc0 := 20) (pc' := 30) rfl (hb hby own_d5_20) rfl (XT.i0_ne_t hc20) (by decide) (by decide) k) ?_
      show Go p e below Φ T5 (mkF m 30 #[.val (.ref a), .val (.ref b)] [(.int ((own_max w1 u1).toUInt32.toUInt16.toUInt32.toInt32)), (.ref b1), (.ref b1)])
      refine Go.of (fun t k => XS.iconst X5.here hx rfl (hb hby own_d5_30) k) ?_
      show Go p e below Φ T5 (mkF m 31 #[.val (.ref a), .val (.ref b)] [(.int (1 : Int32)), (.int ((own_max w1 u1).toUInt32.toUInt16.toUInt32.toInt32)), (.ref b1), (.ref b1)])
      refine Go.of (fun t k => XS.goto X5.here hx rfl (pc0 := 31) (pc' := 35) rfl (hb hby own_d5_31) (by decide) (by decide) k) ?_
      show Go p e below Φ T5 (mkF m 35 #[.val (.ref a), .val (.ref b)] [(.int (1 : Int32)), (.int ((own_max w1 u1).toUInt32.toUInt16.toUInt32.toInt32)), (.ref b1), (.ref b1)])
      exact j35_6 _ X5 e5 _ (by rw [if_neg hc20])
  intro T6 X6 e6 v35 hv35
  subst hv35
  show Go p e below Φ T6 (mkF m 35 #[.val (.ref a), .val (.ref b)] [(.int (if w2 = (0 : Int32) then (if u2 = (0 : Int32) then (0 : Int32) else (1 : Int32)) else (1 : Int32))), (.int ((own_max w1 u1).toUInt32.toUInt16.toUInt32.toInt32)), (.ref b1), (.ref b1)])
  obtain ⟨_, _, ⟨T8, L8, k8, n8⟩, -, X8, ⟨Lc8, hQ8, l8, y8, z8⟩, st8⟩ := X6.specialBack hx (y := (⟨"com/example/shelfset/shelfset/Catalog$Function", "<init>", "(CZ)V"⟩ : MethodName)) rfl hown (mvT hZ (hw _ (List.mem_of_getElem? (i := 35) rfl))) (mvT hZ (hw _ (List.mem_of_getElem? (i := 6) rfl))) (mvT hZ (hw _ (List.mem_of_getElem? (i := 7) rfl))) (by decide) (backOf (W := 1) (rm1 l Z a0 hw [] b1 ((own_max w1 u1).toUInt32.toUInt16.toUInt32.toInt32) (if w2 = (0 : Int32) then (if u2 = (0 : Int32) then (0 : Int32) else (1 : Int32)) else (1 : Int32)) (0 : Int32) (0 : Int32) h1 n0 Z1 F_b1_volatility F_b1_returnsSets E_b1 g_b1) hZ (hw _ (List.mem_of_getElem? (i := 7) rfl)) (hw _ (List.mem_of_getElem? (i := 4) rfl)) (by decide) (by decide)) (g := (mkF m 35 #[.val (.ref a), .val (.ref b)] [(.int (if w2 = (0 : Int32) then (if u2 = (0 : Int32) then (0 : Int32) else (1 : Int32)) else (1 : Int32))), (.int ((own_max w1 u1).toUInt32.toUInt16.toUInt32.toInt32)), (.ref b1), (.ref b1)])) rfl (by rw [hml]; rfl) (Steps.refl _) (a := b1) (argsL := [(.int ((own_max w1 u1).toUInt32.toUInt16.toUInt32.toInt32)), (.int (if w2 = (0 : Int32) then (if u2 = (0 : Int32) then (0 : Int32) else (1 : Int32)) else (1 : Int32)))]) (rest := [(.ref b1)]) (lenOf own_pd2 rfl) rfl (by show 2 * 0 + _ ≤ _; exact Nat.le_of_eq rfl) (hb hby own_d5_35) (fun _ _ => ⟨rfl, e6, (by decide : 1 + 0 ≤ _), (by decide : 2 + 0 ≤ _)⟩)
  dsimp only [Pt.U, Pt.locs, Pt.cells, Pt.slots] at X8 l8 y8 z8 st8 hQ8
  subst l8 y8 z8
  obtain ⟨rfl, N8q, K8q, c8_0, c8_1, c8_2⟩ := hQ8
  have N8 := Fr.app N4 N8q
  obtain ⟨lc8, X8, N8⟩ : ∃ lc, Stand p l e ({ frames := 3, cells := 1, slots := 2, locals := 39 } : Room) s m #[(.ref a), (.ref b)] below meth c T8 lc 1 2 ∧ Fr n0 lc := ⟨_, X8, N8⟩
  have F_a_volatility := F_a_volatility.keep K8q (ninS ne_a_b1 nin0)
  have F_a_returnsSets := F_a_returnsSets.keep K8q (ninS ne_a_b1 nin0)
  have F_b_volatility := F_b_volatility.keep K8q (ninS ne_b_b1 nin0)
  have F_b_returnsSets := F_b_returnsSets.keep K8q (ninS ne_b_b1 nin0)
  have E_a := E_a.keep K8q
  have E_b := E_b.keep K8q
  have E_b1 := c8_0
  have F_b1_volatility := c8_1
  have F_b1_returnsSets := c8_2
  have K8 := K1.trans K8q (allS (Or.inr sz_b1) all0)
  have Z8 := Nat.le_trans Z1 K8q.1
  refine Go.tr st8 ?_
  show Go p e below Φ T8 (mkF m 38 #[.val (.ref a), .val (.ref b)] [(.ref b1)])
  rw [hΦ]
  refine Go.ret X8 hx Bd.notSynchronized Bd.returns rfl (Or.inr (Or.inr (Or.inr (Or.inr ⟨rfl, rfl, rfl⟩)))) (hb hby own_d5_38) (by decide) (by decide) ?_
  exact ⟨b1, rfl, N8, K8, sz_b1, E_b1, F_b1_volatility, F_b1_returnsSets⟩
def own_lv (k : Int32) : Int32 := if k = 0 then 105 else if k = 1 then 114 else if k = 2 then 115 else if k = 3 then 117 else 118
theorem own_five (i x : Int32) (hx : x = ((i &&& (2147483647 : Int32)) % (5 : Int32))) : x = 0 ∨ x = 1 ∨ x = 2 ∨ x = 3 ∨ x = 4 := by
  have m := c_mask i 2147483647 31 (by decide) (by decide)
  have r := (c_irem (i &&& 2147483647) 5 5 (by decide)).1 (by rw [m]; omega)
  rw [← hx, m] at r
  have k0 : (0 : Int32).toInt = 0 := by decide
  have k1 : (1 : Int32).toInt = 1 := by decide
  have k2 : (2 : Int32).toInt = 2 := by decide
  have k3 : (3 : Int32).toInt = 3 := by decide
  have k4 : (4 : Int32).toInt = 4 := by decide
  rw [← Int32.toInt_inj, ← Int32.toInt_inj, ← Int32.toInt_inj, ← Int32.toInt_inj, ← Int32.toInt_inj, k0, k1, k2, k3, k4]
  omega
theorem own_in5 {x : Int32} (h : x = 0 ∨ x = 1 ∨ x = 2 ∨ x = 3 ∨ x = 4) : ¬ x < 0 ∧ x < (5 : Int32) := by
  rcases h with rfl | rfl | rfl | rfl | rfl <;> decide
theorem own_at5 {x : Int32} (h : x = 0 ∨ x = 1 ∨ x = 2 ∨ x = 3 ∨ x = 4) : List.getD [Value.int (nar .char (105 : Int32)), .int (nar .char (114 : Int32)), .int (nar .char (115 : Int32)), .int (nar .char (117 : Int32)), .int (nar .char (118 : Int32))] x.toNatClampNeg (.int (0 : Int32)) = .int (own_lv x) := by
  rcases h with rfl | rfl | rfl | rfl | rfl <;> rfl
theorem own_fldI {t : Term} {args : Array Value} {s : State} {a : Addr} {C n d : String} {k : Int32} (ev : t.eval args s none [] s = some (.ref a)) (h : (Cond.eq (Term.field t C n d) (Term.int k)).value args s none s [] = some true) : Fld s s.heap a C n d (.int k) := by
  have q := Jvm.Free.NT.SwA.eq_int (Cond.before_iff.mpr h)
  rw [fld_at ev] at q
  exact Fld.start q
theorem own_all5 : ∀ a ∈ [(0 : Int32), 1, 2, 3, 4], ∀ b ∈ [(0 : Int32), 1, 2, 3, 4], own_reads (nar .char (own_lv a)) = (if a = 0 then 1 else 0) ∧ own_reads (nar .char ((own_max (nar .char (own_lv a)) (nar .char (own_lv b))).toUInt32.toUInt16.toUInt32.toInt32)) = (if own_reads (nar .char (own_lv a)) = (0 : Int32) then (0 : Int32) else (if own_reads (nar .char (own_lv b)) = (0 : Int32) then (0 : Int32) else (1 : Int32))) ∧ ¬ ((if own_reads (nar .char (own_lv a)) = (0 : Int32) then (1 : Int32) else (if (own_rep (nar .char (own_lv a))) = (0 : Int32) then (0 : Int32) else (if (own_may (nar .char (own_lv a))) = (0 : Int32) then (1 : Int32) else (0 : Int32)))) = (0 : Int32)) := by decide +kernel
theorem own_mem {x : Int32} (h : x = 0 ∨ x = 1 ∨ x = 2 ∨ x = 3 ∨ x = 4) : x ∈ [(0 : Int32), 1, 2, 3, 4] := by
  simp only [List.mem_cons, List.not_mem_nil, or_false]; exact h
theorem own_at158 (i0 : Int32) (i1 : Int32) (i2 : Int32) (sN : Addr) (sU : Addr) (x35 : Int32) (hx35 : x35 = ((i0 &&& (2147483647 : Int32)) % (5 : Int32))) (x43 : Int32) (hx43 : x43 = ((i1 &&& (2147483647 : Int32)) % (5 : Int32))) (v64 : Int32) (hv64 : v64 = (if (i2 &&& (1 : Int32)) = (0 : Int32) then (0 : Int32) else (1 : Int32))) (y9_volatility : Int32) (hy9_volatility : y9_volatility = (nar .char (own_lv x35))) (y9_returnsSets : Int32) (hy9_returnsSets : y9_returnsSets = (nar .boolean v64)) (v88 : Int32) (hv88 : v88 = (if (i2 &&& (2 : Int32)) = (0 : Int32) then (0 : Int32) else (1 : Int32))) (y12_volatility : Int32) (hy12_volatility : y12_volatility = (nar .char (own_lv x43))) (y12_returnsSets : Int32) (hy12_returnsSets : y12_returnsSets = (nar .boolean v88)) (x98 : Int32) (hx98 : x98 = (own_reads y9_volatility)) (x105 : Int32) (hx105 : x105 = (own_reads y12_volatility)) (y15_volatility : Int32) (hy15_volatility : y15_volatility = (nar .char ((own_max y9_volatility y12_volatility).toUInt32.toUInt16.toUInt32.toInt32))) (y15_returnsSets : Int32) (hy15_returnsSets : y15_returnsSets = (nar .boolean (if y9_returnsSets = (0 : Int32) then (if y12_returnsSets = (0 : Int32) then (0 : Int32) else (1 : Int32)) else (1 : Int32)))) (x117 : Int32) (hx117 : x117 = (own_reads y15_volatility)) (v154 : Int32) (hv154 : v154 = (if x35 = (0 : Int32) then (if x98 = (1 : Int32) then (if x43 = (0 : Int32) then (if x105 = (1 : Int32) then (1 : Int32) else (0 : Int32)) else (if x105 = (0 : Int32) then (1 : Int32) else (0 : Int32))) else (0 : Int32)) else (if x98 = (0 : Int32) then (if x43 = (0 : Int32) then (if x105 = (1 : Int32) then (1 : Int32) else (0 : Int32)) else (if x105 = (0 : Int32) then (1 : Int32) else (0 : Int32))) else (0 : Int32))))  : ¬ (v154 = (0 : Int32)) := by
  have ka := (own_all5 x35 (own_mem (own_five i0 x35 hx35)) x35 (own_mem (own_five i0 x35 hx35))).1
  have kb := (own_all5 x43 (own_mem (own_five i1 x43 hx43)) x43 (own_mem (own_five i1 x43 hx43))).1
  rw [← hy9_volatility, ← hx98] at ka
  rw [← hy12_volatility, ← hx105] at kb
  rw [hv154]
  by_cases h1 : x35 = (0 : Int32) <;> by_cases h2 : x43 = (0 : Int32) <;> simp only [h1, h2, if_true, if_false] at ka kb ⊢ <;> rw [ka, kb] <;> decide
theorem own_at190 (i0 : Int32) (i1 : Int32) (i2 : Int32) (sN : Addr) (sU : Addr) (x35 : Int32) (hx35 : x35 = ((i0 &&& (2147483647 : Int32)) % (5 : Int32))) (x43 : Int32) (hx43 : x43 = ((i1 &&& (2147483647 : Int32)) % (5 : Int32))) (v64 : Int32) (hv64 : v64 = (if (i2 &&& (1 : Int32)) = (0 : Int32) then (0 : Int32) else (1 : Int32))) (y9_volatility : Int32) (hy9_volatility : y9_volatility = (nar .char (own_lv x35))) (y9_returnsSets : Int32) (hy9_returnsSets : y9_returnsSets = (nar .boolean v64)) (v88 : Int32) (hv88 : v88 = (if (i2 &&& (2 : Int32)) = (0 : Int32) then (0 : Int32) else (1 : Int32))) (y12_volatility : Int32) (hy12_volatility : y12_volatility = (nar .char (own_lv x43))) (y12_returnsSets : Int32) (hy12_returnsSets : y12_returnsSets = (nar .boolean v88)) (x98 : Int32) (hx98 : x98 = (own_reads y9_volatility)) (x105 : Int32) (hx105 : x105 = (own_reads y12_volatility)) (y15_volatility : Int32) (hy15_volatility : y15_volatility = (nar .char ((own_max y9_volatility y12_volatility).toUInt32.toUInt16.toUInt32.toInt32))) (y15_returnsSets : Int32) (hy15_returnsSets : y15_returnsSets = (nar .boolean (if y9_returnsSets = (0 : Int32) then (if y12_returnsSets = (0 : Int32) then (0 : Int32) else (1 : Int32)) else (1 : Int32)))) (x117 : Int32) (hx117 : x117 = (own_reads y15_volatility)) (v154 : Int32) (hv154 : v154 = (if x35 = (0 : Int32) then (if x98 = (1 : Int32) then (if x43 = (0 : Int32) then (if x105 = (1 : Int32) then (1 : Int32) else (0 : Int32)) else (if x105 = (0 : Int32) then (1 : Int32) else (0 : Int32))) else (0 : Int32)) else (if x98 = (0 : Int32) then (if x43 = (0 : Int32) then (if x105 = (1 : Int32) then (1 : Int32) else (0 : Int32)) else (if x105 = (0 : Int32) then (1 : Int32) else (0 : Int32))) else (0 : Int32)))) (v178 : Int32) (hv178 : v178 = (if x98 = (0 : Int32) then (0 : Int32) else (if x105 = (0 : Int32) then (0 : Int32) else (1 : Int32)))) (v186 : Int32) (hv186 : v186 = (if x117 = v178 then (1 : Int32) else (0 : Int32)))  : ¬ (v186 = (0 : Int32)) := by
  have k := (own_all5 x35 (own_mem (own_five i0 x35 hx35)) x43 (own_mem (own_five i1 x43 hx43))).2.1
  rw [← hy9_volatility, ← hy12_volatility, ← hy15_volatility, ← hx117, ← hx98, ← hx105, ← hv178] at k
  rw [hv186, if_pos k]; decide
theorem own_at228 (i0 : Int32) (i1 : Int32) (i2 : Int32) (sN : Addr) (sU : Addr) (x35 : Int32) (hx35 : x35 = ((i0 &&& (2147483647 : Int32)) % (5 : Int32))) (x43 : Int32) (hx43 : x43 = ((i1 &&& (2147483647 : Int32)) % (5 : Int32))) (v64 : Int32) (hv64 : v64 = (if (i2 &&& (1 : Int32)) = (0 : Int32) then (0 : Int32) else (1 : Int32))) (y9_volatility : Int32) (hy9_volatility : y9_volatility = (nar .char (own_lv x35))) (y9_returnsSets : Int32) (hy9_returnsSets : y9_returnsSets = (nar .boolean v64)) (v88 : Int32) (hv88 : v88 = (if (i2 &&& (2 : Int32)) = (0 : Int32) then (0 : Int32) else (1 : Int32))) (y12_volatility : Int32) (hy12_volatility : y12_volatility = (nar .char (own_lv x43))) (y12_returnsSets : Int32) (hy12_returnsSets : y12_returnsSets = (nar .boolean v88)) (x98 : Int32) (hx98 : x98 = (own_reads y9_volatility)) (x105 : Int32) (hx105 : x105 = (own_reads y12_volatility)) (y15_volatility : Int32) (hy15_volatility : y15_volatility = (nar .char ((own_max y9_volatility y12_volatility).toUInt32.toUInt16.toUInt32.toInt32))) (y15_returnsSets : Int32) (hy15_returnsSets : y15_returnsSets = (nar .boolean (if y9_returnsSets = (0 : Int32) then (if y12_returnsSets = (0 : Int32) then (0 : Int32) else (1 : Int32)) else (1 : Int32)))) (x117 : Int32) (hx117 : x117 = (own_reads y15_volatility)) (v154 : Int32) (hv154 : v154 = (if x35 = (0 : Int32) then (if x98 = (1 : Int32) then (if x43 = (0 : Int32) then (if x105 = (1 : Int32) then (1 : Int32) else (0 : Int32)) else (if x105 = (0 : Int32) then (1 : Int32) else (0 : Int32))) else (0 : Int32)) else (if x98 = (0 : Int32) then (if x43 = (0 : Int32) then (if x105 = (1 : Int32) then (1 : Int32) else (0 : Int32)) else (if x105 = (0 : Int32) then (1 : Int32) else (0 : Int32))) else (0 : Int32)))) (v178 : Int32) (hv178 : v178 = (if x98 = (0 : Int32) then (0 : Int32) else (if x105 = (0 : Int32) then (0 : Int32) else (1 : Int32)))) (v186 : Int32) (hv186 : v186 = (if x117 = v178 then (1 : Int32) else (0 : Int32))) (v224 : Int32) (hv224 : v224 = (if x98 = (0 : Int32) then (1 : Int32) else (if (own_rep y9_volatility) = (0 : Int32) then (0 : Int32) else (if (own_may y9_volatility) = (0 : Int32) then (1 : Int32) else (0 : Int32)))))  : ¬ (v224 = (0 : Int32)) := by
  have k := (own_all5 x35 (own_mem (own_five i0 x35 hx35)) x43 (own_mem (own_five i1 x43 hx43))).2.2
  rw [← hy9_volatility, ← hx98, ← hv224] at k
  exact k
theorem own_plain (i0 : Int32) (i1 : Int32) (i2 : Int32) (sN : Addr) (sU : Addr) (x35 : Int32) (hx35 : x35 = ((i0 &&& (2147483647 : Int32)) % (5 : Int32))) (x43 : Int32) (hx43 : x43 = ((i1 &&& (2147483647 : Int32)) % (5 : Int32))) (v64 : Int32) (hv64 : v64 = (if (i2 &&& (1 : Int32)) = (0 : Int32) then (0 : Int32) else (1 : Int32))) (y9_volatility : Int32) (hy9_volatility : y9_volatility = (nar .char (own_lv x35))) (y9_returnsSets : Int32) (hy9_returnsSets : y9_returnsSets = (nar .boolean v64)) (v88 : Int32) (hv88 : v88 = (if (i2 &&& (2 : Int32)) = (0 : Int32) then (0 : Int32) else (1 : Int32))) (y12_volatility : Int32) (hy12_volatility : y12_volatility = (nar .char (own_lv x43))) (y12_returnsSets : Int32) (hy12_returnsSets : y12_returnsSets = (nar .boolean v88)) (x98 : Int32) (hx98 : x98 = (own_reads y9_volatility)) (x105 : Int32) (hx105 : x105 = (own_reads y12_volatility)) (y15_volatility : Int32) (hy15_volatility : y15_volatility = (nar .char ((own_max y9_volatility y12_volatility).toUInt32.toUInt16.toUInt32.toInt32))) (y15_returnsSets : Int32) (hy15_returnsSets : y15_returnsSets = (nar .boolean (if y9_returnsSets = (0 : Int32) then (if y12_returnsSets = (0 : Int32) then (0 : Int32) else (1 : Int32)) else (1 : Int32)))) (x117 : Int32) (hx117 : x117 = (own_reads y15_volatility)) (v154 : Int32) (hv154 : v154 = (if x35 = (0 : Int32) then (if x98 = (1 : Int32) then (if x43 = (0 : Int32) then (if x105 = (1 : Int32) then (1 : Int32) else (0 : Int32)) else (if x105 = (0 : Int32) then (1 : Int32) else (0 : Int32))) else (0 : Int32)) else (if x98 = (0 : Int32) then (if x43 = (0 : Int32) then (if x105 = (1 : Int32) then (1 : Int32) else (0 : Int32)) else (if x105 = (0 : Int32) then (1 : Int32) else (0 : Int32))) else (0 : Int32)))) (v178 : Int32) (hv178 : v178 = (if x98 = (0 : Int32) then (0 : Int32) else (if x105 = (0 : Int32) then (0 : Int32) else (1 : Int32)))) (v186 : Int32) (hv186 : v186 = (if x117 = v178 then (1 : Int32) else (0 : Int32))) (v224 : Int32) (hv224 : v224 = (if x98 = (0 : Int32) then (1 : Int32) else (if (own_rep y9_volatility) = (0 : Int32) then (0 : Int32) else (if (own_may y9_volatility) = (0 : Int32) then (1 : Int32) else (0 : Int32))))) (v254 : Int32) (hv254 : v254 = (if (own_reads (105 : Int32)) = (0 : Int32) then (0 : Int32) else (if (own_reads (118 : Int32)) = (0 : Int32) then (1 : Int32) else (0 : Int32))))  : v254 = (1 : Int32) := by
  rw [hv254]; decide
theorem own_ef0 (m : MethodId) (i0 : Int32) (i1 : Int32) (i2 : Int32) : entryFrame m #[(.int i0), (.int i1), (.int i2)] maxLocals = mkF m 0 #[.val (.int i0), .val (.int i1), .val (.int i2), .unset, .unset, .unset, .unset, .unset, .unset, .unset, .unset, .unset] [] := by first | (simp [entryFrame, mkF, argsToLocals, Value.category, maxLocals]; done) | rfl
def Q0 (Z : State) (i0 : Int32) (i1 : Int32) (i2 : Int32) (sN : Addr) (sU : Addr) (h0 : Heap) (n0 : Nat) (vr : Option Value) (hr : Heap) (Lr : List Loc) : Prop := vr = some (.int 1) ∧ Fr n0 Lr
set_option maxRecDepth 65536 in
set_option maxHeartbeats 40000000 in
theorem rm0 (l : Launch) (Z : State) (a0 : Array Value) (hw : ∀ d ∈ tables_1, d.before a0 Z = true) (ws : List Jvm.Cond) (i0 : Int32) (i1 : Int32) (i2 : Int32) (sN : Addr) (sU : Addr) (h0 : Heap) (n0 : Nat) (Z0 : n0 ≤ h0.size) (O0 : Old Z n0 h0) (S_NONE : Sta Z Z.heap "com/example/shelfset/shelfset/Catalog$Function" "NONE" "Lcom/example/shelfset/shelfset/Catalog$Function;" (.ref sN)) (S_UNKNOWN : Sta Z Z.heap "com/example/shelfset/shelfset/Catalog$Function" "UNKNOWN" "Lcom/example/shelfset/shelfset/Catalog$Function;" (.ref sU)) (E_sN : Exa Z Z.heap sN "com/example/shelfset/shelfset/Catalog$Function") (E_sU : Exa Z Z.heap sU "com/example/shelfset/shelfset/Catalog$Function") (F_sN_volatility : Fld Z Z.heap sN "com/example/shelfset/shelfset/Catalog$Function" "volatility" "C" (.int (105 : Int32))) (F_sU_volatility : Fld Z Z.heap sU "com/example/shelfset/shelfset/Catalog$Function" "volatility" "C" (.int (118 : Int32))) :
    MetFree l x (head1 (Jvm.Cond.code x code maxLocals ret :: ws) room_1) (fun aQ UQ => aQ = #[(.int i0), (.int i1), (.int i2)] ∧ Z.Warmed39 UQ.vm ∧ UQ.heap = h0) (fun _ _ _ _ _ => True) (fun _ UQ oQ VQ => ∃ vQ LQ, oQ = .returned vQ ∧ Q0 Z i0 i1 i2 sN sU h0 n0 vQ VQ.heap LQ ∧ FrameEnd UQ oQ VQ LQ 16 128) := by
  refine MetFree.of_bodySF (plainFor_of_name own_pn2) hisR ?_
  intro p e s m args below meth c s₁ Bd hml0 hP hK
  obtain ⟨rfl, hZ, hh⟩ := hP
  have hx := Bd.exec
  have hby := Bd.bytes
  have hml : c.maxLocals = 12 := hml0
  have hown : s.vm.findClass "com/example/shelfset/shelfset/CatalogReadsNothingPinLaw" = some m.cls := findClass_of_methodNamed Bd.named
  have hnm := (name_of_methodNamed Bd.named Bd.method).1
  have X0 : Stand p l e room_1 s m #[(.int i0), (.int i1), (.int i2)] below meth c s₁ [] 0 0 := Stand.of_body Bd
  have e0 : s₁.heap = h0 := by rw [← hh, Bd.state]; rfl
  have N0 := Fr.nil n0
  show Go p e below (EndQ s below (Q0 Z i0 i1 i2 sN sU h0 n0) 16 128) s₁ (entryFrame m #[(.int i0), (.int i1), (.int i2)] maxLocals)
  obtain ⟨Φ, hΦ⟩ : ∃ Φ, Φ = EndQ s below (Q0 Z i0 i1 i2 sN sU h0 n0) 16 128 := ⟨_, rfl⟩
  rw [← hΦ, own_ef0]
  show Go p e below Φ s₁ (mkF m 0 #[.val (.int i0), .val (.int i1), .val (.int i2), .unset, .unset, .unset, .unset, .unset, .unset, .unset, .unset, .unset] [])
  refine Go.of (fun t k => XS.iconst X0.here hx rfl (hb hby at_0) k) ?_
  show Go p e below Φ s₁ (mkF m 1 #[.val (.int i0), .val (.int i1), .val (.int i2), .unset, .unset, .unset, .unset, .unset, .unset, .unset, .unset, .unset] [(.int (5 : Int32))])
  obtain ⟨T1, h1, k1, X1, e1, E1, A1, st1⟩ := newP X0 hx hZ (hw _ (List.mem_of_getElem? (i := 0) rfl)) e0 (g := (mkF m 1 #[.val (.int i0), .val (.int i1), .val (.int i2), .unset, .unset, .unset, .unset, .unset, .unset, .unset, .unset, .unset] [(.int (5 : Int32))])) rfl (hb hby at_1) rfl (by decide) (cap := 5) (by decide) (by decide) (by decide) (by decide)
  obtain ⟨b1, g1⟩ : ∃ z, z = h0.size := ⟨_, rfl⟩
  rw [← g1] at A1 st1
  have g_b1 : n0 ≤ b1 := Nat.le_trans Z0 (Nat.le_of_eq g1.symm)
  have Z1 := Nat.le_trans Z0 E1.1
  have O1 := O0.ext E1
  have V_b1 : Arv Z h1 b1 k1 .char (5 : Int32) [(.int (0 : Int32)), (.int (0 : Int32)), (.int (0 : Int32)), (.int (0 : Int32)), (.int (0 : Int32))] (.int (0 : Int32)) := (Arv.new A1 (by decide)).pad (pad_rep [] (.int (0 : Int32)) 5)
  refine Go.of st1 ?_
  show Go p e below Φ T1 (mkF m 3 #[.val (.int i0), .val (.int i1), .val (.int i2), .unset, .unset, .unset, .unset, .unset, .unset, .unset, .unset, .unset] [(.ref b1)])
  refine Go.of (fun t k => XS.dup X1.here hx rfl (hb hby at_3) rfl rfl k) ?_
  show Go p e below Φ T1 (mkF m 4 #[.val (.int i0), .val (.int i1), .val (.int i2), .unset, .unset, .unset, .unset, .unset, .unset, .unset, .unset, .unset] [(.ref b1), (.ref b1)])
  refine Go.of (fun t k => XS.iconst X1.here hx rfl (hb hby at_4) k) ?_
  show Go p e below Φ T1 (mkF m 5 #[.val (.int i0), .val (.int i1), .val (.int i2), .unset, .unset, .unset, .unset, .unset, .unset, .unset, .unset, .unset] [(.int (0 : Int32)), (.ref b1), (.ref b1)])
  refine Go.of (fun t k => XS.bipush X1.here hx rfl (hb hby at_5) k) ?_
  show Go p e below Φ T1 (mkF m 7 #[.val (.int i0), .val (.int i1), .val (.int i2), .unset, .unset, .unset, .unset, .unset, .unset, .unset, .unset, .unset] [(.int (105 : Int32)), (.int (0 : Int32)), (.ref b1), (.ref b1)])
  obtain ⟨cl7, Ar7, q7, S7, N7, H7, G7⟩ := id V_b1
  have hin7 : ¬ ((0 : Int32) < 0 ∨ cl7.slots.size ≤ ((0 : Int32)).toNatClampNeg) := inb_of S7 ⟨by decide, by decide⟩
  obtain ⟨T2, h2, X2, e2, W2, st2⟩ := stC X1 hx hZ e1 Ar7 (j := (0 : Int32)) hin7 (g := (mkF m 7 #[.val (.int i0), .val (.int i1), .val (.int i2), .unset, .unset, .unset, .unset, .unset, .unset, .unset, .unset, .unset] [(.int (105 : Int32)), (.int (0 : Int32)), (.ref b1), (.ref b1)])) rfl rfl (hb hby at_7)
  have V_b1 : Arv Z h2 b1 k1 .char (5 : Int32) [(.int (nar .char (105 : Int32))), (.int (0 : Int32)), (.int (0 : Int32)), (.int (0 : Int32)), (.int (0 : Int32))] (.int (0 : Int32)) := Arv.set Ar7 q7 S7 N7 H7 G7 (fits_nar_char _) W2 0 rfl (Nat.le_of_ble_eq_true rfl)
  have N2 := Fr.snoc X2 N0 g_b1
  have Z2 := Nat.le_trans Z1 (Keep.of_wr W2).1
  have O2 := O1.wr W2 g_b1
  obtain ⟨lc2, X2, N2⟩ : ∃ lc, Stand p l e room_1 s m #[(.int i0), (.int i1), (.int i2)] below meth c T2 lc 1 5 ∧ Fr n0 lc := ⟨_, X2, N2⟩
  refine Go.of st2 ?_
  show Go p e below Φ T2 (mkF m 8 #[.val (.int i0), .val (.int i1), .val (.int i2), .unset, .unset, .unset, .unset, .unset, .unset, .unset, .unset, .unset] [(.ref b1)])
  refine Go.of (fun t k => XS.dup X2.here hx rfl (hb hby at_8) rfl rfl k) ?_
  show Go p e below Φ T2 (mkF m 9 #[.val (.int i0), .val (.int i1), .val (.int i2), .unset, .unset, .unset, .unset, .unset, .unset, .unset, .unset, .unset] [(.ref b1), (.ref b1)])
  refine Go.of (fun t k => XS.iconst X2.here hx rfl (hb hby at_9) k) ?_
  show Go p e below Φ T2 (mkF m 10 #[.val (.int i0), .val (.int i1), .val (.int i2), .unset, .unset, .unset, .unset, .unset, .unset, .unset, .unset, .unset] [(.int (1 : Int32)), (.ref b1), (.ref b1)])
  refine Go.of (fun t k => XS.bipush X2.here hx rfl (hb hby at_10) k) ?_
  show Go p e below Φ T2 (mkF m 12 #[.val (.int i0), .val (.int i1), .val (.int i2), .unset, .unset, .unset, .unset, .unset, .unset, .unset, .unset, .unset] [(.int (114 : Int32)), (.int (1 : Int32)), (.ref b1), (.ref b1)])
  obtain ⟨cl12, Ar12, q12, S12, N12, H12, G12⟩ := id V_b1
  have hin12 : ¬ ((1 : Int32) < 0 ∨ cl12.slots.size ≤ ((1 : Int32)).toNatClampNeg) := inb_of S12 ⟨by decide, by decide⟩
  obtain ⟨T3, h3, X3, e3, W3, st3⟩ := stC X2 hx hZ e2 Ar12 (j := (1 : Int32)) hin12 (g := (mkF m 12 #[.val (.int i0), .val (.int i1), .val (.int i2), .unset, .unset, .unset, .unset, .unset, .unset, .unset, .unset, .unset] [(.int (114 : Int32)), (.int (1 : Int32)), (.ref b1), (.ref b1)])) rfl rfl (hb hby at_12)
  have V_b1 : Arv Z h3 b1 k1 .char (5 : Int32) [(.int (nar .char (105 : Int32))), (.int (nar .char (114 : Int32))), (.int (0 : Int32)), (.int (0 : Int32)), (.int (0 : Int32))] (.int (0 : Int32)) := Arv.set Ar12 q12 S12 N12 H12 G12 (fits_nar_char _) W3 1 rfl (Nat.le_of_ble_eq_true rfl)
  have N3 := Fr.snoc X3 N2 g_b1
  have Z3 := Nat.le_trans Z2 (Keep.of_wr W3).1
  have O3 := O2.wr W3 g_b1
  obtain ⟨lc3, X3, N3⟩ : ∃ lc, Stand p l e room_1 s m #[(.int i0), (.int i1), (.int i2)] below meth c T3 lc 1 5 ∧ Fr n0 lc := ⟨_, X3, N3⟩
  refine Go.of st3 ?_
  show Go p e below Φ T3 (mkF m 13 #[.val (.int i0), .val (.int i1), .val (.int i2), .unset, .unset, .unset, .unset, .unset, .unset, .unset, .unset, .unset] [(.ref b1)])
  refine Go.of (fun t k => XS.dup X3.here hx rfl (hb hby at_13) rfl rfl k) ?_
  show Go p e below Φ T3 (mkF m 14 #[.val (.int i0), .val (.int i1), .val (.int i2), .unset, .unset, .unset, .unset, .unset, .unset, .unset, .unset, .unset] [(.ref b1), (.ref b1)])
  refine Go.of (fun t k => XS.iconst X3.here hx rfl (hb hby at_14) k) ?_
  show Go p e below Φ T3 (mkF m 15 #[.val (.int i0), .val (.int i1), .val (.int i2), .unset, .unset, .unset, .unset, .unset, .unset, .unset, .unset, .unset] [(.int (2 : Int32)), (.ref b1), (.ref b1)])
  refine Go.of (fun t k => XS.bipush X3.here hx rfl (hb hby at_15) k) ?_
  show Go p e below Φ T3 (mkF m 17 #[.val (.int i0), .val (.int i1), .val (.int i2), .unset, .unset, .unset, .unset, .unset, .unset, .unset, .unset, .unset] [(.int (115 : Int32)), (.int (2 : Int32)), (.ref b1), (.ref b1)])
  obtain ⟨cl17, Ar17, q17, S17, N17, H17, G17⟩ := id V_b1
  have hin17 : ¬ ((2 : Int32) < 0 ∨ cl17.slots.size ≤ ((2 : Int32)).toNatClampNeg) := inb_of S17 ⟨by decide, by decide⟩
  obtain ⟨T4, h4, X4, e4, W4, st4⟩ := stC X3 hx hZ e3 Ar17 (j := (2 : Int32)) hin17 (g := (mkF m 17 #[.val (.int i0), .val (.int i1), .val (.int i2), .unset, .unset, .unset, .unset, .unset, .unset, .unset, .unset, .unset] [(.int (115 : Int32)), (.int (2 : Int32)), (.ref b1), (.ref b1)])) rfl rfl (hb hby at_17)
  have V_b1 : Arv Z h4 b1 k1 .char (5 : Int32) [(.int (nar .char (105 : Int32))), (.int (nar .char (114 : Int32))), (.int (nar .char (115 : Int32))), (.int (0 : Int32)), (.int (0 : Int32))] (.int (0 : Int32)) := Arv.set Ar17 q17 S17 N17 H17 G17 (fits_nar_char _) W4 2 rfl (Nat.le_of_ble_eq_true rfl)
  have N4 := Fr.snoc X4 N3 g_b1
  have Z4 := Nat.le_trans Z3 (Keep.of_wr W4).1
  have O4 := O3.wr W4 g_b1
  obtain ⟨lc4, X4, N4⟩ : ∃ lc, Stand p l e room_1 s m #[(.int i0), (.int i1), (.int i2)] below meth c T4 lc 1 5 ∧ Fr n0 lc := ⟨_, X4, N4⟩
  refine Go.of st4 ?_
  show Go p e below Φ T4 (mkF m 18 #[.val (.int i0), .val (.int i1), .val (.int i2), .unset, .unset, .unset, .unset, .unset, .unset, .unset, .unset, .unset] [(.ref b1)])
  refine Go.of (fun t k => XS.dup X4.here hx rfl (hb hby at_18) rfl rfl k) ?_
  show Go p e below Φ T4 (mkF m 19 #[.val (.int i0), .val (.int i1), .val (.int i2), .unset, .unset, .unset, .unset, .unset, .unset, .unset, .unset, .unset] [(.ref b1), (.ref b1)])
  refine Go.of (fun t k => XS.iconst X4.here hx rfl (hb hby at_19) k) ?_
  show Go p e below Φ T4 (mkF m 20 #[.val (.int i0), .val (.int i1), .val (.int i2), .unset, .unset, .unset, .unset, .unset, .unset, .unset, .unset, .unset] [(.int (3 : Int32)), (.ref b1), (.ref b1)])
  refine Go.of (fun t k => XS.bipush X4.here hx rfl (hb hby at_20) k) ?_
  show Go p e below Φ T4 (mkF m 22 #[.val (.int i0), .val (.int i1), .val (.int i2), .unset, .unset, .unset, .unset, .unset, .unset, .unset, .unset, .unset] [(.int (117 : Int32)), (.int (3 : Int32)), (.ref b1), (.ref b1)])
  obtain ⟨cl22, Ar22, q22, S22, N22, H22, G22⟩ := id V_b1
  have hin22 : ¬ ((3 : Int32) < 0 ∨ cl22.slots.size ≤ ((3 : Int32)).toNatClampNeg) := inb_of S22 ⟨by decide, by decide⟩
  obtain ⟨T5, h5, X5, e5, W5, st5⟩ := stC X4 hx hZ e4 Ar22 (j := (3 : Int32)) hin22 (g := (mkF m 22 #[.val (.int i0), .val (.int i1), .val (.int i2), .unset, .unset, .unset, .unset, .unset, .unset, .unset, .unset, .unset] [(.int (117 : Int32)), (.int (3 : Int32)), (.ref b1), (.ref b1)])) rfl rfl (hb hby at_22)
  have V_b1 : Arv Z h5 b1 k1 .char (5 : Int32) [(.int (nar .char (105 : Int32))), (.int (nar .char (114 : Int32))), (.int (nar .char (115 : Int32))), (.int (nar .char (117 : Int32))), (.int (0 : Int32))] (.int (0 : Int32)) := Arv.set Ar22 q22 S22 N22 H22 G22 (fits_nar_char _) W5 3 rfl (Nat.le_of_ble_eq_true rfl)
  have N5 := Fr.snoc X5 N4 g_b1
  have Z5 := Nat.le_trans Z4 (Keep.of_wr W5).1
  have O5 := O4.wr W5 g_b1
  obtain ⟨lc5, X5, N5⟩ : ∃ lc, Stand p l e room_1 s m #[(.int i0), (.int i1), (.int i2)] below meth c T5 lc 1 5 ∧ Fr n0 lc := ⟨_, X5, N5⟩
  refine Go.of st5 ?_
  show Go p e below Φ T5 (mkF m 23 #[.val (.int i0), .val (.int i1), .val (.int i2), .unset, .unset, .unset, .unset, .unset, .unset, .unset, .unset, .unset] [(.ref b1)])
  refine Go.of (fun t k => XS.dup X5.here hx rfl (hb hby at_23) rfl rfl k) ?_
  show Go p e below Φ T5 (mkF m 24 #[.val (.int i0), .val (.int i1), .val (.int i2), .unset, .unset, .unset, .unset, .unset, .unset, .unset, .unset, .unset] [(.ref b1), (.ref b1)])
  refine Go.of (fun t k => XS.iconst X5.here hx rfl (hb hby at_24) k) ?_
  show Go p e below Φ T5 (mkF m 25 #[.val (.int i0), .val (.int i1), .val (.int i2), .unset, .unset, .unset, .unset, .unset, .unset, .unset, .unset, .unset] [(.int (4 : Int32)), (.ref b1), (.ref b1)])
  refine Go.of (fun t k => XS.bipush X5.here hx rfl (hb hby at_25) k) ?_
  show Go p e below Φ T5 (mkF m 27 #[.val (.int i0), .val (.int i1), .val (.int i2), .unset, .unset, .unset, .unset, .unset, .unset, .unset, .unset, .unset] [(.int (118 : Int32)), (.int (4 : Int32)), (.ref b1), (.ref b1)])
  obtain ⟨cl27, Ar27, q27, S27, N27, H27, G27⟩ := id V_b1
  have hin27 : ¬ ((4 : Int32) < 0 ∨ cl27.slots.size ≤ ((4 : Int32)).toNatClampNeg) := inb_of S27 ⟨by decide, by decide⟩
  obtain ⟨T6, h6, X6, e6, W6, st6⟩ := stC X5 hx hZ e5 Ar27 (j := (4 : Int32)) hin27 (g := (mkF m 27 #[.val (.int i0), .val (.int i1), .val (.int i2), .unset, .unset, .unset, .unset, .unset, .unset, .unset, .unset, .unset] [(.int (118 : Int32)), (.int (4 : Int32)), (.ref b1), (.ref b1)])) rfl rfl (hb hby at_27)
  have V_b1 : Arv Z h6 b1 k1 .char (5 : Int32) [(.int (nar .char (105 : Int32))), (.int (nar .char (114 : Int32))), (.int (nar .char (115 : Int32))), (.int (nar .char (117 : Int32))), (.int (nar .char (118 : Int32)))] (.int (0 : Int32)) := Arv.set Ar27 q27 S27 N27 H27 G27 (fits_nar_char _) W6 4 rfl (Nat.le_of_ble_eq_true rfl)
  have N6 := Fr.snoc X6 N5 g_b1
  have Z6 := Nat.le_trans Z5 (Keep.of_wr W6).1
  have O6 := O5.wr W6 g_b1
  obtain ⟨lc6, X6, N6⟩ : ∃ lc, Stand p l e room_1 s m #[(.int i0), (.int i1), (.int i2)] below meth c T6 lc 1 5 ∧ Fr n0 lc := ⟨_, X6, N6⟩
  refine Go.of st6 ?_
  show Go p e below Φ T6 (mkF m 28 #[.val (.int i0), .val (.int i1), .val (.int i2), .unset, .unset, .unset, .unset, .unset, .unset, .unset, .unset, .unset] [(.ref b1)])
  refine Go.of (fun t k => XS.astoreN X6.here hx rfl (hb hby at_28) rfl rfl (l' := #[.val (.int i0), .val (.int i1), .val (.int i2), .val (.ref b1), .unset, .unset, .unset, .unset, .unset, .unset, .unset, .unset]) rfl k) ?_
  show Go p e below Φ T6 (mkF m 29 #[.val (.int i0), .val (.int i1), .val (.int i2), .val (.ref b1), .unset, .unset, .unset, .unset, .unset, .unset, .unset, .unset] [])
  refine Go.of (fun t k => XS.iloadN X6.here hx rfl (hb hby at_29) rfl  k) ?_
  show Go p e below Φ T6 (mkF m 30 #[.val (.int i0), .val (.int i1), .val (.int i2), .val (.ref b1), .unset, .unset, .unset, .unset, .unset, .unset, .unset, .unset] [(.int i0)])
  refine Go.of (fun t k => X6.ldcInt hx hown (mvT hZ (hw _ (List.mem_of_getElem? (i := 1) rfl))) (g := (mkF m 30 #[.val (.int i0), .val (.int i1), .val (.int i2), .val (.ref b1), .unset, .unset, .unset, .unset, .unset, .unset, .unset, .unset] [(.int i0)])) rfl (hb hby at_30) t k) ?_
  show Go p e below Φ T6 (mkF m 32 #[.val (.int i0), .val (.int i1), .val (.int i2), .val (.ref b1), .unset, .unset, .unset, .unset, .unset, .unset, .unset, .unset] [(.int (2147483647 : Int32)), (.int i0)])
  refine Go.of (fun t k => XS.iand X6.here hx rfl (hb hby at_32) rfl k) ?_
  show Go p e below Φ T6 (mkF m 33 #[.val (.int i0), .val (.int i1), .val (.int i2), .val (.ref b1), .unset, .unset, .unset, .unset, .unset, .unset, .unset, .unset] [(.int (i0 &&& (2147483647 : Int32)))])
  refine Go.of (fun t k => XS.iconst X6.here hx rfl (hb hby at_33) k) ?_
  show Go p e below Φ T6 (mkF m 34 #[.val (.int i0), .val (.int i1), .val (.int i2), .val (.ref b1), .unset, .unset, .unset, .unset, .unset, .unset, .unset, .unset] [(.int (5 : Int32)), (.int (i0 &&& (2147483647 : Int32)))])
  refine Go.of (fun t k => iremM X6 hx rfl (hb hby at_34) rfl (by decide) k) ?_
  show Go p e below Φ T6 (mkF m 35 #[.val (.int i0), .val (.int i1), .val (.int i2), .val (.ref b1), .unset, .unset, .unset, .unset, .unset, .unset, .unset, .unset] [(.int ((i0 &&& (2147483647 : Int32)) % (5 : Int32)))])
  obtain ⟨x35, hx35⟩ : ∃ z : Int32, z = ((i0 &&& (2147483647 : Int32)) % (5 : Int32)) := ⟨_, rfl⟩
  rw [← hx35]
  refine Go.of (fun t k => XS.istore X6.here hx rfl (hb hby at_35) rfl (l' := #[.val (.int i0), .val (.int i1), .val (.int i2), .val (.ref b1), .val (.int x35), .unset, .unset, .unset, .unset, .unset, .unset, .unset]) rfl k) ?_
  show Go p e below Φ T6 (mkF m 37 #[.val (.int i0), .val (.int i1), .val (.int i2), .val (.ref b1), .val (.int x35), .unset, .unset, .unset, .unset, .unset, .unset, .unset] [])
  refine Go.of (fun t k => XS.iloadN X6.here hx rfl (hb hby at_37) rfl  k) ?_
  show Go p e below Φ T6 (mkF m 38 #[.val (.int i0), .val (.int i1), .val (.int i2), .val (.ref b1), .val (.int x35), .unset, .unset, .unset, .unset, .unset, .unset, .unset] [(.int i1)])
  refine Go.of (fun t k => X6.ldcInt hx hown (mvT hZ (hw _ (List.mem_of_getElem? (i := 1) rfl))) (g := (mkF m 38 #[.val (.int i0), .val (.int i1), .val (.int i2), .val (.ref b1), .val (.int x35), .unset, .unset, .unset, .unset, .unset, .unset, .unset] [(.int i1)])) rfl (hb hby at_38) t k) ?_
  show Go p e below Φ T6 (mkF m 40 #[.val (.int i0), .val (.int i1), .val (.int i2), .val (.ref b1), .val (.int x35), .unset, .unset, .unset, .unset, .unset, .unset, .unset] [(.int (2147483647 : Int32)), (.int i1)])
  refine Go.of (fun t k => XS.iand X6.here hx rfl (hb hby at_40) rfl k) ?_
  show Go p e below Φ T6 (mkF m 41 #[.val (.int i0), .val (.int i1), .val (.int i2), .val (.ref b1), .val (.int x35), .unset, .unset, .unset, .unset, .unset, .unset, .unset] [(.int (i1 &&& (2147483647 : Int32)))])
  refine Go.of (fun t k => XS.iconst X6.here hx rfl (hb hby at_41) k) ?_
  show Go p e below Φ T6 (mkF m 42 #[.val (.int i0), .val (.int i1), .val (.int i2), .val (.ref b1), .val (.int x35), .unset, .unset, .unset, .unset, .unset, .unset, .unset] [(.int (5 : Int32)), (.int (i1 &&& (2147483647 : Int32)))])
  refine Go.of (fun t k => iremM X6 hx rfl (hb hby at_42) rfl (by decide) k) ?_
  show Go p e below Φ T6 (mkF m 43 #[.val (.int i0), .val (.int i1), .val (.int i2), .val (.ref b1), .val (.int x35), .unset, .unset, .unset, .unset, .unset, .unset, .unset] [(.int ((i1 &&& (2147483647 : Int32)) % (5 : Int32)))])
  obtain ⟨x43, hx43⟩ : ∃ z : Int32, z = ((i1 &&& (2147483647 : Int32)) % (5 : Int32)) := ⟨_, rfl⟩
  rw [← hx43]
  refine Go.of (fun t k => XS.istore X6.here hx rfl (hb hby at_43) rfl (l' := #[.val (.int i0), .val (.int i1), .val (.int i2), .val (.ref b1), .val (.int x35), .val (.int x43), .unset, .unset, .unset, .unset, .unset, .unset]) rfl k) ?_
  show Go p e below Φ T6 (mkF m 45 #[.val (.int i0), .val (.int i1), .val (.int i2), .val (.ref b1), .val (.int x35), .val (.int x43), .unset, .unset, .unset, .unset, .unset, .unset] [])
  obtain ⟨T7, h7, X7, e7, E7, A7, D7, -, st7⟩ := newO X6 hx hZ hown (hw _ (List.mem_of_getElem? (i := 2) rfl)) (hw _ (List.mem_of_getElem? (i := 3) rfl)) (hw _ (List.mem_of_getElem? (i := 4) rfl)) e6 (g := (mkF m 45 #[.val (.int i0), .val (.int i1), .val (.int i2), .val (.ref b1), .val (.int x35), .val (.int x43), .unset, .unset, .unset, .unset, .unset, .unset] [])) rfl (hb hby at_45) (by decide) (by decide)
  obtain ⟨b7, g7⟩ : ∃ z, z = h6.size := ⟨_, rfl⟩
  rw [← g7] at A7 D7 st7
  have ne_b1_b7 : b1 ≠ b7 := Nat.ne_of_lt (Nat.lt_of_lt_of_le V_b1.lt (Nat.le_of_eq g7.symm))
  have g_b7 : n0 ≤ b7 := Nat.le_trans Z6 (Nat.le_of_eq g7.symm)
  have Z7 := Nat.le_trans Z6 E7.1
  have O7 := O6.ext E7
  have V_b1 := V_b1.ext E7
  have E_b7 := A7
  have F_b7_volatility : Fld Z h7 b7 "com/example/shelfset/shelfset/Catalog$Function" "volatility" "C" (.int (0 : Int32)) := D7 (Or.inr (hw _ (List.mem_of_getElem? (i := 17) rfl))) (ty := .char) (by decide)
  have F_b7_returnsSets : Fld Z h7 b7 "com/example/shelfset/shelfset/Catalog$Function" "returnsSets" "Z" (.int (0 : Int32)) := D7 (Or.inr (hw _ (List.mem_of_getElem? (i := 19) rfl))) (ty := .boolean) (by decide)
  refine Go.of st7 ?_
  show Go p e below Φ T7 (mkF m 48 #[.val (.int i0), .val (.int i1), .val (.int i2), .val (.ref b1), .val (.int x35), .val (.int x43), .unset, .unset, .unset, .unset, .unset, .unset] [(.ref b7)])
  refine Go.of (fun t k => XS.dup X7.here hx rfl (hb hby at_48) rfl rfl k) ?_
  show Go p e below Φ T7 (mkF m 49 #[.val (.int i0), .val (.int i1), .val (.int i2), .val (.ref b1), .val (.int x35), .val (.int x43), .unset, .unset, .unset, .unset, .unset, .unset] [(.ref b7), (.ref b7)])
  refine Go.of (fun t k => XS.aloadN X7.here hx rfl (hb hby at_49) rfl rfl  k) ?_
  show Go p e below Φ T7 (mkF m 50 #[.val (.int i0), .val (.int i1), .val (.int i2), .val (.ref b1), .val (.int x35), .val (.int x43), .unset, .unset, .unset, .unset, .unset, .unset] [(.ref b1), (.ref b7), (.ref b7)])
  refine Go.of (fun t k => XS.iload X7.here hx rfl (hb hby at_50) rfl  k) ?_
  show Go p e below Φ T7 (mkF m 52 #[.val (.int i0), .val (.int i1), .val (.int i2), .val (.ref b1), .val (.int x35), .val (.int x43), .unset, .unset, .unset, .unset, .unset, .unset] [(.int x35), (.ref b1), (.ref b7), (.ref b7)])
  obtain ⟨cl52, Ar52, q52, S52, N52, H52, G52⟩ := id V_b1
  have hin52 : ¬ (x35 < 0 ∨ cl52.slots.size ≤ (x35).toNatClampNeg) := inb_of S52 (own_in5 (own_five i0 x35 hx35))
  have hat52 : cl52.slots[(x35).toNatClampNeg]? = some (.int (own_lv x35)) := H52.at hin52 (own_at5 (own_five i0 x35 hx35))
  refine Go.of (fun t k => X7.caload hx (j := x35) (v := (.int (own_lv x35))) (by rw [e7]; exact Ar52.1) (State.isArrayOf_alike hZ.alike Ar52.2.1) Ar52.2.2 hin52 hat52 (g := (mkF m 52 #[.val (.int i0), .val (.int i1), .val (.int i2), .val (.ref b1), .val (.int x35), .val (.int x43), .unset, .unset, .unset, .unset, .unset, .unset] [(.int x35), (.ref b1), (.ref b7), (.ref b7)])) rfl rfl (hb hby at_52) t k) ?_
  show Go p e below Φ T7 (mkF m 53 #[.val (.int i0), .val (.int i1), .val (.int i2), .val (.ref b1), .val (.int x35), .val (.int x43), .unset, .unset, .unset, .unset, .unset, .unset] [(.int (own_lv x35)), (.ref b7), (.ref b7)])
  refine Go.of (fun t k => XS.iloadN X7.here hx rfl (hb hby at_53) rfl  k) ?_
  show Go p e below Φ T7 (mkF m 54 #[.val (.int i0), .val (.int i1), .val (.int i2), .val (.ref b1), .val (.int x35), .val (.int x43), .unset, .unset, .unset, .unset, .unset, .unset] [(.int i2), (.int (own_lv x35)), (.ref b7), (.ref b7)])
  refine Go.of (fun t k => XS.iconst X7.here hx rfl (hb hby at_54) k) ?_
  show Go p e below Φ T7 (mkF m 55 #[.val (.int i0), .val (.int i1), .val (.int i2), .val (.ref b1), .val (.int x35), .val (.int x43), .unset, .unset, .unset, .unset, .unset, .unset] [(.int (1 : Int32)), (.int i2), (.int (own_lv x35)), (.ref b7), (.ref b7)])
  refine Go.of (fun t k => XS.iand X7.here hx rfl (hb hby at_55) rfl k) ?_
  show Go p e below Φ T7 (mkF m 56 #[.val (.int i0), .val (.int i1), .val (.int i2), .val (.ref b1), .val (.int x35), .val (.int x43), .unset, .unset, .unset, .unset, .unset, .unset] [(.int (i2 &&& (1 : Int32))), (.int (own_lv x35)), (.ref b7), (.ref b7)])
  suffices j64_8 :  ∀ v64 : Int32, v64 = (if (i2 &&& (1 : Int32)) = (0 : Int32) then (0 : Int32) else (1 : Int32)) → Go p e below Φ T7 (mkF m 64 #[.val (.int i0), .val (.int i1), .val (.int i2), .val (.ref b1), .val (.int x35), .val (.int x43), .unset, .unset, .unset, .unset, .unset, .unset] [(.int v64), (.int (own_lv x35)), (.ref b7), (.ref b7)]) by
    by_cases hc56 : (i2 &&& (1 : Int32)) = (0 : Int32)
    · refine Go.of (fun t k => XS.ifYes X7.here hx rfl (pc0 := 56) (pc' := 63) rfl (hb hby at_56) rfl (XT.i0_eq_t hc56) (by decide) (by decide) k) ?_
      show Go p e below Φ T7 (mkF m 63 #[.val (.int i0), .val (.int i1), .val (.int i2), .val (.ref b1), .val (.int x35), .val (.int x43), .unset, .unset, .unset, .unset, .unset, .unset] [(.int (own_lv x35)), (.ref b7), (.ref b7)])
      refine Go.of (fun t k => XS.iconst X7.here hx rfl (hb hby at_63) k) ?_
      show Go p e below Φ T7 (mkF m 64 #[.val (.int i0), .val (.int i1), .val (.int i2), .val (.ref b1), .val (.int x35), .val (.int x43), .unset, .unset, .unset, .unset, .unset, .unset] [(.int (0 : Int32)), (.int (own_lv x35)), (.ref b7), (.ref b7)])
      exact j64_8 _ (by rw [if_pos hc56])
    · refine Go.of (fun t k => XS.ifNo X7.here hx rfl (hb hby at_56) rfl (XT.i0_eq_f hc56) k) ?_
      show Go p e below Φ T7 (mkF m 59 #[.val (.int i0), .val (.int i1), .val (.int i2), .val (.ref b1), .val (.int x35), .val (.int x43), .unset, .unset, .unset, .unset, .unset, .unset] [(.int (own_lv x35)), (.ref b7), (.ref b7)])
      refine Go.of (fun t k => XS.iconst X7.here hx rfl (hb hby at_59) k) ?_
      show Go p e below Φ T7 (mkF m 60 #[.val (.int i0), .val (.int i1), .val (.int i2), .val (.ref b1), .val (.int x35), .val (.int x43), .unset, .unset, .unset, .unset, .unset, .unset] [(.int (1 : Int32)), (.int (own_lv x35)), (.ref b7), (.ref b7)])
      refine Go.of (fun t k => XS.goto X7.here hx rfl (pc0 := 60) (pc' := 64) rfl (hb hby at_60) (by decide) (by decide) k) ?_
      show Go p e below Φ T7 (mkF m 64 #[.val (.int i0), .val (.int i1), .val (.int i2), .val (.ref b1), .val (.int x35), .val (.int x43), .unset, .unset, .unset, .unset, .unset, .unset] [(.int (1 : Int32)), (.int (own_lv x35)), (.ref b7), (.ref b7)])
      exact j64_8 _ (by rw [if_neg hc56])
  intro v64 hv64
  show Go p e below Φ T7 (mkF m 64 #[.val (.int i0), .val (.int i1), .val (.int i2), .val (.ref b1), .val (.int x35), .val (.int x43), .unset, .unset, .unset, .unset, .unset, .unset] [(.int v64), (.int (own_lv x35)), (.ref b7), (.ref b7)])
  obtain ⟨_, _, ⟨T9, L9, k9, n9⟩, -, X9, ⟨Lc9, hQ9, l9, y9, z9⟩, st9⟩ := X7.specialBack hx (y := (⟨"com/example/shelfset/shelfset/Catalog$Function", "<init>", "(CZ)V"⟩ : MethodName)) rfl hown (mvT hZ (hw _ (List.mem_of_getElem? (i := 5) rfl))) (mvT hZ (hw _ (List.mem_of_getElem? (i := 6) rfl))) (mvT hZ (hw _ (List.mem_of_getElem? (i := 7) rfl))) (by decide) (backOf (W := 1) (rm1 l Z a0 hw [] b7 (own_lv x35) v64 (0 : Int32) (0 : Int32) h7 n0 Z7 F_b7_volatility F_b7_returnsSets E_b7 g_b7) hZ (hw _ (List.mem_of_getElem? (i := 7) rfl)) (hw _ (List.mem_of_getElem? (i := 4) rfl)) (by decide) (by decide)) (g := (mkF m 64 #[.val (.int i0), .val (.int i1), .val (.int i2), .val (.ref b1), .val (.int x35), .val (.int x43), .unset, .unset, .unset, .unset, .unset, .unset] [(.int v64), (.int (own_lv x35)), (.ref b7), (.ref b7)])) rfl (by rw [hml]; rfl) (Steps.refl _) (a := b7) (argsL := [(.int (own_lv x35)), (.int v64)]) (rest := [(.ref b7)]) (lenOf own_pd2 rfl) rfl (by show 2 * 0 + _ ≤ _; exact Nat.le_of_eq rfl) (hb hby at_64) (fun _ _ => ⟨rfl, e7, (by decide : 2 + 0 ≤ _), (by decide : 7 + 0 ≤ _)⟩)
  dsimp only [Pt.U, Pt.locs, Pt.cells, Pt.slots] at X9 l9 y9 z9 st9 hQ9
  subst l9 y9 z9
  obtain ⟨rfl, N9q, K9q, c9_0, c9_1, c9_2⟩ := hQ9
  have N9 := Fr.app N6 N9q
  obtain ⟨lc9, X9, N9⟩ : ∃ lc, Stand p l e room_1 s m #[(.int i0), (.int i1), (.int i2)] below meth c T9 lc 2 7 ∧ Fr n0 lc := ⟨_, X9, N9⟩
  have V_b1 := V_b1.keep K9q (ninS ne_b1_b7 nin0)
  have E_b7 := c9_0
  obtain ⟨y9_volatility, hy9_volatility⟩ : ∃ z : Int32, z = (nar .char (own_lv x35)) := ⟨_, rfl⟩
  rw [← hy9_volatility] at c9_1
  have F_b7_volatility := c9_1
  obtain ⟨y9_returnsSets, hy9_returnsSets⟩ : ∃ z : Int32, z = (nar .boolean v64) := ⟨_, rfl⟩
  rw [← hy9_returnsSets] at c9_2
  have F_b7_returnsSets := c9_2
  have Z9 := Nat.le_trans Z7 K9q.1
  have O9 := O7.keep K9q (allS g_b7 all0)
  refine Go.tr st9 ?_
  show Go p e below Φ T9 (mkF m 67 #[.val (.int i0), .val (.int i1), .val (.int i2), .val (.ref b1), .val (.int x35), .val (.int x43), .unset, .unset, .unset, .unset, .unset, .unset] [(.ref b7)])
  refine Go.of (fun t k => XS.astore X9.here hx rfl (hb hby at_67) rfl rfl (l' := #[.val (.int i0), .val (.int i1), .val (.int i2), .val (.ref b1), .val (.int x35), .val (.int x43), .val (.ref b7), .unset, .unset, .unset, .unset, .unset]) rfl k) ?_
  show Go p e below Φ T9 (mkF m 69 #[.val (.int i0), .val (.int i1), .val (.int i2), .val (.ref b1), .val (.int x35), .val (.int x43), .val (.ref b7), .unset, .unset, .unset, .unset, .unset] [])
  obtain ⟨T10, h10, X10, e10, E10, A10, D10, -, st10⟩ := newO X9 hx hZ hown (hw _ (List.mem_of_getElem? (i := 2) rfl)) (hw _ (List.mem_of_getElem? (i := 3) rfl)) (hw _ (List.mem_of_getElem? (i := 4) rfl)) rfl (g := (mkF m 69 #[.val (.int i0), .val (.int i1), .val (.int i2), .val (.ref b1), .val (.int x35), .val (.int x43), .val (.ref b7), .unset, .unset, .unset, .unset, .unset] [])) rfl (hb hby at_69) (by decide) (by decide)
  obtain ⟨b10, g10⟩ : ∃ z, z = T9.heap.size := ⟨_, rfl⟩
  rw [← g10] at A10 D10 st10
  have ne_b1_b10 : b1 ≠ b10 := Nat.ne_of_lt (Nat.lt_of_lt_of_le V_b1.lt (Nat.le_of_eq g10.symm))
  have ne_b7_b10 : b7 ≠ b10 := Nat.ne_of_lt (Nat.lt_of_lt_of_le E_b7.lt (Nat.le_of_eq g10.symm))
  have g_b10 : n0 ≤ b10 := Nat.le_trans Z9 (Nat.le_of_eq g10.symm)
  have Z10 := Nat.le_trans Z9 E10.1
  have O10 := O9.ext E10
  have V_b1 := V_b1.ext E10
  have E_b7 := E_b7.ext E10
  have F_b7_volatility := F_b7_volatility.ext E10
  have F_b7_returnsSets := F_b7_returnsSets.ext E10
  have E_b10 := A10
  have F_b10_volatility : Fld Z h10 b10 "com/example/shelfset/shelfset/Catalog$Function" "volatility" "C" (.int (0 : Int32)) := D10 (Or.inr (hw _ (List.mem_of_getElem? (i := 17) rfl))) (ty := .char) (by decide)
  have F_b10_returnsSets : Fld Z h10 b10 "com/example/shelfset/shelfset/Catalog$Function" "returnsSets" "Z" (.int (0 : Int32)) := D10 (Or.inr (hw _ (List.mem_of_getElem? (i := 19) rfl))) (ty := .boolean) (by decide)
  refine Go.of st10 ?_
  show Go p e below Φ T10 (mkF m 72 #[.val (.int i0), .val (.int i1), .val (.int i2), .val (.ref b1), .val (.int x35), .val (.int x43), .val (.ref b7), .unset, .unset, .unset, .unset, .unset] [(.ref b10)])
  refine Go.of (fun t k => XS.dup X10.here hx rfl (hb hby at_72) rfl rfl k) ?_
  show Go p e below Φ T10 (mkF m 73 #[.val (.int i0), .val (.int i1), .val (.int i2), .val (.ref b1), .val (.int x35), .val (.int x43), .val (.ref b7), .unset, .unset, .unset, .unset, .unset] [(.ref b10), (.ref b10)])
  refine Go.of (fun t k => XS.aloadN X10.here hx rfl (hb hby at_73) rfl rfl  k) ?_
  show Go p e below Φ T10 (mkF m 74 #[.val (.int i0), .val (.int i1), .val (.int i2), .val (.ref b1), .val (.int x35), .val (.int x43), .val (.ref b7), .unset, .unset, .unset, .unset, .unset] [(.ref b1), (.ref b10), (.ref b10)])
  refine Go.of (fun t k => XS.iload X10.here hx rfl (hb hby at_74) rfl  k) ?_
  show Go p e below Φ T10 (mkF m 76 #[.val (.int i0), .val (.int i1), .val (.int i2), .val (.ref b1), .val (.int x35), .val (.int x43), .val (.ref b7), .unset, .unset, .unset, .unset, .unset] [(.int x43), (.ref b1), (.ref b10), (.ref b10)])
  obtain ⟨cl76, Ar76, q76, S76, N76, H76, G76⟩ := id V_b1
  have hin76 : ¬ (x43 < 0 ∨ cl76.slots.size ≤ (x43).toNatClampNeg) := inb_of S76 (own_in5 (own_five i1 x43 hx43))
  have hat76 : cl76.slots[(x43).toNatClampNeg]? = some (.int (own_lv x43)) := H76.at hin76 (own_at5 (own_five i1 x43 hx43))
  refine Go.of (fun t k => X10.caload hx (j := x43) (v := (.int (own_lv x43))) (by rw [e10]; exact Ar76.1) (State.isArrayOf_alike hZ.alike Ar76.2.1) Ar76.2.2 hin76 hat76 (g := (mkF m 76 #[.val (.int i0), .val (.int i1), .val (.int i2), .val (.ref b1), .val (.int x35), .val (.int x43), .val (.ref b7), .unset, .unset, .unset, .unset, .unset] [(.int x43), (.ref b1), (.ref b10), (.ref b10)])) rfl rfl (hb hby at_76) t k) ?_
  show Go p e below Φ T10 (mkF m 77 #[.val (.int i0), .val (.int i1), .val (.int i2), .val (.ref b1), .val (.int x35), .val (.int x43), .val (.ref b7), .unset, .unset, .unset, .unset, .unset] [(.int (own_lv x43)), (.ref b10), (.ref b10)])
  refine Go.of (fun t k => XS.iloadN X10.here hx rfl (hb hby at_77) rfl  k) ?_
  show Go p e below Φ T10 (mkF m 78 #[.val (.int i0), .val (.int i1), .val (.int i2), .val (.ref b1), .val (.int x35), .val (.int x43), .val (.ref b7), .unset, .unset, .unset, .unset, .unset] [(.int i2), (.int (own_lv x43)), (.ref b10), (.ref b10)])
  refine Go.of (fun t k => XS.iconst X10.here hx rfl (hb hby at_78) k) ?_
  show Go p e below Φ T10 (mkF m 79 #[.val (.int i0), .val (.int i1), .val (.int i2), .val (.ref b1), .val (.int x35), .val (.int x43), .val (.ref b7), .unset, .unset, .unset, .unset, .unset] [(.int (2 : Int32)), (.int i2), (.int (own_lv x43)), (.ref b10), (.ref b10)])
  refine Go.of (fun t k => XS.iand X10.here hx rfl (hb hby at_79) rfl k) ?_
  show Go p e below Φ T10 (mkF m 80 #[.val (.int i0), .val (.int i1), .val (.int i2), .val (.ref b1), .val (.int x35), .val (.int x43), .val (.ref b7), .unset, .unset, .unset, .unset, .unset] [(.int (i2 &&& (2 : Int32))), (.int (own_lv x43)), (.ref b10), (.ref b10)])
  suffices j88_11 :  ∀ v88 : Int32, v88 = (if (i2 &&& (2 : Int32)) = (0 : Int32) then (0 : Int32) else (1 : Int32)) → Go p e below Φ T10 (mkF m 88 #[.val (.int i0), .val (.int i1), .val (.int i2), .val (.ref b1), .val (.int x35), .val (.int x43), .val (.ref b7), .unset, .unset, .unset, .unset, .unset] [(.int v88), (.int (own_lv x43)), (.ref b10), (.ref b10)]) by
    by_cases hc80 : (i2 &&& (2 : Int32)) = (0 : Int32)
    · refine Go.of (fun t k => XS.ifYes X10.here hx rfl (pc0 := 80) (pc' := 87) rfl (hb hby at_80) rfl (XT.i0_eq_t hc80) (by decide) (by decide) k) ?_
      show Go p e below Φ T10 (mkF m 87 #[.val (.int i0), .val (.int i1), .val (.int i2), .val (.ref b1), .val (.int x35), .val (.int x43), .val (.ref b7), .unset, .unset, .unset, .unset, .unset] [(.int (own_lv x43)), (.ref b10), (.ref b10)])
      refine Go.of (fun t k => XS.iconst X10.here hx rfl (hb hby at_87) k) ?_
      show Go p e below Φ T10 (mkF m 88 #[.val (.int i0), .val (.int i1), .val (.int i2), .val (.ref b1), .val (.int x35), .val (.int x43), .val (.ref b7), .unset, .unset, .unset, .unset, .unset] [(.int (0 : Int32)), (.int (own_lv x43)), (.ref b10), (.ref b10)])
      exact j88_11 _ (by rw [if_pos hc80])
    · refine Go.of (fun t k => XS.ifNo X10.here hx rfl (hb hby at_80) rfl (XT.i0_eq_f hc80) k) ?_
      show Go p e below Φ T10 (mkF m 83 #[.val (.int i0), .val (.int i1), .val (.int i2), .val (.ref b1), .val (.int x35), .val (.int x43), .val (.ref b7), .unset, .unset, .unset, .unset, .unset] [(.int (own_lv x43)), (.ref b10), (.ref b10)])
      refine Go.of (fun t k => XS.iconst X10.here hx rfl (hb hby at_83) k) ?_
      show Go p e below Φ T10 (mkF m 84 #[.val (.int i0), .val (.int i1), .val (.int i2), .val (.ref b1), .val (.int x35), .val (.int x43), .val (.ref b7), .unset, .unset, .unset, .unset, .unset] [(.int (1 : Int32)), (.int (own_lv x43)), (.ref b10), (.ref b10)])
      refine Go.of (fun t k => XS.goto X10.here hx rfl (pc0 := 84) (pc' := 88) rfl (hb hby at_84) (by decide) (by decide) k) ?_
      show Go p e below Φ T10 (mkF m 88 #[.val (.int i0), .val (.int i1), .val (.int i2), .val (.ref b1), .val (.int x35), .val (.int x43), .val (.ref b7), .unset, .unset, .unset, .unset, .unset] [(.int (1 : Int32)), (.int (own_lv x43)), (.ref b10), (.ref b10)])
      exact j88_11 _ (by rw [if_neg hc80])
  intro v88 hv88
  show Go p e below Φ T10 (mkF m 88 #[.val (.int i0), .val (.int i1), .val (.int i2), .val (.ref b1), .val (.int x35), .val (.int x43), .val (.ref b7), .unset, .unset, .unset, .unset, .unset] [(.int v88), (.int (own_lv x43)), (.ref b10), (.ref b10)])
  obtain ⟨_, _, ⟨T12, L12, k12, n12⟩, -, X12, ⟨Lc12, hQ12, l12, y12, z12⟩, st12⟩ := X10.specialBack hx (y := (⟨"com/example/shelfset/shelfset/Catalog$Function", "<init>", "(CZ)V"⟩ : MethodName)) rfl hown (mvT hZ (hw _ (List.mem_of_getElem? (i := 5) rfl))) (mvT hZ (hw _ (List.mem_of_getElem? (i := 6) rfl))) (mvT hZ (hw _ (List.mem_of_getElem? (i := 7) rfl))) (by decide) (backOf (W := 1) (rm1 l Z a0 hw [] b10 (own_lv x43) v88 (0 : Int32) (0 : Int32) h10 n0 Z10 F_b10_volatility F_b10_returnsSets E_b10 g_b10) hZ (hw _ (List.mem_of_getElem? (i := 7) rfl)) (hw _ (List.mem_of_getElem? (i := 4) rfl)) (by decide) (by decide)) (g := (mkF m 88 #[.val (.int i0), .val (.int i1), .val (.int i2), .val (.ref b1), .val (.int x35), .val (.int x43), .val (.ref b7), .unset, .unset, .unset, .unset, .unset] [(.int v88), (.int (own_lv x43)), (.ref b10), (.ref b10)])) rfl (by rw [hml]; rfl) (Steps.refl _) (a := b10) (argsL := [(.int (own_lv x43)), (.int v88)]) (rest := [(.ref b10)]) (lenOf own_pd2 rfl) rfl (by show 2 * 0 + _ ≤ _; exact Nat.le_of_eq rfl) (hb hby at_88) (fun _ _ => ⟨rfl, e10, (by decide : 3 + 0 ≤ _), (by decide : 9 + 0 ≤ _)⟩)
  dsimp only [Pt.U, Pt.locs, Pt.cells, Pt.slots] at X12 l12 y12 z12 st12 hQ12
  subst l12 y12 z12
  obtain ⟨rfl, N12q, K12q, c12_0, c12_1, c12_2⟩ := hQ12
  have N12 := Fr.app N9 N12q
  obtain ⟨lc12, X12, N12⟩ : ∃ lc, Stand p l e room_1 s m #[(.int i0), (.int i1), (.int i2)] below meth c T12 lc 3 9 ∧ Fr n0 lc := ⟨_, X12, N12⟩
  have V_b1 := V_b1.keep K12q (ninS ne_b1_b10 nin0)
  have E_b7 := E_b7.keep K12q
  have F_b7_volatility := F_b7_volatility.keep K12q (ninS ne_b7_b10 nin0)
  have F_b7_returnsSets := F_b7_returnsSets.keep K12q (ninS ne_b7_b10 nin0)
  have E_b10 := c12_0
  obtain ⟨y12_volatility, hy12_volatility⟩ : ∃ z : Int32, z = (nar .char (own_lv x43)) := ⟨_, rfl⟩
  rw [← hy12_volatility] at c12_1
  have F_b10_volatility := c12_1
  obtain ⟨y12_returnsSets, hy12_returnsSets⟩ : ∃ z : Int32, z = (nar .boolean v88) := ⟨_, rfl⟩
  rw [← hy12_returnsSets] at c12_2
  have F_b10_returnsSets := c12_2
  have Z12 := Nat.le_trans Z10 K12q.1
  have O12 := O10.keep K12q (allS g_b10 all0)
  refine Go.tr st12 ?_
  show Go p e below Φ T12 (mkF m 91 #[.val (.int i0), .val (.int i1), .val (.int i2), .val (.ref b1), .val (.int x35), .val (.int x43), .val (.ref b7), .unset, .unset, .unset, .unset, .unset] [(.ref b10)])
  refine Go.of (fun t k => XS.astore X12.here hx rfl (hb hby at_91) rfl rfl (l' := #[.val (.int i0), .val (.int i1), .val (.int i2), .val (.ref b1), .val (.int x35), .val (.int x43), .val (.ref b7), .val (.ref b10), .unset, .unset, .unset, .unset]) rfl k) ?_
  show Go p e below Φ T12 (mkF m 93 #[.val (.int i0), .val (.int i1), .val (.int i2), .val (.ref b1), .val (.int x35), .val (.int x43), .val (.ref b7), .val (.ref b10), .unset, .unset, .unset, .unset] [])
  refine Go.of (fun t k => XS.aload X12.here hx rfl (hb hby at_93) rfl rfl  k) ?_
  show Go p e below Φ T12 (mkF m 95 #[.val (.int i0), .val (.int i1), .val (.int i2), .val (.ref b1), .val (.int x35), .val (.int x43), .val (.ref b7), .val (.ref b10), .unset, .unset, .unset, .unset] [(.ref b7)])
  obtain ⟨cq13, kq13, q13a, q13b, q13c⟩ := isOf hZ rfl E_b7
  obtain ⟨_, _, ⟨T13, L13, k13, n13⟩, -, X13, ⟨Lc13, hQ13, l13, y13, z13⟩, st13⟩ := X12.virtualBack hx (y := (⟨"com/example/shelfset/shelfset/Catalog$Function", "readsNothing", "()Z"⟩ : MethodName)) (z := (⟨"com/example/shelfset/shelfset/Catalog$Function", "readsNothing", "()Z"⟩ : MethodName)) hown (mvT hZ (hw _ (List.mem_of_getElem? (i := 20) rfl))) (mvT hZ (hw _ (List.mem_of_getElem? (i := 21) rfl))) (notFace_of_selects (args := #[]) (mvT hZ (hw _ (List.mem_of_getElem? (i := 23) rfl)))) (mvT hZ (hw _ (List.mem_of_getElem? (i := 23) rfl))) (mvT hZ (hw _ (List.mem_of_getElem? (i := 22) rfl))) (by decide) (backOf (W := 0) (rm4 l Z a0 hw [] b7 y9_volatility T12.heap n0 Z12 F_b7_volatility) hZ (hw _ (List.mem_of_getElem? (i := 24) rfl)) (hw _ (List.mem_of_getElem? (i := 4) rfl)) (by decide) (by decide)) q13a q13c (g := (mkF m 95 #[.val (.int i0), .val (.int i1), .val (.int i2), .val (.ref b1), .val (.int x35), .val (.int x43), .val (.ref b7), .val (.ref b10), .unset, .unset, .unset, .unset] [(.ref b7)])) rfl (by rw [hml]; rfl) (Steps.refl _) (argsL := []) (rest := []) (lenOf own_pd3 rfl) rfl (by show 2 * 0 + _ ≤ _; exact Nat.le_of_eq rfl) (hb hby at_95) (fun _ _ => ⟨rfl, rfl, (by decide : 3 + 0 ≤ _), (by decide : 9 + 0 ≤ _)⟩)
  dsimp only [Pt.U, Pt.locs, Pt.cells, Pt.slots] at X13 l13 y13 z13 st13 hQ13
  subst l13 y13 z13
  obtain ⟨rfl, N13q, e13q⟩ := hQ13
  have N13 := Fr.app N12 N13q
  obtain ⟨lc13, X13, N13⟩ : ∃ lc, Stand p l e room_1 s m #[(.int i0), (.int i1), (.int i2)] below meth c T13 lc 3 9 ∧ Fr n0 lc := ⟨_, X13, N13⟩
  refine Go.tr st13 ?_
  show Go p e below Φ T13 (mkF m 98 #[.val (.int i0), .val (.int i1), .val (.int i2), .val (.ref b1), .val (.int x35), .val (.int x43), .val (.ref b7), .val (.ref b10), .unset, .unset, .unset, .unset] [(.int (own_reads y9_volatility))])
  obtain ⟨x98, hx98⟩ : ∃ z : Int32, z = (own_reads y9_volatility) := ⟨_, rfl⟩
  rw [← hx98]
  refine Go.of (fun t k => XS.istore X13.here hx rfl (hb hby at_98) rfl (l' := #[.val (.int i0), .val (.int i1), .val (.int i2), .val (.ref b1), .val (.int x35), .val (.int x43), .val (.ref b7), .val (.ref b10), .val (.int x98), .unset, .unset, .unset]) rfl k) ?_
  show Go p e below Φ T13 (mkF m 100 #[.val (.int i0), .val (.int i1), .val (.int i2), .val (.ref b1), .val (.int x35), .val (.int x43), .val (.ref b7), .val (.ref b10), .val (.int x98), .unset, .unset, .unset] [])
  refine Go.of (fun t k => XS.aload X13.here hx rfl (hb hby at_100) rfl rfl  k) ?_
  show Go p e below Φ T13 (mkF m 102 #[.val (.int i0), .val (.int i1), .val (.int i2), .val (.ref b1), .val (.int x35), .val (.int x43), .val (.ref b7), .val (.ref b10), .val (.int x98), .unset, .unset, .unset] [(.ref b10)])
  obtain ⟨cq14, kq14, q14a, q14b, q14c⟩ := isOf hZ (e13q) E_b10
  obtain ⟨_, _, ⟨T14, L14, k14, n14⟩, -, X14, ⟨Lc14, hQ14, l14, y14, z14⟩, st14⟩ := X13.virtualBack hx (y := (⟨"com/example/shelfset/shelfset/Catalog$Function", "readsNothing", "()Z"⟩ : MethodName)) (z := (⟨"com/example/shelfset/shelfset/Catalog$Function", "readsNothing", "()Z"⟩ : MethodName)) hown (mvT hZ (hw _ (List.mem_of_getElem? (i := 20) rfl))) (mvT hZ (hw _ (List.mem_of_getElem? (i := 21) rfl))) (notFace_of_selects (args := #[]) (mvT hZ (hw _ (List.mem_of_getElem? (i := 23) rfl)))) (mvT hZ (hw _ (List.mem_of_getElem? (i := 23) rfl))) (mvT hZ (hw _ (List.mem_of_getElem? (i := 22) rfl))) (by decide) (backOf (W := 0) (rm4 l Z a0 hw [] b10 y12_volatility T12.heap n0 Z12 F_b10_volatility) hZ (hw _ (List.mem_of_getElem? (i := 24) rfl)) (hw _ (List.mem_of_getElem? (i := 4) rfl)) (by decide) (by decide)) q14a q14c (g := (mkF m 102 #[.val (.int i0), .val (.int i1), .val (.int i2), .val (.ref b1), .val (.int x35), .val (.int x43), .val (.ref b7), .val (.ref b10), .val (.int x98), .unset, .unset, .unset] [(.ref b10)])) rfl (by rw [hml]; rfl) (Steps.refl _) (argsL := []) (rest := []) (lenOf own_pd3 rfl) rfl (by show 2 * 0 + _ ≤ _; exact Nat.le_of_eq rfl) (hb hby at_102) (fun _ _ => ⟨rfl, (e13q), (by decide : 3 + 0 ≤ _), (by decide : 9 + 0 ≤ _)⟩)
  dsimp only [Pt.U, Pt.locs, Pt.cells, Pt.slots] at X14 l14 y14 z14 st14 hQ14
  subst l14 y14 z14
  obtain ⟨rfl, N14q, e14q⟩ := hQ14
  have N14 := Fr.app N13 N14q
  obtain ⟨lc14, X14, N14⟩ : ∃ lc, Stand p l e room_1 s m #[(.int i0), (.int i1), (.int i2)] below meth c T14 lc 3 9 ∧ Fr n0 lc := ⟨_, X14, N14⟩
  refine Go.tr st14 ?_
  show Go p e below Φ T14 (mkF m 105 #[.val (.int i0), .val (.int i1), .val (.int i2), .val (.ref b1), .val (.int x35), .val (.int x43), .val (.ref b7), .val (.ref b10), .val (.int x98), .unset, .unset, .unset] [(.int (own_reads y12_volatility))])
  obtain ⟨x105, hx105⟩ : ∃ z : Int32, z = (own_reads y12_volatility) := ⟨_, rfl⟩
  rw [← hx105]
  refine Go.of (fun t k => XS.istore X14.here hx rfl (hb hby at_105) rfl (l' := #[.val (.int i0), .val (.int i1), .val (.int i2), .val (.ref b1), .val (.int x35), .val (.int x43), .val (.ref b7), .val (.ref b10), .val (.int x98), .val (.int x105), .unset, .unset]) rfl k) ?_
  show Go p e below Φ T14 (mkF m 107 #[.val (.int i0), .val (.int i1), .val (.int i2), .val (.ref b1), .val (.int x35), .val (.int x43), .val (.ref b7), .val (.ref b10), .val (.int x98), .val (.int x105), .unset, .unset] [])
  refine Go.of (fun t k => XS.aload X14.here hx rfl (hb hby at_107) rfl rfl  k) ?_
  show Go p e below Φ T14 (mkF m 109 #[.val (.int i0), .val (.int i1), .val (.int i2), .val (.ref b1), .val (.int x35), .val (.int x43), .val (.ref b7), .val (.ref b10), .val (.int x98), .val (.int x105), .unset, .unset] [(.ref b7)])
  refine Go.of (fun t k => XS.aload X14.here hx rfl (hb hby at_109) rfl rfl  k) ?_
  show Go p e below Φ T14 (mkF m 111 #[.val (.int i0), .val (.int i1), .val (.int i2), .val (.ref b1), .val (.int x35), .val (.int x43), .val (.ref b7), .val (.ref b10), .val (.int x98), .val (.int x105), .unset, .unset] [(.ref b10), (.ref b7)])
  obtain ⟨cq15, kq15, q15a, q15b, q15c⟩ := isOf hZ (e14q) E_b7
  obtain ⟨_, _, ⟨T15, L15, k15, n15⟩, -, X15, ⟨Lc15, hQ15, l15, y15, z15⟩, st15⟩ := X14.virtualBack hx (y := (⟨"com/example/shelfset/shelfset/Catalog$Function", "and", "(Lcom/example/shelfset/shelfset/Catalog$Function;)Lcom/example/shelfset/shelfset/Catalog$Function;"⟩ : MethodName)) (z := (⟨"com/example/shelfset/shelfset/Catalog$Function", "and", "(Lcom/example/shelfset/shelfset/Catalog$Function;)Lcom/example/shelfset/shelfset/Catalog$Function;"⟩ : MethodName)) hown (mvT hZ (hw _ (List.mem_of_getElem? (i := 25) rfl))) (mvT hZ (hw _ (List.mem_of_getElem? (i := 26) rfl))) (notFace_of_selects (args := #[]) (mvT hZ (hw _ (List.mem_of_getElem? (i := 28) rfl)))) (mvT hZ (hw _ (List.mem_of_getElem? (i := 28) rfl))) (mvT hZ (hw _ (List.mem_of_getElem? (i := 27) rfl))) (by decide) (backOf (W := 0) (rm5 l Z a0 hw [] b7 b10 y9_volatility y9_returnsSets y12_volatility y12_returnsSets T12.heap n0 Z12 F_b7_volatility F_b7_returnsSets F_b10_volatility F_b10_returnsSets E_b7 E_b10) hZ (hw _ (List.mem_of_getElem? (i := 29) rfl)) (hw _ (List.mem_of_getElem? (i := 4) rfl)) (by decide) (by decide)) q15a q15c (g := (mkF m 111 #[.val (.int i0), .val (.int i1), .val (.int i2), .val (.ref b1), .val (.int x35), .val (.int x43), .val (.ref b7), .val (.ref b10), .val (.int x98), .val (.int x105), .unset, .unset] [(.ref b10), (.ref b7)])) rfl (by rw [hml]; rfl) (Steps.refl _) (argsL := [(.ref b10)]) (rest := []) (lenOf own_pd4 rfl) rfl (by show 2 * 0 + _ ≤ _; exact Nat.le_of_eq rfl) (hb hby at_111) (fun _ _ => ⟨rfl, (e14q), (by decide : 3 + 1 ≤ _), (by decide : 9 + 2 ≤ _)⟩)
  dsimp only [Pt.U, Pt.locs, Pt.cells, Pt.slots] at X15 l15 y15 z15 st15 hQ15
  subst l15 y15 z15
  obtain ⟨b15, rfl, N15q, K15q, s15q, c15_0, c15_1, c15_2⟩ := hQ15
  have N15 := Fr.app N14 N15q
  obtain ⟨lc15, X15, N15⟩ : ∃ lc, Stand p l e room_1 s m #[(.int i0), (.int i1), (.int i2)] below meth c T15 lc 4 11 ∧ Fr n0 lc := ⟨_, X15, N15⟩
  have ne_b1_b15 : b1 ≠ b15 := Nat.ne_of_lt (Nat.lt_of_lt_of_le V_b1.lt s15q)
  have ne_b7_b15 : b7 ≠ b15 := Nat.ne_of_lt (Nat.lt_of_lt_of_le E_b7.lt s15q)
  have ne_b10_b15 : b10 ≠ b15 := Nat.ne_of_lt (Nat.lt_of_lt_of_le E_b10.lt s15q)
  have g_b15 : n0 ≤ b15 := Nat.le_trans Z12 s15q
  have V_b1 := V_b1.keep K15q nin0
  have E_b7 := E_b7.keep K15q
  have F_b7_volatility := F_b7_volatility.keep K15q nin0
  have F_b7_returnsSets := F_b7_returnsSets.keep K15q nin0
  have E_b10 := E_b10.keep K15q
  have F_b10_volatility := F_b10_volatility.keep K15q nin0
  have F_b10_returnsSets := F_b10_returnsSets.keep K15q nin0
  have E_b15 := c15_0
  obtain ⟨y15_volatility, hy15_volatility⟩ : ∃ z : Int32, z = (nar .char ((own_max y9_volatility y12_volatility).toUInt32.toUInt16.toUInt32.toInt32)) := ⟨_, rfl⟩
  rw [← hy15_volatility] at c15_1
  have F_b15_volatility := c15_1
  obtain ⟨y15_returnsSets, hy15_returnsSets⟩ : ∃ z : Int32, z = (nar .boolean (if y9_returnsSets = (0 : Int32) then (if y12_returnsSets = (0 : Int32) then (0 : Int32) else (1 : Int32)) else (1 : Int32))) := ⟨_, rfl⟩
  rw [← hy15_returnsSets] at c15_2
  have F_b15_returnsSets := c15_2
  have Z15 := Nat.le_trans Z12 K15q.1
  have O15 := O12.keep K15q all0
  refine Go.tr st15 ?_
  show Go p e below Φ T15 (mkF m 114 #[.val (.int i0), .val (.int i1), .val (.int i2), .val (.ref b1), .val (.int x35), .val (.int x43), .val (.ref b7), .val (.ref b10), .val (.int x98), .val (.int x105), .unset, .unset] [(.ref b15)])
  obtain ⟨cq16, kq16, q16a, q16b, q16c⟩ := isOf hZ rfl E_b15
  obtain ⟨_, _, ⟨T16, L16, k16, n16⟩, -, X16, ⟨Lc16, hQ16, l16, y16, z16⟩, st16⟩ := X15.virtualBack hx (y := (⟨"com/example/shelfset/shelfset/Catalog$Function", "readsNothing", "()Z"⟩ : MethodName)) (z := (⟨"com/example/shelfset/shelfset/Catalog$Function", "readsNothing", "()Z"⟩ : MethodName)) hown (mvT hZ (hw _ (List.mem_of_getElem? (i := 20) rfl))) (mvT hZ (hw _ (List.mem_of_getElem? (i := 21) rfl))) (notFace_of_selects (args := #[]) (mvT hZ (hw _ (List.mem_of_getElem? (i := 23) rfl)))) (mvT hZ (hw _ (List.mem_of_getElem? (i := 23) rfl))) (mvT hZ (hw _ (List.mem_of_getElem? (i := 22) rfl))) (by decide) (backOf (W := 0) (rm4 l Z a0 hw [] b15 y15_volatility T15.heap n0 Z15 F_b15_volatility) hZ (hw _ (List.mem_of_getElem? (i := 24) rfl)) (hw _ (List.mem_of_getElem? (i := 4) rfl)) (by decide) (by decide)) q16a q16c (g := (mkF m 114 #[.val (.int i0), .val (.int i1), .val (.int i2), .val (.ref b1), .val (.int x35), .val (.int x43), .val (.ref b7), .val (.ref b10), .val (.int x98), .val (.int x105), .unset, .unset] [(.ref b15)])) rfl (by rw [hml]; rfl) (Steps.refl _) (argsL := []) (rest := []) (lenOf own_pd3 rfl) rfl (by show 2 * 0 + _ ≤ _; exact Nat.le_of_eq rfl) (hb hby at_114) (fun _ _ => ⟨rfl, rfl, (by decide : 4 + 0 ≤ _), (by decide : 11 + 0 ≤ _)⟩)
  dsimp only [Pt.U, Pt.locs, Pt.cells, Pt.slots] at X16 l16 y16 z16 st16 hQ16
  subst l16 y16 z16
  obtain ⟨rfl, N16q, e16q⟩ := hQ16
  have N16 := Fr.app N15 N16q
  obtain ⟨lc16, X16, N16⟩ : ∃ lc, Stand p l e room_1 s m #[(.int i0), (.int i1), (.int i2)] below meth c T16 lc 4 11 ∧ Fr n0 lc := ⟨_, X16, N16⟩
  refine Go.tr st16 ?_
  show Go p e below Φ T16 (mkF m 117 #[.val (.int i0), .val (.int i1), .val (.int i2), .val (.ref b1), .val (.int x35), .val (.int x43), .val (.ref b7), .val (.ref b10), .val (.int x98), .val (.int x105), .unset, .unset] [(.int (own_reads y15_volatility))])
  obtain ⟨x117, hx117⟩ : ∃ z : Int32, z = (own_reads y15_volatility) := ⟨_, rfl⟩
  rw [← hx117]
  refine Go.of (fun t k => XS.istore X16.here hx rfl (hb hby at_117) rfl (l' := #[.val (.int i0), .val (.int i1), .val (.int i2), .val (.ref b1), .val (.int x35), .val (.int x43), .val (.ref b7), .val (.ref b10), .val (.int x98), .val (.int x105), .val (.int x117), .unset]) rfl k) ?_
  show Go p e below Φ T16 (mkF m 119 #[.val (.int i0), .val (.int i1), .val (.int i2), .val (.ref b1), .val (.int x35), .val (.int x43), .val (.ref b7), .val (.ref b10), .val (.int x98), .val (.int x105), .val (.int x117), .unset] [])
  refine Go.of (fun t k => XS.iload X16.here hx rfl (hb hby at_119) rfl  k) ?_
  show Go p e below Φ T16 (mkF m 121 #[.val (.int i0), .val (.int i1), .val (.int i2), .val (.ref b1), .val (.int x35), .val (.int x43), .val (.ref b7), .val (.ref b10), .val (.int x98), .val (.int x105), .val (.int x117), .unset] [(.int x98)])
  refine Go.of (fun t k => XS.iload X16.here hx rfl (hb hby at_121) rfl  k) ?_
  show Go p e below Φ T16 (mkF m 123 #[.val (.int i0), .val (.int i1), .val (.int i2), .val (.ref b1), .val (.int x35), .val (.int x43), .val (.ref b7), .val (.ref b10), .val (.int x98), .val (.int x105), .val (.int x117), .unset] [(.int x35), (.int x98)])
  suffices j154_17 :  ∀ v154 : Int32, v154 = (if x35 = (0 : Int32) then (if x98 = (1 : Int32) then (if x43 = (0 : Int32) then (if x105 = (1 : Int32) then (1 : Int32) else (0 : Int32)) else (if x105 = (0 : Int32) then (1 : Int32) else (0 : Int32))) else (0 : Int32)) else (if x98 = (0 : Int32) then (if x43 = (0 : Int32) then (if x105 = (1 : Int32) then (1 : Int32) else (0 : Int32)) else (if x105 = (0 : Int32) then (1 : Int32) else (0 : Int32))) else (0 : Int32))) → Go p e below Φ T16 (mkF m 154 #[.val (.int i0), .val (.int i1), .val (.int i2), .val (.ref b1), .val (.int x35), .val (.int x43), .val (.ref b7), .val (.ref b10), .val (.int x98), .val (.int x105), .val (.int x117), .unset] [(.int v154)]) by
    by_cases hc123 : x35 = (0 : Int32)
    · refine Go.of (fun t k => XS.ifNo X16.here hx rfl (hb hby at_123) rfl (XT.i0_ne_f hc123) k) ?_
      show Go p e below Φ T16 (mkF m 126 #[.val (.int i0), .val (.int i1), .val (.int i2), .val (.ref b1), .val (.int x35), .val (.int x43), .val (.ref b7), .val (.ref b10), .val (.int x98), .val (.int x105), .val (.int x117), .unset] [(.int x98)])
      refine Go.of (fun t k => XS.iconst X16.here hx rfl (hb hby at_126) k) ?_
      show Go p e below Φ T16 (mkF m 127 #[.val (.int i0), .val (.int i1), .val (.int i2), .val (.ref b1), .val (.int x35), .val (.int x43), .val (.ref b7), .val (.ref b10), .val (.int x98), .val (.int x105), .val (.int x117), .unset] [(.int (1 : Int32)), (.int x98)])
      refine Go.of (fun t k => XS.goto X16.here hx rfl (pc0 := 127) (pc' := 131) rfl (hb hby at_127) (by decide) (by decide) k) ?_
      show Go p e below Φ T16 (mkF m 131 #[.val (.int i0), .val (.int i1), .val (.int i2), .val (.ref b1), .val (.int x35), .val (.int x43), .val (.ref b7), .val (.ref b10), .val (.int x98), .val (.int x105), .val (.int x117), .unset] [(.int (1 : Int32)), (.int x98)])
      by_cases hc131 : x98 = (1 : Int32)
      · refine Go.of (fun t k => XS.icmpNo X16.here hx rfl (hb hby at_131) rfl (XT.ii_ne_f hc131) k) ?_
        show Go p e below Φ T16 (mkF m 134 #[.val (.int i0), .val (.int i1), .val (.int i2), .val (.ref b1), .val (.int x35), .val (.int x43), .val (.ref b7), .val (.ref b10), .val (.int x98), .val (.int x105), .val (.int x117), .unset] [])
        refine Go.of (fun t k => XS.iload X16.here hx rfl (hb hby at_134) rfl  k) ?_
        show Go p e below Φ T16 (mkF m 136 #[.val (.int i0), .val (.int i1), .val (.int i2), .val (.ref b1), .val (.int x35), .val (.int x43), .val (.ref b7), .val (.ref b10), .val (.int x98), .val (.int x105), .val (.int x117), .unset] [(.int x105)])
        refine Go.of (fun t k => XS.iload X16.here hx rfl (hb hby at_136) rfl  k) ?_
        show Go p e below Φ T16 (mkF m 138 #[.val (.int i0), .val (.int i1), .val (.int i2), .val (.ref b1), .val (.int x35), .val (.int x43), .val (.ref b7), .val (.ref b10), .val (.int x98), .val (.int x105), .val (.int x117), .unset] [(.int x43), (.int x105)])
        by_cases hc138 : x43 = (0 : Int32)
        · refine Go.of (fun t k => XS.ifNo X16.here hx rfl (hb hby at_138) rfl (XT.i0_ne_f hc138) k) ?_
          show Go p e below Φ T16 (mkF m 141 #[.val (.int i0), .val (.int i1), .val (.int i2), .val (.ref b1), .val (.int x35), .val (.int x43), .val (.ref b7), .val (.ref b10), .val (.int x98), .val (.int x105), .val (.int x117), .unset] [(.int x105)])
          refine Go.of (fun t k => XS.iconst X16.here hx rfl (hb hby at_141) k) ?_
          show Go p e below Φ T16 (mkF m 142 #[.val (.int i0), .val (.int i1), .val (.int i2), .val (.ref b1), .val (.int x35), .val (.int x43), .val (.ref b7), .val (.ref b10), .val (.int x98), .val (.int x105), .val (.int x117), .unset] [(.int (1 : Int32)), (.int x105)])
          refine Go.of (fun t k => XS.goto X16.here hx rfl (pc0 := 142) (pc' := 146) rfl (hb hby at_142) (by decide) (by decide) k) ?_
          show Go p e below Φ T16 (mkF m 146 #[.val (.int i0), .val (.int i1), .val (.int i2), .val (.ref b1), .val (.int x35), .val (.int x43), .val (.ref b7), .val (.ref b10), .val (.int x98), .val (.int x105), .val (.int x117), .unset] [(.int (1 : Int32)), (.int x105)])
          by_cases hc146 : x105 = (1 : Int32)
          · refine Go.of (fun t k => XS.icmpNo X16.here hx rfl (hb hby at_146) rfl (XT.ii_ne_f hc146) k) ?_
            show Go p e below Φ T16 (mkF m 149 #[.val (.int i0), .val (.int i1), .val (.int i2), .val (.ref b1), .val (.int x35), .val (.int x43), .val (.ref b7), .val (.ref b10), .val (.int x98), .val (.int x105), .val (.int x117), .unset] [])
            refine Go.of (fun t k => XS.iconst X16.here hx rfl (hb hby at_149) k) ?_
            show Go p e below Φ T16 (mkF m 150 #[.val (.int i0), .val (.int i1), .val (.int i2), .val (.ref b1), .val (.int x35), .val (.int x43), .val (.ref b7), .val (.ref b10), .val (.int x98), .val (.int x105), .val (.int x117), .unset] [(.int (1 : Int32))])
            refine Go.of (fun t k => XS.goto X16.here hx rfl (pc0 := 150) (pc' := 154) rfl (hb hby at_150) (by decide) (by decide) k) ?_
            show Go p e below Φ T16 (mkF m 154 #[.val (.int i0), .val (.int i1), .val (.int i2), .val (.ref b1), .val (.int x35), .val (.int x43), .val (.ref b7), .val (.ref b10), .val (.int x98), .val (.int x105), .val (.int x117), .unset] [(.int (1 : Int32))])
            exact j154_17 _ (by rw [if_pos hc123, if_pos hc131, if_pos hc138, if_pos hc146])
          · refine Go.of (fun t k => XS.icmpYes X16.here hx rfl (pc0 := 146) (pc' := 153) rfl (hb hby at_146) rfl (XT.ii_ne_t hc146) (by decide) (by decide) k) ?_
            show Go p e below Φ T16 (mkF m 153 #[.val (.int i0), .val (.int i1), .val (.int i2), .val (.ref b1), .val (.int x35), .val (.int x43), .val (.ref b7), .val (.ref b10), .val (.int x98), .val (.int x105), .val (.int x117), .unset] [])
            refine Go.of (fun t k => XS.iconst X16.here hx rfl (hb hby at_153) k) ?_
            show Go p e below Φ T16 (mkF m 154 #[.val (.int i0), .val (.int i1), .val (.int i2), .val (.ref b1), .val (.int x35), .val (.int x43), .val (.ref b7), .val (.ref b10), .val (.int x98), .val (.int x105), .val (.int x117), .unset] [(.int (0 : Int32))])
            exact j154_17 _ (by rw [if_pos hc123, if_pos hc131, if_pos hc138, if_neg hc146])
        · refine Go.of (fun t k => XS.ifYes X16.here hx rfl (pc0 := 138) (pc' := 145) rfl (hb hby at_138) rfl (XT.i0_ne_t hc138) (by decide) (by decide) k) ?_
          show Go p e below Φ T16 (mkF m 145 #[.val (.int i0), .val (.int i1), .val (.int i2), .val (.ref b1), .val (.int x35), .val (.int x43), .val (.ref b7), .val (.ref b10), .val (.int x98), .val (.int x105), .val (.int x117), .unset] [(.int x105)])
          refine Go.of (fun t k => XS.iconst X16.here hx rfl (hb hby at_145) k) ?_
          show Go p e below Φ T16 (mkF m 146 #[.val (.int i0), .val (.int i1), .val (.int i2), .val (.ref b1), .val (.int x35), .val (.int x43), .val (.ref b7), .val (.ref b10), .val (.int x98), .val (.int x105), .val (.int x117), .unset] [(.int (0 : Int32)), (.int x105)])
          by_cases hc146 : x105 = (0 : Int32)
          · refine Go.of (fun t k => XS.icmpNo X16.here hx rfl (hb hby at_146) rfl (XT.ii_ne_f hc146) k) ?_
            show Go p e below Φ T16 (mkF m 149 #[.val (.int i0), .val (.int i1), .val (.int i2), .val (.ref b1), .val (.int x35), .val (.int x43), .val (.ref b7), .val (.ref b10), .val (.int x98), .val (.int x105), .val (.int x117), .unset] [])
            refine Go.of (fun t k => XS.iconst X16.here hx rfl (hb hby at_149) k) ?_
            show Go p e below Φ T16 (mkF m 150 #[.val (.int i0), .val (.int i1), .val (.int i2), .val (.ref b1), .val (.int x35), .val (.int x43), .val (.ref b7), .val (.ref b10), .val (.int x98), .val (.int x105), .val (.int x117), .unset] [(.int (1 : Int32))])
            refine Go.of (fun t k => XS.goto X16.here hx rfl (pc0 := 150) (pc' := 154) rfl (hb hby at_150) (by decide) (by decide) k) ?_
            show Go p e below Φ T16 (mkF m 154 #[.val (.int i0), .val (.int i1), .val (.int i2), .val (.ref b1), .val (.int x35), .val (.int x43), .val (.ref b7), .val (.ref b10), .val (.int x98), .val (.int x105), .val (.int x117), .unset] [(.int (1 : Int32))])
            exact j154_17 _ (by rw [if_pos hc123, if_pos hc131, if_neg hc138, if_pos hc146])
          · refine Go.of (fun t k => XS.icmpYes X16.here hx rfl (pc0 := 146) (pc' := 153) rfl (hb hby at_146) rfl (XT.ii_ne_t hc146) (by decide) (by decide) k) ?_
            show Go p e below Φ T16 (mkF m 153 #[.val (.int i0), .val (.int i1), .val (.int i2), .val (.ref b1), .val (.int x35), .val (.int x43), .val (.ref b7), .val (.ref b10), .val (.int x98), .val (.int x105), .val (.int x117), .unset] [])
            refine Go.of (fun t k => XS.iconst X16.here hx rfl (hb hby at_153) k) ?_
            show Go p e below Φ T16 (mkF m 154 #[.val (.int i0), .val (.int i1), .val (.int i2), .val (.ref b1), .val (.int x35), .val (.int x43), .val (.ref b7), .val (.ref b10), .val (.int x98), .val (.int x105), .val (.int x117), .unset] [(.int (0 : Int32))])
            exact j154_17 _ (by rw [if_pos hc123, if_pos hc131, if_neg hc138, if_neg hc146])
      · refine Go.of (fun t k => XS.icmpYes X16.here hx rfl (pc0 := 131) (pc' := 153) rfl (hb hby at_131) rfl (XT.ii_ne_t hc131) (by decide) (by decide) k) ?_
        show Go p e below Φ T16 (mkF m 153 #[.val (.int i0), .val (.int i1), .val (.int i2), .val (.ref b1), .val (.int x35), .val (.int x43), .val (.ref b7), .val (.ref b10), .val (.int x98), .val (.int x105), .val (.int x117), .unset] [])
        refine Go.of (fun t k => XS.iconst X16.here hx rfl (hb hby at_153) k) ?_
        show Go p e below Φ T16 (mkF m 154 #[.val (.int i0), .val (.int i1), .val (.int i2), .val (.ref b1), .val (.int x35), .val (.int x43), .val (.ref b7), .val (.ref b10), .val (.int x98), .val (.int x105), .val (.int x117), .unset] [(.int (0 : Int32))])
        exact j154_17 _ (by rw [if_pos hc123, if_neg hc131])
    · refine Go.of (fun t k => XS.ifYes X16.here hx rfl (pc0 := 123) (pc' := 130) rfl (hb hby at_123) rfl (XT.i0_ne_t hc123) (by decide) (by decide) k) ?_
      show Go p e below Φ T16 (mkF m 130 #[.val (.int i0), .val (.int i1), .val (.int i2), .val (.ref b1), .val (.int x35), .val (.int x43), .val (.ref b7), .val (.ref b10), .val (.int x98), .val (.int x105), .val (.int x117), .unset] [(.int x98)])
      refine Go.of (fun t k => XS.iconst X16.here hx rfl (hb hby at_130) k) ?_
      show Go p e below Φ T16 (mkF m 131 #[.val (.int i0), .val (.int i1), .val (.int i2), .val (.ref b1), .val (.int x35), .val (.int x43), .val (.ref b7), .val (.ref b10), .val (.int x98), .val (.int x105), .val (.int x117), .unset] [(.int (0 : Int32)), (.int x98)])
      by_cases hc131 : x98 = (0 : Int32)
      · refine Go.of (fun t k => XS.icmpNo X16.here hx rfl (hb hby at_131) rfl (XT.ii_ne_f hc131) k) ?_
        show Go p e below Φ T16 (mkF m 134 #[.val (.int i0), .val (.int i1), .val (.int i2), .val (.ref b1), .val (.int x35), .val (.int x43), .val (.ref b7), .val (.ref b10), .val (.int x98), .val (.int x105), .val (.int x117), .unset] [])
        refine Go.of (fun t k => XS.iload X16.here hx rfl (hb hby at_134) rfl  k) ?_
        show Go p e below Φ T16 (mkF m 136 #[.val (.int i0), .val (.int i1), .val (.int i2), .val (.ref b1), .val (.int x35), .val (.int x43), .val (.ref b7), .val (.ref b10), .val (.int x98), .val (.int x105), .val (.int x117), .unset] [(.int x105)])
        refine Go.of (fun t k => XS.iload X16.here hx rfl (hb hby at_136) rfl  k) ?_
        show Go p e below Φ T16 (mkF m 138 #[.val (.int i0), .val (.int i1), .val (.int i2), .val (.ref b1), .val (.int x35), .val (.int x43), .val (.ref b7), .val (.ref b10), .val (.int x98), .val (.int x105), .val (.int x117), .unset] [(.int x43), (.int x105)])
        by_cases hc138 : x43 = (0 : Int32)
        · refine Go.of (fun t k => XS.ifNo X16.here hx rfl (hb hby at_138) rfl (XT.i0_ne_f hc138) k) ?_
          show Go p e below Φ T16 (mkF m 141 #[.val (.int i0), .val (.int i1), .val (.int i2), .val (.ref b1), .val (.int x35), .val (.int x43), .val (.ref b7), .val (.ref b10), .val (.int x98), .val (.int x105), .val (.int x117), .unset] [(.int x105)])
          refine Go.of (fun t k => XS.iconst X16.here hx rfl (hb hby at_141) k) ?_
          show Go p e below Φ T16 (mkF m 142 #[.val (.int i0), .val (.int i1), .val (.int i2), .val (.ref b1), .val (.int x35), .val (.int x43), .val (.ref b7), .val (.ref b10), .val (.int x98), .val (.int x105), .val (.int x117), .unset] [(.int (1 : Int32)), (.int x105)])
          refine Go.of (fun t k => XS.goto X16.here hx rfl (pc0 := 142) (pc' := 146) rfl (hb hby at_142) (by decide) (by decide) k) ?_
          show Go p e below Φ T16 (mkF m 146 #[.val (.int i0), .val (.int i1), .val (.int i2), .val (.ref b1), .val (.int x35), .val (.int x43), .val (.ref b7), .val (.ref b10), .val (.int x98), .val (.int x105), .val (.int x117), .unset] [(.int (1 : Int32)), (.int x105)])
          by_cases hc146 : x105 = (1 : Int32)
          · refine Go.of (fun t k => XS.icmpNo X16.here hx rfl (hb hby at_146) rfl (XT.ii_ne_f hc146) k) ?_
            show Go p e below Φ T16 (mkF m 149 #[.val (.int i0), .val (.int i1), .val (.int i2), .val (.ref b1), .val (.int x35), .val (.int x43), .val (.ref b7), .val (.ref b10), .val (.int x98), .val (.int x105), .val (.int x117), .unset] [])
            refine Go.of (fun t k => XS.iconst X16.here hx rfl (hb hby at_149) k) ?_
            show Go p e below Φ T16 (mkF m 150 #[.val (.int i0), .val (.int i1), .val (.int i2), .val (.ref b1), .val (.int x35), .val (.int x43), .val (.ref b7), .val (.ref b10), .val (.int x98), .val (.int x105), .val (.int x117), .unset] [(.int (1 : Int32))])
            refine Go.of (fun t k => XS.goto X16.here hx rfl (pc0 := 150) (pc' := 154) rfl (hb hby at_150) (by decide) (by decide) k) ?_
            show Go p e below Φ T16 (mkF m 154 #[.val (.int i0), .val (.int i1), .val (.int i2), .val (.ref b1), .val (.int x35), .val (.int x43), .val (.ref b7), .val (.ref b10), .val (.int x98), .val (.int x105), .val (.int x117), .unset] [(.int (1 : Int32))])
            exact j154_17 _ (by rw [if_neg hc123, if_pos hc131, if_pos hc138, if_pos hc146])
          · refine Go.of (fun t k => XS.icmpYes X16.here hx rfl (pc0 := 146) (pc' := 153) rfl (hb hby at_146) rfl (XT.ii_ne_t hc146) (by decide) (by decide) k) ?_
            show Go p e below Φ T16 (mkF m 153 #[.val (.int i0), .val (.int i1), .val (.int i2), .val (.ref b1), .val (.int x35), .val (.int x43), .val (.ref b7), .val (.ref b10), .val (.int x98), .val (.int x105), .val (.int x117), .unset] [])
            refine Go.of (fun t k => XS.iconst X16.here hx rfl (hb hby at_153) k) ?_
            show Go p e below Φ T16 (mkF m 154 #[.val (.int i0), .val (.int i1), .val (.int i2), .val (.ref b1), .val (.int x35), .val (.int x43), .val (.ref b7), .val (.ref b10), .val (.int x98), .val (.int x105), .val (.int x117), .unset] [(.int (0 : Int32))])
            exact j154_17 _ (by rw [if_neg hc123, if_pos hc131, if_pos hc138, if_neg hc146])
        · refine Go.of (fun t k => XS.ifYes X16.here hx rfl (pc0 := 138) (pc' := 145) rfl (hb hby at_138) rfl (XT.i0_ne_t hc138) (by decide) (by decide) k) ?_
          show Go p e below Φ T16 (mkF m 145 #[.val (.int i0), .val (.int i1), .val (.int i2), .val (.ref b1), .val (.int x35), .val (.int x43), .val (.ref b7), .val (.ref b10), .val (.int x98), .val (.int x105), .val (.int x117), .unset] [(.int x105)])
          refine Go.of (fun t k => XS.iconst X16.here hx rfl (hb hby at_145) k) ?_
          show Go p e below Φ T16 (mkF m 146 #[.val (.int i0), .val (.int i1), .val (.int i2), .val (.ref b1), .val (.int x35), .val (.int x43), .val (.ref b7), .val (.ref b10), .val (.int x98), .val (.int x105), .val (.int x117), .unset] [(.int (0 : Int32)), (.int x105)])
          by_cases hc146 : x105 = (0 : Int32)
          · refine Go.of (fun t k => XS.icmpNo X16.here hx rfl (hb hby at_146) rfl (XT.ii_ne_f hc146) k) ?_
            show Go p e below Φ T16 (mkF m 149 #[.val (.int i0), .val (.int i1), .val (.int i2), .val (.ref b1), .val (.int x35), .val (.int x43), .val (.ref b7), .val (.ref b10), .val (.int x98), .val (.int x105), .val (.int x117), .unset] [])
            refine Go.of (fun t k => XS.iconst X16.here hx rfl (hb hby at_149) k) ?_
            show Go p e below Φ T16 (mkF m 150 #[.val (.int i0), .val (.int i1), .val (.int i2), .val (.ref b1), .val (.int x35), .val (.int x43), .val (.ref b7), .val (.ref b10), .val (.int x98), .val (.int x105), .val (.int x117), .unset] [(.int (1 : Int32))])
            refine Go.of (fun t k => XS.goto X16.here hx rfl (pc0 := 150) (pc' := 154) rfl (hb hby at_150) (by decide) (by decide) k) ?_
            show Go p e below Φ T16 (mkF m 154 #[.val (.int i0), .val (.int i1), .val (.int i2), .val (.ref b1), .val (.int x35), .val (.int x43), .val (.ref b7), .val (.ref b10), .val (.int x98), .val (.int x105), .val (.int x117), .unset] [(.int (1 : Int32))])
            exact j154_17 _ (by rw [if_neg hc123, if_pos hc131, if_neg hc138, if_pos hc146])
          · refine Go.of (fun t k => XS.icmpYes X16.here hx rfl (pc0 := 146) (pc' := 153) rfl (hb hby at_146) rfl (XT.ii_ne_t hc146) (by decide) (by decide) k) ?_
            show Go p e below Φ T16 (mkF m 153 #[.val (.int i0), .val (.int i1), .val (.int i2), .val (.ref b1), .val (.int x35), .val (.int x43), .val (.ref b7), .val (.ref b10), .val (.int x98), .val (.int x105), .val (.int x117), .unset] [])
            refine Go.of (fun t k => XS.iconst X16.here hx rfl (hb hby at_153) k) ?_
            show Go p e below Φ T16 (mkF m 154 #[.val (.int i0), .val (.int i1), .val (.int i2), .val (.ref b1), .val (.int x35), .val (.int x43), .val (.ref b7), .val (.ref b10), .val (.int x98), .val (.int x105), .val (.int x117), .unset] [(.int (0 : Int32))])
            exact j154_17 _ (by rw [if_neg hc123, if_pos hc131, if_neg hc138, if_neg hc146])
      · refine Go.of (fun t k => XS.icmpYes X16.here hx rfl (pc0 := 131) (pc' := 153) rfl (hb hby at_131) rfl (XT.ii_ne_t hc131) (by decide) (by decide) k) ?_
        show Go p e below Φ T16 (mkF m 153 #[.val (.int i0), .val (.int i1), .val (.int i2), .val (.ref b1), .val (.int x35), .val (.int x43), .val (.ref b7), .val (.ref b10), .val (.int x98), .val (.int x105), .val (.int x117), .unset] [])
        refine Go.of (fun t k => XS.iconst X16.here hx rfl (hb hby at_153) k) ?_
        show Go p e below Φ T16 (mkF m 154 #[.val (.int i0), .val (.int i1), .val (.int i2), .val (.ref b1), .val (.int x35), .val (.int x43), .val (.ref b7), .val (.ref b10), .val (.int x98), .val (.int x105), .val (.int x117), .unset] [(.int (0 : Int32))])
        exact j154_17 _ (by rw [if_neg hc123, if_neg hc131])
  intro v154 hv154
  show Go p e below Φ T16 (mkF m 154 #[.val (.int i0), .val (.int i1), .val (.int i2), .val (.ref b1), .val (.int x35), .val (.int x43), .val (.ref b7), .val (.ref b10), .val (.int x98), .val (.int x105), .val (.int x117), .unset] [(.int v154)])
  refine Go.of (fun t k => XS.istore X16.here hx rfl (hb hby at_154) rfl (l' := #[.val (.int i0), .val (.int i1), .val (.int i2), .val (.ref b1), .val (.int x35), .val (.int x43), .val (.ref b7), .val (.ref b10), .val (.int x98), .val (.int x105), .val (.int x117), .val (.int v154)]) rfl k) ?_
  show Go p e below Φ T16 (mkF m 156 #[.val (.int i0), .val (.int i1), .val (.int i2), .val (.ref b1), .val (.int x35), .val (.int x43), .val (.ref b7), .val (.ref b10), .val (.int x98), .val (.int x105), .val (.int x117), .val (.int v154)] [])
  refine Go.of (fun t k => XS.iload X16.here hx rfl (hb hby at_156) rfl  k) ?_
  show Go p e below Φ T16 (mkF m 158 #[.val (.int i0), .val (.int i1), .val (.int i2), .val (.ref b1), .val (.int x35), .val (.int x43), .val (.ref b7), .val (.ref b10), .val (.int x98), .val (.int x105), .val (.int x117), .val (.int v154)] [(.int v154)])
  refine Go.of (fun t k => XS.ifNo X16.here hx rfl (hb hby at_158) rfl (XT.i0_eq_f (own_at158 i0 i1 i2 sN sU x35 hx35 x43 hx43 v64 hv64 y9_volatility hy9_volatility y9_returnsSets hy9_returnsSets v88 hv88 y12_volatility hy12_volatility y12_returnsSets hy12_returnsSets x98 hx98 x105 hx105 y15_volatility hy15_volatility y15_returnsSets hy15_returnsSets x117 hx117 v154 hv154 )) k) ?_
  show Go p e below Φ T16 (mkF m 161 #[.val (.int i0), .val (.int i1), .val (.int i2), .val (.ref b1), .val (.int x35), .val (.int x43), .val (.ref b7), .val (.ref b10), .val (.int x98), .val (.int x105), .val (.int x117), .val (.int v154)] [])
  refine Go.of (fun t k => XS.iload X16.here hx rfl (hb hby at_161) rfl  k) ?_
  show Go p e below Φ T16 (mkF m 163 #[.val (.int i0), .val (.int i1), .val (.int i2), .val (.ref b1), .val (.int x35), .val (.int x43), .val (.ref b7), .val (.ref b10), .val (.int x98), .val (.int x105), .val (.int x117), .val (.int v154)] [(.int x117)])
  refine Go.of (fun t k => XS.iload X16.here hx rfl (hb hby at_163) rfl  k) ?_
  show Go p e below Φ T16 (mkF m 165 #[.val (.int i0), .val (.int i1), .val (.int i2), .val (.ref b1), .val (.int x35), .val (.int x43), .val (.ref b7), .val (.ref b10), .val (.int x98), .val (.int x105), .val (.int x117), .val (.int v154)] [(.int x98), (.int x117)])
  suffices j178_18 :  ∀ v178 : Int32, v178 = (if x98 = (0 : Int32) then (0 : Int32) else (if x105 = (0 : Int32) then (0 : Int32) else (1 : Int32))) → Go p e below Φ T16 (mkF m 178 #[.val (.int i0), .val (.int i1), .val (.int i2), .val (.ref b1), .val (.int x35), .val (.int x43), .val (.ref b7), .val (.ref b10), .val (.int x98), .val (.int x105), .val (.int x117), .val (.int v154)] [(.int v178), (.int x117)]) by
    by_cases hc165 : x98 = (0 : Int32)
    · refine Go.of (fun t k => XS.ifYes X16.here hx rfl (pc0 := 165) (pc' := 177) rfl (hb hby at_165) rfl (XT.i0_eq_t hc165) (by decide) (by decide) k) ?_
      show Go p e below Φ T16 (mkF m 177 #[.val (.int i0), .val (.int i1), .val (.int i2), .val (.ref b1), .val (.int x35), .val (.int x43), .val (.ref b7), .val (.ref b10), .val (.int x98), .val (.int x105), .val (.int x117), .val (.int v154)] [(.int x117)])
      refine Go.of (fun t k => XS.iconst X16.here hx rfl (hb hby at_177) k) ?_
      show Go p e below Φ T16 (mkF m 178 #[.val (.int i0), .val (.int i1), .val (.int i2), .val (.ref b1), .val (.int x35), .val (.int x43), .val (.ref b7), .val (.ref b10), .val (.int x98), .val (.int x105), .val (.int x117), .val (.int v154)] [(.int (0 : Int32)), (.int x117)])
      exact j178_18 _ (by rw [if_pos hc165])
    · refine Go.of (fun t k => XS.ifNo X16.here hx rfl (hb hby at_165) rfl (XT.i0_eq_f hc165) k) ?_
      show Go p e below Φ T16 (mkF m 168 #[.val (.int i0), .val (.int i1), .val (.int i2), .val (.ref b1), .val (.int x35), .val (.int x43), .val (.ref b7), .val (.ref b10), .val (.int x98), .val (.int x105), .val (.int x117), .val (.int v154)] [(.int x117)])
      refine Go.of (fun t k => XS.iload X16.here hx rfl (hb hby at_168) rfl  k) ?_
      show Go p e below Φ T16 (mkF m 170 #[.val (.int i0), .val (.int i1), .val (.int i2), .val (.ref b1), .val (.int x35), .val (.int x43), .val (.ref b7), .val (.ref b10), .val (.int x98), .val (.int x105), .val (.int x117), .val (.int v154)] [(.int x105), (.int x117)])
      by_cases hc170 : x105 = (0 : Int32)
      · refine Go.of (fun t k => XS.ifYes X16.here hx rfl (pc0 := 170) (pc' := 177) rfl (hb hby at_170) rfl (XT.i0_eq_t hc170) (by decide) (by decide) k) ?_
        show Go p e below Φ T16 (mkF m 177 #[.val (.int i0), .val (.int i1), .val (.int i2), .val (.ref b1), .val (.int x35), .val (.int x43), .val (.ref b7), .val (.ref b10), .val (.int x98), .val (.int x105), .val (.int x117), .val (.int v154)] [(.int x117)])
        refine Go.of (fun t k => XS.iconst X16.here hx rfl (hb hby at_177) k) ?_
        show Go p e below Φ T16 (mkF m 178 #[.val (.int i0), .val (.int i1), .val (.int i2), .val (.ref b1), .val (.int x35), .val (.int x43), .val (.ref b7), .val (.ref b10), .val (.int x98), .val (.int x105), .val (.int x117), .val (.int v154)] [(.int (0 : Int32)), (.int x117)])
        exact j178_18 _ (by rw [if_neg hc165, if_pos hc170])
      · refine Go.of (fun t k => XS.ifNo X16.here hx rfl (hb hby at_170) rfl (XT.i0_eq_f hc170) k) ?_
        show Go p e below Φ T16 (mkF m 173 #[.val (.int i0), .val (.int i1), .val (.int i2), .val (.ref b1), .val (.int x35), .val (.int x43), .val (.ref b7), .val (.ref b10), .val (.int x98), .val (.int x105), .val (.int x117), .val (.int v154)] [(.int x117)])
        refine Go.of (fun t k => XS.iconst X16.here hx rfl (hb hby at_173) k) ?_
        show Go p e below Φ T16 (mkF m 174 #[.val (.int i0), .val (.int i1), .val (.int i2), .val (.ref b1), .val (.int x35), .val (.int x43), .val (.ref b7), .val (.ref b10), .val (.int x98), .val (.int x105), .val (.int x117), .val (.int v154)] [(.int (1 : Int32)), (.int x117)])
        refine Go.of (fun t k => XS.goto X16.here hx rfl (pc0 := 174) (pc' := 178) rfl (hb hby at_174) (by decide) (by decide) k) ?_
        show Go p e below Φ T16 (mkF m 178 #[.val (.int i0), .val (.int i1), .val (.int i2), .val (.ref b1), .val (.int x35), .val (.int x43), .val (.ref b7), .val (.ref b10), .val (.int x98), .val (.int x105), .val (.int x117), .val (.int v154)] [(.int (1 : Int32)), (.int x117)])
        exact j178_18 _ (by rw [if_neg hc165, if_neg hc170])
  intro v178 hv178
  show Go p e below Φ T16 (mkF m 178 #[.val (.int i0), .val (.int i1), .val (.int i2), .val (.ref b1), .val (.int x35), .val (.int x43), .val (.ref b7), .val (.ref b10), .val (.int x98), .val (.int x105), .val (.int x117), .val (.int v154)] [(.int v178), (.int x117)])
  suffices j186_19 :  ∀ v186 : Int32, v186 = (if x117 = v178 then (1 : Int32) else (0 : Int32)) → Go p e below Φ T16 (mkF m 186 #[.val (.int i0), .val (.int i1), .val (.int i2), .val (.ref b1), .val (.int x35), .val (.int x43), .val (.ref b7), .val (.ref b10), .val (.int x98), .val (.int x105), .val (.int x117), .val (.int v154)] [(.int v186)]) by
    by_cases hc178 : x117 = v178
    · refine Go.of (fun t k => XS.icmpNo X16.here hx rfl (hb hby at_178) rfl (XT.ii_ne_f hc178) k) ?_
      show Go p e below Φ T16 (mkF m 181 #[.val (.int i0), .val (.int i1), .val (.int i2), .val (.ref b1), .val (.int x35), .val (.int x43), .val (.ref b7), .val (.ref b10), .val (.int x98), .val (.int x105), .val (.int x117), .val (.int v154)] [])
      refine Go.of (fun t k => XS.iconst X16.here hx rfl (hb hby at_181) k) ?_
      show Go p e below Φ T16 (mkF m 182 #[.val (.int i0), .val (.int i1), .val (.int i2), .val (.ref b1), .val (.int x35), .val (.int x43), .val (.ref b7), .val (.ref b10), .val (.int x98), .val (.int x105), .val (.int x117), .val (.int v154)] [(.int (1 : Int32))])
      refine Go.of (fun t k => XS.goto X16.here hx rfl (pc0 := 182) (pc' := 186) rfl (hb hby at_182) (by decide) (by decide) k) ?_
      show Go p e below Φ T16 (mkF m 186 #[.val (.int i0), .val (.int i1), .val (.int i2), .val (.ref b1), .val (.int x35), .val (.int x43), .val (.ref b7), .val (.ref b10), .val (.int x98), .val (.int x105), .val (.int x117), .val (.int v154)] [(.int (1 : Int32))])
      exact j186_19 _ (by rw [if_pos hc178])
    · refine Go.of (fun t k => XS.icmpYes X16.here hx rfl (pc0 := 178) (pc' := 185) rfl (hb hby at_178) rfl (XT.ii_ne_t hc178) (by decide) (by decide) k) ?_
      show Go p e below Φ T16 (mkF m 185 #[.val (.int i0), .val (.int i1), .val (.int i2), .val (.ref b1), .val (.int x35), .val (.int x43), .val (.ref b7), .val (.ref b10), .val (.int x98), .val (.int x105), .val (.int x117), .val (.int v154)] [])
      refine Go.of (fun t k => XS.iconst X16.here hx rfl (hb hby at_185) k) ?_
      show Go p e below Φ T16 (mkF m 186 #[.val (.int i0), .val (.int i1), .val (.int i2), .val (.ref b1), .val (.int x35), .val (.int x43), .val (.ref b7), .val (.ref b10), .val (.int x98), .val (.int x105), .val (.int x117), .val (.int v154)] [(.int (0 : Int32))])
      exact j186_19 _ (by rw [if_neg hc178])
  intro v186 hv186
  show Go p e below Φ T16 (mkF m 186 #[.val (.int i0), .val (.int i1), .val (.int i2), .val (.ref b1), .val (.int x35), .val (.int x43), .val (.ref b7), .val (.ref b10), .val (.int x98), .val (.int x105), .val (.int x117), .val (.int v154)] [(.int v186)])
  refine Go.of (fun t k => XS.istore X16.here hx rfl (hb hby at_186) rfl (l' := #[.val (.int i0), .val (.int i1), .val (.int i2), .val (.ref b1), .val (.int x35), .val (.int x43), .val (.ref b7), .val (.ref b10), .val (.int x98), .val (.int x105), .val (.int x117), .val (.int v186)]) rfl k) ?_
  show Go p e below Φ T16 (mkF m 188 #[.val (.int i0), .val (.int i1), .val (.int i2), .val (.ref b1), .val (.int x35), .val (.int x43), .val (.ref b7), .val (.ref b10), .val (.int x98), .val (.int x105), .val (.int x117), .val (.int v186)] [])
  refine Go.of (fun t k => XS.iload X16.here hx rfl (hb hby at_188) rfl  k) ?_
  show Go p e below Φ T16 (mkF m 190 #[.val (.int i0), .val (.int i1), .val (.int i2), .val (.ref b1), .val (.int x35), .val (.int x43), .val (.ref b7), .val (.ref b10), .val (.int x98), .val (.int x105), .val (.int x117), .val (.int v186)] [(.int v186)])
  refine Go.of (fun t k => XS.ifNo X16.here hx rfl (hb hby at_190) rfl (XT.i0_eq_f (own_at190 i0 i1 i2 sN sU x35 hx35 x43 hx43 v64 hv64 y9_volatility hy9_volatility y9_returnsSets hy9_returnsSets v88 hv88 y12_volatility hy12_volatility y12_returnsSets hy12_returnsSets x98 hx98 x105 hx105 y15_volatility hy15_volatility y15_returnsSets hy15_returnsSets x117 hx117 v154 hv154 v178 hv178 v186 hv186 )) k) ?_
  show Go p e below Φ T16 (mkF m 193 #[.val (.int i0), .val (.int i1), .val (.int i2), .val (.ref b1), .val (.int x35), .val (.int x43), .val (.ref b7), .val (.ref b10), .val (.int x98), .val (.int x105), .val (.int x117), .val (.int v186)] [])
  refine Go.of (fun t k => XS.iload X16.here hx rfl (hb hby at_193) rfl  k) ?_
  show Go p e below Φ T16 (mkF m 195 #[.val (.int i0), .val (.int i1), .val (.int i2), .val (.ref b1), .val (.int x35), .val (.int x43), .val (.ref b7), .val (.ref b10), .val (.int x98), .val (.int x105), .val (.int x117), .val (.int v186)] [(.int x98)])
  suffices j224_20 : ∀ (T20 : State) (lc20 : List Loc), Stand p l e room_1 s m #[(.int i0), (.int i1), (.int i2)] below meth c T20 lc20 4 11 → Fr n0 lc20 → T20.heap = T15.heap → ∀ v224 : Int32, v224 = (if x98 = (0 : Int32) then (1 : Int32) else (if (own_rep y9_volatility) = (0 : Int32) then (0 : Int32) else (if (own_may y9_volatility) = (0 : Int32) then (1 : Int32) else (0 : Int32)))) → Go p e below Φ T20 (mkF m 224 #[.val (.int i0), .val (.int i1), .val (.int i2), .val (.ref b1), .val (.int x35), .val (.int x43), .val (.ref b7), .val (.ref b10), .val (.int x98), .val (.int x105), .val (.int x117), .val (.int v186)] [(.int v224)]) by
    by_cases hc195 : x98 = (0 : Int32)
    · refine Go.of (fun t k => XS.ifYes X16.here hx rfl (pc0 := 195) (pc' := 206) rfl (hb hby at_195) rfl (XT.i0_eq_t hc195) (by decide) (by decide) k) ?_
      show Go p e below Φ T16 (mkF m 206 #[.val (.int i0), .val (.int i1), .val (.int i2), .val (.ref b1), .val (.int x35), .val (.int x43), .val (.ref b7), .val (.ref b10), .val (.int x98), .val (.int x105), .val (.int x117), .val (.int v186)] [])
      refine Go.of (fun t k => XS.iload X16.here hx rfl (hb hby at_206) rfl  k) ?_
      show Go p e below Φ T16 (mkF m 208 #[.val (.int i0), .val (.int i1), .val (.int i2), .val (.ref b1), .val (.int x35), .val (.int x43), .val (.ref b7), .val (.ref b10), .val (.int x98), .val (.int x105), .val (.int x117), .val (.int v186)] [(.int x98)])
      refine Go.of (fun t k => XS.ifYes X16.here hx rfl (pc0 := 208) (pc' := 219) rfl (hb hby at_208) rfl (XT.i0_eq_t hc195) (by decide) (by decide) k) ?_
      show Go p e below Φ T16 (mkF m 219 #[.val (.int i0), .val (.int i1), .val (.int i2), .val (.ref b1), .val (.int x35), .val (.int x43), .val (.ref b7), .val (.ref b10), .val (.int x98), .val (.int x105), .val (.int x117), .val (.int v186)] [])
      refine Go.of (fun t k => XS.iconst X16.here hx rfl (hb hby at_219) k) ?_
      show Go p e below Φ T16 (mkF m 220 #[.val (.int i0), .val (.int i1), .val (.int i2), .val (.ref b1), .val (.int x35), .val (.int x43), .val (.ref b7), .val (.ref b10), .val (.int x98), .val (.int x105), .val (.int x117), .val (.int v186)] [(.int (1 : Int32))])
      refine Go.of (fun t k => XS.goto X16.here hx rfl (pc0 := 220) (pc' := 224) rfl (hb hby at_220) (by decide) (by decide) k) ?_
      show Go p e below Φ T16 (mkF m 224 #[.val (.int i0), .val (.int i1), .val (.int i2), .val (.ref b1), .val (.int x35), .val (.int x43), .val (.ref b7), .val (.ref b10), .val (.int x98), .val (.int x105), .val (.int x117), .val (.int v186)] [(.int (1 : Int32))])
      exact j224_20 _ _ (X16.more (by decide) (by decide)) N16 (e16q) _ (by rw [if_pos hc195])
    · refine Go.of (fun t k => XS.ifNo X16.here hx rfl (hb hby at_195) rfl (XT.i0_eq_f hc195) k) ?_
      show Go p e below Φ T16 (mkF m 198 #[.val (.int i0), .val (.int i1), .val (.int i2), .val (.ref b1), .val (.int x35), .val (.int x43), .val (.ref b7), .val (.ref b10), .val (.int x98), .val (.int x105), .val (.int x117), .val (.int v186)] [])
      refine Go.of (fun t k => XS.aload X16.here hx rfl (hb hby at_198) rfl rfl  k) ?_
      show Go p e below Φ T16 (mkF m 200 #[.val (.int i0), .val (.int i1), .val (.int i2), .val (.ref b1), .val (.int x35), .val (.int x43), .val (.ref b7), .val (.ref b10), .val (.int x98), .val (.int x105), .val (.int x117), .val (.int v186)] [(.ref b7)])
      obtain ⟨cq21, kq21, q21a, q21b, q21c⟩ := isOf hZ (e16q) E_b7
      obtain ⟨_, _, ⟨T21, L21, k21, n21⟩, -, X21, ⟨Lc21, hQ21, l21, y21, z21⟩, st21⟩ := X16.virtualBack hx (y := (⟨"com/example/shelfset/shelfset/Catalog$Function", "repeatable", "()Z"⟩ : MethodName)) (z := (⟨"com/example/shelfset/shelfset/Catalog$Function", "repeatable", "()Z"⟩ : MethodName)) hown (mvT hZ (hw _ (List.mem_of_getElem? (i := 36) rfl))) (mvT hZ (hw _ (List.mem_of_getElem? (i := 37) rfl))) (notFace_of_selects (args := #[]) (mvT hZ (hw _ (List.mem_of_getElem? (i := 39) rfl)))) (mvT hZ (hw _ (List.mem_of_getElem? (i := 39) rfl))) (mvT hZ (hw _ (List.mem_of_getElem? (i := 38) rfl))) (by decide) (backOf (W := 0) (rm7 l Z a0 hw [] b7 y9_volatility T15.heap n0 Z15 F_b7_volatility) hZ (hw _ (List.mem_of_getElem? (i := 40) rfl)) (hw _ (List.mem_of_getElem? (i := 4) rfl)) (by decide) (by decide)) q21a q21c (g := (mkF m 200 #[.val (.int i0), .val (.int i1), .val (.int i2), .val (.ref b1), .val (.int x35), .val (.int x43), .val (.ref b7), .val (.ref b10), .val (.int x98), .val (.int x105), .val (.int x117), .val (.int v186)] [(.ref b7)])) rfl (by rw [hml]; rfl) (Steps.refl _) (argsL := []) (rest := []) (lenOf own_pd3 rfl) rfl (by show 2 * 0 + _ ≤ _; exact Nat.le_of_eq rfl) (hb hby at_200) (fun _ _ => ⟨rfl, (e16q), (by decide : 4 + 0 ≤ _), (by decide : 11 + 0 ≤ _)⟩)
      dsimp only [Pt.U, Pt.locs, Pt.cells, Pt.slots] at X21 l21 y21 z21 st21 hQ21
      subst l21 y21 z21
      obtain ⟨rfl, N21q, e21q⟩ := hQ21
      have N21 := Fr.app N16 N21q
      obtain ⟨lc21, X21, N21⟩ : ∃ lc, Stand p l e room_1 s m #[(.int i0), (.int i1), (.int i2)] below meth c T21 lc 4 11 ∧ Fr n0 lc := ⟨_, X21, N21⟩
      refine Go.tr st21 ?_
      show Go p e below Φ T21 (mkF m 203 #[.val (.int i0), .val (.int i1), .val (.int i2), .val (.ref b1), .val (.int x35), .val (.int x43), .val (.ref b7), .val (.ref b10), .val (.int x98), .val (.int x105), .val (.int x117), .val (.int v186)] [(.int (own_rep y9_volatility))])
      by_cases hc203 : (own_rep y9_volatility) = (0 : Int32)
      · refine Go.of (fun t k => XS.ifYes X21.here hx rfl (pc0 := 203) (pc' := 223) rfl (hb hby at_203) rfl (XT.i0_eq_t hc203) (by decide) (by decide) k) ?_
        show Go p e below Φ T21 (mkF m 223 #[.val (.int i0), .val (.int i1), .val (.int i2), .val (.ref b1), .val (.int x35), .val (.int x43), .val (.ref b7), .val (.ref b10), .val (.int x98), .val (.int x105), .val (.int x117), .val (.int v186)] [])
        refine Go.of (fun t k => XS.iconst X21.here hx rfl (hb hby at_223) k) ?_
        show Go p e below Φ T21 (mkF m 224 #[.val (.int i0), .val (.int i1), .val (.int i2), .val (.ref b1), .val (.int x35), .val (.int x43), .val (.ref b7), .val (.ref b10), .val (.int x98), .val (.int x105), .val (.int x117), .val (.int v186)] [(.int (0 : Int32))])
        exact j224_20 _ _ (X21.more (by decide) (by decide)) N21 (e21q) _ (by rw [if_neg hc195, if_pos hc203])
      · refine Go.of (fun t k => XS.ifNo X21.here hx rfl (hb hby at_203) rfl (XT.i0_eq_f hc203) k) ?_
        show Go p e below Φ T21 (mkF m 206 #[.val (.int i0), .val (.int i1), .val (.int i2), .val (.ref b1), .val (.int x35), .val (.int x43), .val (.ref b7), .val (.ref b10), .val (.int x98), .val (.int x105), .val (.int x117), .val (.int v186)] [])
        refine Go.of (fun t k => XS.iload X21.here hx rfl (hb hby at_206) rfl  k) ?_
        show Go p e below Φ T21 (mkF m 208 #[.val (.int i0), .val (.int i1), .val (.int i2), .val (.ref b1), .val (.int x35), .val (.int x43), .val (.ref b7), .val (.ref b10), .val (.int x98), .val (.int x105), .val (.int x117), .val (.int v186)] [(.int x98)])
        refine Go.of (fun t k => XS.ifNo X21.here hx rfl (hb hby at_208) rfl (XT.i0_eq_f hc195) k) ?_
        show Go p e below Φ T21 (mkF m 211 #[.val (.int i0), .val (.int i1), .val (.int i2), .val (.ref b1), .val (.int x35), .val (.int x43), .val (.ref b7), .val (.ref b10), .val (.int x98), .val (.int x105), .val (.int x117), .val (.int v186)] [])
        refine Go.of (fun t k => XS.aload X21.here hx rfl (hb hby at_211) rfl rfl  k) ?_
        show Go p e below Φ T21 (mkF m 213 #[.val (.int i0), .val (.int i1), .val (.int i2), .val (.ref b1), .val (.int x35), .val (.int x43), .val (.ref b7), .val (.ref b10), .val (.int x98), .val (.int x105), .val (.int x117), .val (.int v186)] [(.ref b7)])
        obtain ⟨cq22, kq22, q22a, q22b, q22c⟩ := isOf hZ (e21q) E_b7
        obtain ⟨_, _, ⟨T22, L22, k22, n22⟩, -, X22, ⟨Lc22, hQ22, l22, y22, z22⟩, st22⟩ := X21.virtualBack hx (y := (⟨"com/example/shelfset/shelfset/Catalog$Function", "mayWrite", "()Z"⟩ : MethodName)) (z := (⟨"com/example/shelfset/shelfset/Catalog$Function", "mayWrite", "()Z"⟩ : MethodName)) hown (mvT hZ (hw _ (List.mem_of_getElem? (i := 41) rfl))) (mvT hZ (hw _ (List.mem_of_getElem? (i := 42) rfl))) (notFace_of_selects (args := #[]) (mvT hZ (hw _ (List.mem_of_getElem? (i := 44) rfl)))) (mvT hZ (hw _ (List.mem_of_getElem? (i := 44) rfl))) (mvT hZ (hw _ (List.mem_of_getElem? (i := 43) rfl))) (by decide) (backOf (W := 0) (rm8 l Z a0 hw [] b7 y9_volatility T15.heap n0 Z15 F_b7_volatility) hZ (hw _ (List.mem_of_getElem? (i := 45) rfl)) (hw _ (List.mem_of_getElem? (i := 4) rfl)) (by decide) (by decide)) q22a q22c (g := (mkF m 213 #[.val (.int i0), .val (.int i1), .val (.int i2), .val (.ref b1), .val (.int x35), .val (.int x43), .val (.ref b7), .val (.ref b10), .val (.int x98), .val (.int x105), .val (.int x117), .val (.int v186)] [(.ref b7)])) rfl (by rw [hml]; rfl) (Steps.refl _) (argsL := []) (rest := []) (lenOf own_pd3 rfl) rfl (by show 2 * 0 + _ ≤ _; exact Nat.le_of_eq rfl) (hb hby at_213) (fun _ _ => ⟨rfl, (e21q), (by decide : 4 + 0 ≤ _), (by decide : 11 + 0 ≤ _)⟩)
        dsimp only [Pt.U, Pt.locs, Pt.cells, Pt.slots] at X22 l22 y22 z22 st22 hQ22
        subst l22 y22 z22
        obtain ⟨rfl, N22q, e22q⟩ := hQ22
        have N22 := Fr.app N21 N22q
        obtain ⟨lc22, X22, N22⟩ : ∃ lc, Stand p l e room_1 s m #[(.int i0), (.int i1), (.int i2)] below meth c T22 lc 4 11 ∧ Fr n0 lc := ⟨_, X22, N22⟩
        refine Go.tr st22 ?_
        show Go p e below Φ T22 (mkF m 216 #[.val (.int i0), .val (.int i1), .val (.int i2), .val (.ref b1), .val (.int x35), .val (.int x43), .val (.ref b7), .val (.ref b10), .val (.int x98), .val (.int x105), .val (.int x117), .val (.int v186)] [(.int (own_may y9_volatility))])
        by_cases hc216 : (own_may y9_volatility) = (0 : Int32)
        · refine Go.of (fun t k => XS.ifNo X22.here hx rfl (hb hby at_216) rfl (XT.i0_ne_f hc216) k) ?_
          show Go p e below Φ T22 (mkF m 219 #[.val (.int i0), .val (.int i1), .val (.int i2), .val (.ref b1), .val (.int x35), .val (.int x43), .val (.ref b7), .val (.ref b10), .val (.int x98), .val (.int x105), .val (.int x117), .val (.int v186)] [])
          refine Go.of (fun t k => XS.iconst X22.here hx rfl (hb hby at_219) k) ?_
          show Go p e below Φ T22 (mkF m 220 #[.val (.int i0), .val (.int i1), .val (.int i2), .val (.ref b1), .val (.int x35), .val (.int x43), .val (.ref b7), .val (.ref b10), .val (.int x98), .val (.int x105), .val (.int x117), .val (.int v186)] [(.int (1 : Int32))])
          refine Go.of (fun t k => XS.goto X22.here hx rfl (pc0 := 220) (pc' := 224) rfl (hb hby at_220) (by decide) (by decide) k) ?_
          show Go p e below Φ T22 (mkF m 224 #[.val (.int i0), .val (.int i1), .val (.int i2), .val (.ref b1), .val (.int x35), .val (.int x43), .val (.ref b7), .val (.ref b10), .val (.int x98), .val (.int x105), .val (.int x117), .val (.int v186)] [(.int (1 : Int32))])
          exact j224_20 _ _ (X22.more (by decide) (by decide)) N22 (e22q) _ (by rw [if_neg hc195, if_neg hc203, if_pos hc216])
        · refine Go.of (fun t k => XS.ifYes X22.here hx rfl (pc0 := 216) (pc' := 223) rfl (hb hby at_216) rfl (XT.i0_ne_t hc216) (by decide) (by decide) k) ?_
          show Go p e below Φ T22 (mkF m 223 #[.val (.int i0), .val (.int i1), .val (.int i2), .val (.ref b1), .val (.int x35), .val (.int x43), .val (.ref b7), .val (.ref b10), .val (.int x98), .val (.int x105), .val (.int x117), .val (.int v186)] [])
          refine Go.of (fun t k => XS.iconst X22.here hx rfl (hb hby at_223) k) ?_
          show Go p e below Φ T22 (mkF m 224 #[.val (.int i0), .val (.int i1), .val (.int i2), .val (.ref b1), .val (.int x35), .val (.int x43), .val (.ref b7), .val (.ref b10), .val (.int x98), .val (.int x105), .val (.int x117), .val (.int v186)] [(.int (0 : Int32))])
          exact j224_20 _ _ (X22.more (by decide) (by decide)) N22 (e22q) _ (by rw [if_neg hc195, if_neg hc203, if_neg hc216])
  intro T20 lc20 X20 N20 e20 v224 hv224
  show Go p e below Φ T20 (mkF m 224 #[.val (.int i0), .val (.int i1), .val (.int i2), .val (.ref b1), .val (.int x35), .val (.int x43), .val (.ref b7), .val (.ref b10), .val (.int x98), .val (.int x105), .val (.int x117), .val (.int v186)] [(.int v224)])
  refine Go.of (fun t k => XS.istore X20.here hx rfl (hb hby at_224) rfl (l' := #[.val (.int i0), .val (.int i1), .val (.int i2), .val (.ref b1), .val (.int x35), .val (.int x43), .val (.ref b7), .val (.ref b10), .val (.int x98), .val (.int x105), .val (.int x117), .val (.int v224)]) rfl k) ?_
  show Go p e below Φ T20 (mkF m 226 #[.val (.int i0), .val (.int i1), .val (.int i2), .val (.ref b1), .val (.int x35), .val (.int x43), .val (.ref b7), .val (.ref b10), .val (.int x98), .val (.int x105), .val (.int x117), .val (.int v224)] [])
  refine Go.of (fun t k => XS.iload X20.here hx rfl (hb hby at_226) rfl  k) ?_
  show Go p e below Φ T20 (mkF m 228 #[.val (.int i0), .val (.int i1), .val (.int i2), .val (.ref b1), .val (.int x35), .val (.int x43), .val (.ref b7), .val (.ref b10), .val (.int x98), .val (.int x105), .val (.int x117), .val (.int v224)] [(.int v224)])
  refine Go.of (fun t k => XS.ifNo X20.here hx rfl (hb hby at_228) rfl (XT.i0_eq_f (own_at228 i0 i1 i2 sN sU x35 hx35 x43 hx43 v64 hv64 y9_volatility hy9_volatility y9_returnsSets hy9_returnsSets v88 hv88 y12_volatility hy12_volatility y12_returnsSets hy12_returnsSets x98 hx98 x105 hx105 y15_volatility hy15_volatility y15_returnsSets hy15_returnsSets x117 hx117 v154 hv154 v178 hv178 v186 hv186 v224 hv224 )) k) ?_
  show Go p e below Φ T20 (mkF m 231 #[.val (.int i0), .val (.int i1), .val (.int i2), .val (.ref b1), .val (.int x35), .val (.int x43), .val (.ref b7), .val (.ref b10), .val (.int x98), .val (.int x105), .val (.int x117), .val (.int v224)] [])
  obtain ⟨T23, X23, e23, st23⟩ := getS2 X20 hx hZ hown (host := "") (Or.inl (hw _ (List.mem_of_getElem? (i := 46) rfl))) Via.refl e20 (S_NONE.ext O15.2) (g := (mkF m 231 #[.val (.int i0), .val (.int i1), .val (.int i2), .val (.ref b1), .val (.int x35), .val (.int x43), .val (.ref b7), .val (.ref b10), .val (.int x98), .val (.int x105), .val (.int x117), .val (.int v224)] [])) rfl (hb hby at_231)
  refine Go.of st23 ?_
  show Go p e below Φ T23 (mkF m 234 #[.val (.int i0), .val (.int i1), .val (.int i2), .val (.ref b1), .val (.int x35), .val (.int x43), .val (.ref b7), .val (.ref b10), .val (.int x98), .val (.int x105), .val (.int x117), .val (.int v224)] [(.ref sN)])
  obtain ⟨cq24, kq24, q24a, q24b, q24c⟩ := isOf hZ e23 (E_sN.ext O15.2)
  obtain ⟨_, _, ⟨T24, L24, k24, n24⟩, -, X24, ⟨Lc24, hQ24, l24, y24, z24⟩, st24⟩ := X23.virtualBack hx (y := (⟨"com/example/shelfset/shelfset/Catalog$Function", "readsNothing", "()Z"⟩ : MethodName)) (z := (⟨"com/example/shelfset/shelfset/Catalog$Function", "readsNothing", "()Z"⟩ : MethodName)) hown (mvT hZ (hw _ (List.mem_of_getElem? (i := 20) rfl))) (mvT hZ (hw _ (List.mem_of_getElem? (i := 21) rfl))) (notFace_of_selects (args := #[]) (mvT hZ (hw _ (List.mem_of_getElem? (i := 23) rfl)))) (mvT hZ (hw _ (List.mem_of_getElem? (i := 23) rfl))) (mvT hZ (hw _ (List.mem_of_getElem? (i := 22) rfl))) (by decide) (backOf (W := 0) (rm4 l Z a0 hw [] sN (105 : Int32) T15.heap n0 Z15 (F_sN_volatility.ext O15.2)) hZ (hw _ (List.mem_of_getElem? (i := 24) rfl)) (hw _ (List.mem_of_getElem? (i := 4) rfl)) (by decide) (by decide)) q24a q24c (g := (mkF m 234 #[.val (.int i0), .val (.int i1), .val (.int i2), .val (.ref b1), .val (.int x35), .val (.int x43), .val (.ref b7), .val (.ref b10), .val (.int x98), .val (.int x105), .val (.int x117), .val (.int v224)] [(.ref sN)])) rfl (by rw [hml]; rfl) (Steps.refl _) (argsL := []) (rest := []) (lenOf own_pd3 rfl) rfl (by show 2 * 0 + _ ≤ _; exact Nat.le_of_eq rfl) (hb hby at_234) (fun _ _ => ⟨rfl, e23, (by decide : 4 + 0 ≤ _), (by decide : 11 + 0 ≤ _)⟩)
  dsimp only [Pt.U, Pt.locs, Pt.cells, Pt.slots] at X24 l24 y24 z24 st24 hQ24
  subst l24 y24 z24
  obtain ⟨rfl, N24q, e24q⟩ := hQ24
  have N24 := Fr.app N20 N24q
  obtain ⟨lc24, X24, N24⟩ : ∃ lc, Stand p l e room_1 s m #[(.int i0), (.int i1), (.int i2)] below meth c T24 lc 4 11 ∧ Fr n0 lc := ⟨_, X24, N24⟩
  refine Go.tr st24 ?_
  show Go p e below Φ T24 (mkF m 237 #[.val (.int i0), .val (.int i1), .val (.int i2), .val (.ref b1), .val (.int x35), .val (.int x43), .val (.ref b7), .val (.ref b10), .val (.int x98), .val (.int x105), .val (.int x117), .val (.int v224)] [(.int (own_reads (105 : Int32)))])
  suffices j254_25 : ∀ (T25 : State) (lc25 : List Loc), Stand p l e room_1 s m #[(.int i0), (.int i1), (.int i2)] below meth c T25 lc25 4 11 → Fr n0 lc25 → T25.heap = T15.heap → ∀ v254 : Int32, v254 = (if (own_reads (105 : Int32)) = (0 : Int32) then (0 : Int32) else (if (own_reads (118 : Int32)) = (0 : Int32) then (1 : Int32) else (0 : Int32))) → Go p e below Φ T25 (mkF m 254 #[.val (.int i0), .val (.int i1), .val (.int i2), .val (.ref b1), .val (.int x35), .val (.int x43), .val (.ref b7), .val (.ref b10), .val (.int x98), .val (.int x105), .val (.int x117), .val (.int v224)] [(.int v254)]) by
    by_cases hc237 : (own_reads (105 : Int32)) = (0 : Int32)
    · refine Go.of (fun t k => XS.ifYes X24.here hx rfl (pc0 := 237) (pc' := 253) rfl (hb hby at_237) rfl (XT.i0_eq_t hc237) (by decide) (by decide) k) ?_
      show Go p e below Φ T24 (mkF m 253 #[.val (.int i0), .val (.int i1), .val (.int i2), .val (.ref b1), .val (.int x35), .val (.int x43), .val (.ref b7), .val (.ref b10), .val (.int x98), .val (.int x105), .val (.int x117), .val (.int v224)] [])
      refine Go.of (fun t k => XS.iconst X24.here hx rfl (hb hby at_253) k) ?_
      show Go p e below Φ T24 (mkF m 254 #[.val (.int i0), .val (.int i1), .val (.int i2), .val (.ref b1), .val (.int x35), .val (.int x43), .val (.ref b7), .val (.ref b10), .val (.int x98), .val (.int x105), .val (.int x117), .val (.int v224)] [(.int (0 : Int32))])
      exact j254_25 _ _ (X24.more (by decide) (by decide)) N24 (e24q) _ (by rw [if_pos hc237])
    · refine Go.of (fun t k => XS.ifNo X24.here hx rfl (hb hby at_237) rfl (XT.i0_eq_f hc237) k) ?_
      show Go p e below Φ T24 (mkF m 240 #[.val (.int i0), .val (.int i1), .val (.int i2), .val (.ref b1), .val (.int x35), .val (.int x43), .val (.ref b7), .val (.ref b10), .val (.int x98), .val (.int x105), .val (.int x117), .val (.int v224)] [])
      obtain ⟨T26, X26, e26, st26⟩ := getS2 X24 hx hZ hown (host := "") (Or.inl (hw _ (List.mem_of_getElem? (i := 48) rfl))) Via.refl (e24q) (S_UNKNOWN.ext O15.2) (g := (mkF m 240 #[.val (.int i0), .val (.int i1), .val (.int i2), .val (.ref b1), .val (.int x35), .val (.int x43), .val (.ref b7), .val (.ref b10), .val (.int x98), .val (.int x105), .val (.int x117), .val (.int v224)] [])) rfl (hb hby at_240)
      refine Go.of st26 ?_
      show Go p e below Φ T26 (mkF m 243 #[.val (.int i0), .val (.int i1), .val (.int i2), .val (.ref b1), .val (.int x35), .val (.int x43), .val (.ref b7), .val (.ref b10), .val (.int x98), .val (.int x105), .val (.int x117), .val (.int v224)] [(.ref sU)])
      obtain ⟨cq27, kq27, q27a, q27b, q27c⟩ := isOf hZ e26 (E_sU.ext O15.2)
      obtain ⟨_, _, ⟨T27, L27, k27, n27⟩, -, X27, ⟨Lc27, hQ27, l27, y27, z27⟩, st27⟩ := X26.virtualBack hx (y := (⟨"com/example/shelfset/shelfset/Catalog$Function", "readsNothing", "()Z"⟩ : MethodName)) (z := (⟨"com/example/shelfset/shelfset/Catalog$Function", "readsNothing", "()Z"⟩ : MethodName)) hown (mvT hZ (hw _ (List.mem_of_getElem? (i := 20) rfl))) (mvT hZ (hw _ (List.mem_of_getElem? (i := 21) rfl))) (notFace_of_selects (args := #[]) (mvT hZ (hw _ (List.mem_of_getElem? (i := 23) rfl)))) (mvT hZ (hw _ (List.mem_of_getElem? (i := 23) rfl))) (mvT hZ (hw _ (List.mem_of_getElem? (i := 22) rfl))) (by decide) (backOf (W := 0) (rm4 l Z a0 hw [] sU (118 : Int32) T15.heap n0 Z15 (F_sU_volatility.ext O15.2)) hZ (hw _ (List.mem_of_getElem? (i := 24) rfl)) (hw _ (List.mem_of_getElem? (i := 4) rfl)) (by decide) (by decide)) q27a q27c (g := (mkF m 243 #[.val (.int i0), .val (.int i1), .val (.int i2), .val (.ref b1), .val (.int x35), .val (.int x43), .val (.ref b7), .val (.ref b10), .val (.int x98), .val (.int x105), .val (.int x117), .val (.int v224)] [(.ref sU)])) rfl (by rw [hml]; rfl) (Steps.refl _) (argsL := []) (rest := []) (lenOf own_pd3 rfl) rfl (by show 2 * 0 + _ ≤ _; exact Nat.le_of_eq rfl) (hb hby at_243) (fun _ _ => ⟨rfl, e26, (by decide : 4 + 0 ≤ _), (by decide : 11 + 0 ≤ _)⟩)
      dsimp only [Pt.U, Pt.locs, Pt.cells, Pt.slots] at X27 l27 y27 z27 st27 hQ27
      subst l27 y27 z27
      obtain ⟨rfl, N27q, e27q⟩ := hQ27
      have N27 := Fr.app N24 N27q
      obtain ⟨lc27, X27, N27⟩ : ∃ lc, Stand p l e room_1 s m #[(.int i0), (.int i1), (.int i2)] below meth c T27 lc 4 11 ∧ Fr n0 lc := ⟨_, X27, N27⟩
      refine Go.tr st27 ?_
      show Go p e below Φ T27 (mkF m 246 #[.val (.int i0), .val (.int i1), .val (.int i2), .val (.ref b1), .val (.int x35), .val (.int x43), .val (.ref b7), .val (.ref b10), .val (.int x98), .val (.int x105), .val (.int x117), .val (.int v224)] [(.int (own_reads (118 : Int32)))])
      by_cases hc246 : (own_reads (118 : Int32)) = (0 : Int32)
      · refine Go.of (fun t k => XS.ifNo X27.here hx rfl (hb hby at_246) rfl (XT.i0_ne_f hc246) k) ?_
        show Go p e below Φ T27 (mkF m 249 #[.val (.int i0), .val (.int i1), .val (.int i2), .val (.ref b1), .val (.int x35), .val (.int x43), .val (.ref b7), .val (.ref b10), .val (.int x98), .val (.int x105), .val (.int x117), .val (.int v224)] [])
        refine Go.of (fun t k => XS.iconst X27.here hx rfl (hb hby at_249) k) ?_
        show Go p e below Φ T27 (mkF m 250 #[.val (.int i0), .val (.int i1), .val (.int i2), .val (.ref b1), .val (.int x35), .val (.int x43), .val (.ref b7), .val (.ref b10), .val (.int x98), .val (.int x105), .val (.int x117), .val (.int v224)] [(.int (1 : Int32))])
        refine Go.of (fun t k => XS.goto X27.here hx rfl (pc0 := 250) (pc' := 254) rfl (hb hby at_250) (by decide) (by decide) k) ?_
        show Go p e below Φ T27 (mkF m 254 #[.val (.int i0), .val (.int i1), .val (.int i2), .val (.ref b1), .val (.int x35), .val (.int x43), .val (.ref b7), .val (.ref b10), .val (.int x98), .val (.int x105), .val (.int x117), .val (.int v224)] [(.int (1 : Int32))])
        exact j254_25 _ _ (X27.more (by decide) (by decide)) N27 (e27q) _ (by rw [if_neg hc237, if_pos hc246])
      · refine Go.of (fun t k => XS.ifYes X27.here hx rfl (pc0 := 246) (pc' := 253) rfl (hb hby at_246) rfl (XT.i0_ne_t hc246) (by decide) (by decide) k) ?_
        show Go p e below Φ T27 (mkF m 253 #[.val (.int i0), .val (.int i1), .val (.int i2), .val (.ref b1), .val (.int x35), .val (.int x43), .val (.ref b7), .val (.ref b10), .val (.int x98), .val (.int x105), .val (.int x117), .val (.int v224)] [])
        refine Go.of (fun t k => XS.iconst X27.here hx rfl (hb hby at_253) k) ?_
        show Go p e below Φ T27 (mkF m 254 #[.val (.int i0), .val (.int i1), .val (.int i2), .val (.ref b1), .val (.int x35), .val (.int x43), .val (.ref b7), .val (.ref b10), .val (.int x98), .val (.int x105), .val (.int x117), .val (.int v224)] [(.int (0 : Int32))])
        exact j254_25 _ _ (X27.more (by decide) (by decide)) N27 (e27q) _ (by rw [if_neg hc237, if_neg hc246])
  intro T25 lc25 X25 N25 e25 v254 hv254
  show Go p e below Φ T25 (mkF m 254 #[.val (.int i0), .val (.int i1), .val (.int i2), .val (.ref b1), .val (.int x35), .val (.int x43), .val (.ref b7), .val (.ref b10), .val (.int x98), .val (.int x105), .val (.int x117), .val (.int v224)] [(.int v254)])
  refine Go.of (fun t k => XS.istore X25.here hx rfl (hb hby at_254) rfl (l' := #[.val (.int i0), .val (.int i1), .val (.int i2), .val (.ref b1), .val (.int x35), .val (.int x43), .val (.ref b7), .val (.ref b10), .val (.int x98), .val (.int x105), .val (.int x117), .val (.int v254)]) rfl k) ?_
  show Go p e below Φ T25 (mkF m 256 #[.val (.int i0), .val (.int i1), .val (.int i2), .val (.ref b1), .val (.int x35), .val (.int x43), .val (.ref b7), .val (.ref b10), .val (.int x98), .val (.int x105), .val (.int x117), .val (.int v254)] [])
  refine Go.of (fun t k => XS.iload X25.here hx rfl (hb hby at_256) rfl  k) ?_
  show Go p e below Φ T25 (mkF m 258 #[.val (.int i0), .val (.int i1), .val (.int i2), .val (.ref b1), .val (.int x35), .val (.int x43), .val (.ref b7), .val (.ref b10), .val (.int x98), .val (.int x105), .val (.int x117), .val (.int v254)] [(.int v254)])
  rw [hΦ]
  refine Go.ret X25 hx Bd.notSynchronized Bd.returns (own_one (own_plain i0 i1 i2 sN sU x35 hx35 x43 hx43 v64 hv64 y9_volatility hy9_volatility y9_returnsSets hy9_returnsSets v88 hv88 y12_volatility hy12_volatility y12_returnsSets hy12_returnsSets x98 hx98 x105 hx105 y15_volatility hy15_volatility y15_returnsSets hy15_returnsSets x117 hx117 v154 hv154 v178 hv178 v186 hv186 v224 hv224 v254 hv254 )) (Or.inl ⟨rfl, Or.inr (Or.inl rfl), _, rfl⟩) (hb hby at_258) (by decide) (by decide) ?_
  rw [e25]
  exact ⟨congrArg (fun z => some (Value.int z)) (own_plain i0 i1 i2 sN sU x35 hx35 x43 hx43 v64 hv64 y9_volatility hy9_volatility y9_returnsSets hy9_returnsSets v88 hv88 y12_volatility hy12_volatility y12_returnsSets hy12_returnsSets x98 hx98 x105 hx105 y15_volatility hy15_volatility y15_returnsSets hy15_returnsSets x117 hx117 v154 hv154 v178 hv178 v186 hv186 v224 hv224 v254 hv254 ), N25⟩
set_option maxRecDepth 65536 in
set_option maxHeartbeats 40000000 in
theorem comes_1 {Post : Tables → Env → Array Value → State → Outcome → State → Prop} (hpost : ∀ tb e args s v u, (limb_1_1.after args s (.returned v) u = true ∧ limb_1_2.after args s (.returned v) u = true ∧ True) → FrameEnd s (.returned v) u (Jvm.fieldLocs frame_1_writes args s ++ Jvm.arrayLocs frame_1_arrays args s ++ Jvm.staticLocs frame_1_statics s) 16 128 → Post tb e args s (.returned v) u) :
    ArmFor flags0 classFile x code maxLocals ret World_1 tables_1 room_1 Calls_1 rest_1 Pre_1 Post := by
  intro l hfl _ _ p e ha hc hk s m args below hf hA hF happ hP
  obtain ⟨hcalls, hrest, hpre⟩ := hP
  obtain ⟨-, -, -, hnamed, -, -, -, hat⟩ := (Spec.applies_iff hf).mp happ
  obtain ⟨hg, hn⟩ := and_e (Cond.before_iff.mp (show (Jvm.Cond.and given_1 narrow_1).before args s = true from hpre))
  obtain ⟨g1, g2⟩ := and_e hg
  obtain ⟨g3, g4⟩ := and_e g2
  obtain ⟨g5, g6⟩ := and_e g4
  obtain ⟨w0, w1, w2, rfl⟩ : ∃ w0 w1 w2 : Value, args = #[w0, w1, w2] := by
    have hs : args.size = 3 := by simpa [Cond.value, given_1] using g1
    obtain ⟨L⟩ := args
    match L, hs with
    | [w0, w1, w2], _ => exact ⟨w0, w1, w2, rfl⟩
  have hw := fun d (hd : d ∈ tables_1) => atoms_spec (ws := Jvm.Cond.code x code maxLocals ret :: tables_1) hat d (List.mem_cons_of_mem _ hd)
  have hfit : Fit s := fun {y c} hc i hi => by
    obtain ⟨ha, rfl⟩ := Array.getElem?_eq_some_iff.mp hc
    have q := List.all_eq_true.mp ((Array.all_eq_true_iff_forall_mem.mp hF) _ (Array.getElem_mem ha)) i (List.mem_range.mpr hi)
    simpa [Array.getElem?_eq_getElem hi] using q
  obtain ⟨i0, ei0⟩ := is_v g3
  obtain rfl : w0 = (.int i0) := Option.some.inj ei0
  obtain ⟨i1, ei1⟩ := is_v g5
  obtain rfl : w1 = (.int i1) := Option.some.inj ei1
  obtain ⟨i2, ei2⟩ := is_v g6
  obtain rfl : w2 = (.int i2) := Option.some.inj ei2
  obtain ⟨n1, n2⟩ := and_e hn
  obtain ⟨n3, n4⟩ := and_e n2
  obtain ⟨n5, n6⟩ := and_e n4
  obtain ⟨sN, eN⟩ := exa_v n1
  obtain ⟨sU, eU⟩ := exa_v n5
  have SN := Sta.start eN (Or.inr ⟨hw _ (List.mem_of_getElem? (i := 4) rfl), hw _ (List.mem_of_getElem? (i := 47) rfl)⟩)
  have SU := Sta.start eU (Or.inr ⟨hw _ (List.mem_of_getElem? (i := 4) rfl), hw _ (List.mem_of_getElem? (i := 49) rfl)⟩)
  obtain ⟨n, o, h1, h2, h3, _, L, rfl, ⟨rfl, N⟩, hq⟩ := rm0 l s _ hw tables_1 i0 i1 i2 sN sU s.heap s.heap.size (Nat.le_refl _) (Old.start s) SN SU (Exa.start eN n1) (Exa.start eU n5) (own_fldI eN n3) (own_fldI eU n6) p e ha hc hk s m _ below hf ((Spec.applies_iff_loose hf).mp happ).1 ⟨rfl, State.Warmed39.refl s, rfl⟩ trivial
  refine ⟨n, _, h1, h2, h3, hpost _ _ _ _ _ _ ⟨Cond.after_iff.mpr rfl, Cond.after_iff.mpr (eq_i res_at (Term.int_eval (1)) rfl), trivial⟩ ⟨hq.1, hq.2.1, (hq.2.2.sift fun y hy => Or.inr (N y hy)).mono (by decide) (by decide)⟩⟩
theorem main_1_1 : Claimed_1_1 := comes_1 fun _ _ _ _ _ _ h hF => ⟨h.1, hF⟩
theorem main_1_2 : Claimed_1_2 := comes_1 fun _ _ _ _ _ _ h hF => ⟨h.2.1, hF⟩
end Jvm.Pilot.@@N@@
namespace Jvm.Pilot.@@N@@
open Jvm Jvm.ClassFile Sem Op Lib Jvm.Free Jvm.Stand Jvm.Pilot.@@N@@.Jvm.D
/-! MADE BY PROGRAM (witnessworld.py) out of the Statement's table words and the real class files: 13 classes; the members and pool entries that the words name. The judged class is class 1, her method 1. -/
namespace start1
open Jvm.ClassFile
def u (s : String) : CpInfo := .utf8 (stringToUtf16 s)
/-- a pool by its gaps: so many unusable entries, then the entry; so many at the end -/
def gap : Nat → List CpInfo → List CpInfo
  | 0, r => r
  | n + 1, r => .unusable :: gap n r
def poolList (es : List (Nat × CpInfo)) (last : Nat) : List CpInfo := es.foldr (fun e r => gap e.1 (e.2 :: r)) (gap last [])
def pool (es : List (Nat × CpInfo)) (last : Nat) : Array CpInfo := ⟨poolList es last⟩
def fileOf (pool : Array CpInfo) (this : Nat) (attrs : Array Attribute := #[]) (ms : Array MethodInfo := #[]) (fl : Nat := 33) (sup : Nat := 0) (ifs : Array Nat := #[]) (fds : Array FieldInfo := #[]) : ClassFile where
  minorVersion := 0
  majorVersion := 65
  constantPool := pool
  accessFlags := fl
  thisClass := this
  superClass := sup
  interfaces := ifs
  fields := fds
  methods := ms
  attributes := attrs
def plain (name : String) (sup : Option ClassId) : Class where
  name := name
  kind := .ordinary
  loader := none
  accessFlags := 33
  super := sup
  interfaces := #[]
  cf := none
  fields := #[]
  methods := #[]
  instanceTypes := #[]
  staticTypes := #[]
  resolved := #[]
  callSites := []
  init := .initialized
  statics := none
  mirror := none

def pool0 : Array CpInfo := pool [(5, u "<init>"), (0, u "()V"), (1, .class_ 10), (1, u "java/lang/Object")] 113

def k0c0 : Code := { maxStack := 0, maxLocals := 1, code := object_method_1_code, exceptionTable := #[], attributes := #[] }
def k0m0 : Method := { name := "<init>", desc := "()V", sig := { parameters := [], returnType := none }, accessFlags := 1, code := some k0c0 }
/-- java/lang/Object -/
def k0 : Class := { plain "java/lang/Object" none with
  accessFlags := 33
  interfaces := #[]
  cf := some (fileOf pool0 8 #[] #[{ accessFlags := 1, nameIndex := 5, descriptorIndex := 6, attributes := #[] }] 33 0 #[] #[])
  fields := #[]
  methods := #[k0m0]
  instanceTypes := #[]
  staticTypes := #[]
  resolved := Array.replicate 124 none
  statics := none }

def pool1 : Array CpInfo := pool [(2, .class_ 4), (1, u "java/lang/Object"), (0, u "<init>"), (0, u "()V"), (0, .class_ 8), (0, u "com/example/shelfset/shelfset/Catalog$Function"), (0, .integer 2147483647), (0, .methodref 7 11), (0, .nameAndType 5 12), (0, u "(CZ)V"), (0, .methodref 7 14), (0, .nameAndType 15 16), (0, u "readsNothing"), (0, u "()Z"), (0, .methodref 7 18), (0, .nameAndType 19 20), (0, u "and"), (0, u "(Lcom/example/shelfset/shelfset/Catalog$Function;)Lcom/example/shelfset/shelfset/Catalog$Function;"), (0, .methodref 7 22), (0, .nameAndType 23 16), (0, u "repeatable"), (0, .methodref 7 25), (0, .nameAndType 26 16), (0, u "mayWrite"), (0, .fieldref 7 28), (0, .nameAndType 29 30), (0, u "NONE"), (0, u "Lcom/example/shelfset/shelfset/Catalog$Function;"), (0, .fieldref 7 32), (0, .nameAndType 33 30), (0, u "UNKNOWN"), (0, .class_ 35), (0, u "com/example/shelfset/shelfset/CatalogReadsNothingPinLaw"), (2, u "law"), (0, u "(III)Z")] 9

def k1m0 : Method := { name := "<init>", desc := "()V", sig := { parameters := [], returnType := none }, accessFlags := 1, code := none }
def k1c1 : Code := { maxStack := 5, maxLocals := 12, code := code, exceptionTable := #[], attributes := #[] }
def k1m1 : Method := { name := "law", desc := "(III)Z", sig := { parameters := [.int, .int, .int], returnType := some .boolean }, accessFlags := 9, code := some k1c1 }
/-- com/example/shelfset/shelfset/CatalogReadsNothingPinLaw -/
def k1 : Class := { plain "com/example/shelfset/shelfset/CatalogReadsNothingPinLaw" (some 0) with
  accessFlags := 49
  interfaces := #[]
  cf := some (fileOf pool1 34 #[] #[{ accessFlags := 1, nameIndex := 5, descriptorIndex := 6, attributes := #[] }, { accessFlags := 9, nameIndex := 38, descriptorIndex := 39, attributes := #[] }] 49 2 #[] #[])
  fields := #[]
  methods := #[k1m0, k1m1]
  instanceTypes := #[]
  staticTypes := #[]
  resolved := Array.replicate 49 none
  statics := none }

def pool2 : Array CpInfo := pool [(1, .methodref 2 3), (0, .class_ 4), (0, .nameAndType 5 6), (0, u "java/lang/Object"), (0, u "<init>"), (0, u "()V"), (0, .class_ 8), (0, u "java/lang/Record")] 13

def k2c0 : Code := { maxStack := 1, maxLocals := 1, code := jdk_30_method_1_code, exceptionTable := #[], attributes := #[] }
def k2m0 : Method := { name := "<init>", desc := "()V", sig := { parameters := [], returnType := none }, accessFlags := 4, code := some k2c0 }
/-- java/lang/Record -/
def k2 : Class := { plain "java/lang/Record" (some 0) with
  accessFlags := 1057
  interfaces := #[]
  cf := some (fileOf pool2 7 #[] #[{ accessFlags := 4, nameIndex := 5, descriptorIndex := 6, attributes := #[] }] 1057 2 #[] #[])
  fields := #[]
  methods := #[k2m0]
  instanceTypes := #[]
  staticTypes := #[]
  resolved := Array.replicate 22 none
  statics := none }

def pool3 : Array CpInfo := pool [(1, .methodref 2 3), (0, .class_ 4), (0, .nameAndType 5 6), (0, u "java/lang/Record"), (0, u "<init>"), (0, u "()V"), (0, .fieldref 8 9), (0, .class_ 10), (0, .nameAndType 11 12), (0, u "com/example/shelfset/shelfset/Catalog$Function"), (0, u "volatility"), (0, u "C"), (0, .fieldref 8 14), (0, .nameAndType 15 16), (0, u "returnsSets"), (0, u "Z"), (0, .methodref 18 19), (0, .class_ 20), (0, .nameAndType 21 22), (0, u "java/lang/Math"), (0, u "max"), (0, u "(II)I"), (0, .methodref 8 24), (0, .nameAndType 5 25), (0, u "(CZ)V"), (14, u "NONE"), (0, u "Lcom/example/shelfset/shelfset/Catalog$Function;"), (2, u "UNKNOWN"), (0, u "IMMUTABLE"), (2, u "READS_TABLES"), (1, u "STABLE"), (1, u "UNREPEATABLE"), (1, u "VOLATILE"), (4, u "and"), (0, u "(Lcom/example/shelfset/shelfset/Catalog$Function;)Lcom/example/shelfset/shelfset/Catalog$Function;"), (1, u "readsNothing"), (0, u "()Z"), (0, u "repeatable"), (0, u "mayWrite"), (8, .class_ 75), (0, u "com/example/shelfset/shelfset/Catalog")] 20

def k3c0 : Code := { maxStack := 2, maxLocals := 3, code := prog_27_method_1_code, exceptionTable := #[], attributes := #[] }
def k3m0 : Method := { name := "<init>", desc := "(CZ)V", sig := { parameters := [.char, .boolean], returnType := none }, accessFlags := 0, code := some k3c0 }
def k3c1 : Code := { maxStack := 4, maxLocals := 2, code := prog_27_method_2_code, exceptionTable := #[], attributes := #[] }
def k3m1 : Method := { name := "and", desc := "(Lcom/example/shelfset/shelfset/Catalog$Function;)Lcom/example/shelfset/shelfset/Catalog$Function;", sig := { parameters := [(.object "com/example/shelfset/shelfset/Catalog$Function")], returnType := some (.object "com/example/shelfset/shelfset/Catalog$Function") }, accessFlags := 0, code := some k3c1 }
def k3c2 : Code := { maxStack := 2, maxLocals := 1, code := prog_27_method_3_code, exceptionTable := #[], attributes := #[] }
def k3m2 : Method := { name := "readsNothing", desc := "()Z", sig := { parameters := [], returnType := some .boolean }, accessFlags := 0, code := some k3c2 }
def k3c3 : Code := { maxStack := 2, maxLocals := 1, code := prog_27_method_4_code, exceptionTable := #[], attributes := #[] }
def k3m3 : Method := { name := "repeatable", desc := "()Z", sig := { parameters := [], returnType := some .boolean }, accessFlags := 0, code := some k3c3 }
def k3c4 : Code := { maxStack := 2, maxLocals := 1, code := prog_27_method_5_code, exceptionTable := #[], attributes := #[] }
def k3m4 : Method := { name := "mayWrite", desc := "()Z", sig := { parameters := [], returnType := some .boolean }, accessFlags := 0, code := some k3c4 }
/-- com/example/shelfset/shelfset/Catalog$Function -/
def k3 : Class := { plain "com/example/shelfset/shelfset/Catalog$Function" (some 2) with
  accessFlags := 48
  interfaces := #[]
  cf := some (fileOf pool3 8 #[.nestHost 74] #[{ accessFlags := 0, nameIndex := 5, descriptorIndex := 25, attributes := #[] }, { accessFlags := 0, nameIndex := 59, descriptorIndex := 60, attributes := #[] }, { accessFlags := 0, nameIndex := 62, descriptorIndex := 63, attributes := #[] }, { accessFlags := 0, nameIndex := 64, descriptorIndex := 63, attributes := #[] }, { accessFlags := 0, nameIndex := 65, descriptorIndex := 63, attributes := #[] }] 48 2 #[] #[{ accessFlags := 18, nameIndex := 11, descriptorIndex := 12, attributes := #[] }, { accessFlags := 18, nameIndex := 15, descriptorIndex := 16, attributes := #[] }, { accessFlags := 24, nameIndex := 45, descriptorIndex := 12, attributes := #[] }, { accessFlags := 24, nameIndex := 48, descriptorIndex := 12, attributes := #[] }, { accessFlags := 24, nameIndex := 50, descriptorIndex := 12, attributes := #[] }, { accessFlags := 24, nameIndex := 52, descriptorIndex := 12, attributes := #[] }, { accessFlags := 24, nameIndex := 54, descriptorIndex := 12, attributes := #[] }, { accessFlags := 24, nameIndex := 40, descriptorIndex := 41, attributes := #[] }, { accessFlags := 24, nameIndex := 44, descriptorIndex := 41, attributes := #[] }])
  fields := #[{ name := "volatility", type := .char, accessFlags := 18, slot := 0, constantValue := 0 }, { name := "returnsSets", type := .boolean, accessFlags := 18, slot := 1, constantValue := 0 }, { name := "IMMUTABLE", type := .char, accessFlags := 24, slot := 0, constantValue := 0 }, { name := "READS_TABLES", type := .char, accessFlags := 24, slot := 1, constantValue := 0 }, { name := "STABLE", type := .char, accessFlags := 24, slot := 2, constantValue := 0 }, { name := "UNREPEATABLE", type := .char, accessFlags := 24, slot := 3, constantValue := 0 }, { name := "VOLATILE", type := .char, accessFlags := 24, slot := 4, constantValue := 0 }, { name := "NONE", type := (.object "com/example/shelfset/shelfset/Catalog$Function"), accessFlags := 24, slot := 5, constantValue := 0 }, { name := "UNKNOWN", type := (.object "com/example/shelfset/shelfset/Catalog$Function"), accessFlags := 24, slot := 6, constantValue := 0 }]
  methods := #[k3m0, k3m1, k3m2, k3m3, k3m4]
  instanceTypes := #[.char, .boolean]
  staticTypes := #[.char, .char, .char, .char, .char, (.object "com/example/shelfset/shelfset/Catalog$Function"), (.object "com/example/shelfset/shelfset/Catalog$Function")]
  resolved := Array.replicate 96 none
  statics := some 0 }

def pool4 : Array CpInfo := pool [(1, .class_ 2), (0, u "java/lang/Math"), (1, .class_ 6), (1, u "java/lang/Object"), (0, u "<init>"), (0, u "()V"), (89, .class_ 100), (1, u "java/lang/Math$RandomNumberGeneratorHolder"), (71, u "negativeZeroFloatBits"), (0, u "J"), (2, u "negativeZeroDoubleBits"), (21, u "max"), (46, u "$assertionsDisabled"), (0, u "Z"), (88, u "(II)I"), (2, u "twoToTheDoubleScaleDown"), (0, u "D"), (4, u "twoToTheDoubleScaleUp"), (9, u "E"), (3, u "PI"), (2, u "TAU"), (2, u "DEGREES_TO_RADIANS"), (0, u "RADIANS_TO_DEGREES")] 94

def k4m0 : Method := { name := "<init>", desc := "()V", sig := { parameters := [], returnType := none }, accessFlags := 2, code := none }
def k4c1 : Code := { maxStack := 2, maxLocals := 2, code := jdk_29_method_65_code, exceptionTable := #[], attributes := #[] }
def k4m1 : Method := { name := "max", desc := "(II)I", sig := { parameters := [.int, .int], returnType := some .int }, accessFlags := 9, code := some k4c1 }
/-- java/lang/Math -/
def k4 : Class := { plain "java/lang/Math" (some 0) with
  accessFlags := 49
  interfaces := #[]
  cf := some (fileOf pool4 1 #[.nestMembers #[98]] #[{ accessFlags := 2, nameIndex := 7, descriptorIndex := 8, attributes := #[] }, { accessFlags := 9, nameIndex := 198, descriptorIndex := 335, attributes := #[] }] 49 4 #[] #[{ accessFlags := 25, nameIndex := 354, descriptorIndex := 339, attributes := #[] }, { accessFlags := 25, nameIndex := 358, descriptorIndex := 339, attributes := #[] }, { accessFlags := 25, nameIndex := 361, descriptorIndex := 339, attributes := #[] }, { accessFlags := 26, nameIndex := 364, descriptorIndex := 339, attributes := #[] }, { accessFlags := 26, nameIndex := 365, descriptorIndex := 339, attributes := #[] }, { accessFlags := 26, nameIndex := 172, descriptorIndex := 173, attributes := #[] }, { accessFlags := 26, nameIndex := 176, descriptorIndex := 173, attributes := #[] }, { accessFlags := 8, nameIndex := 344, descriptorIndex := 339, attributes := #[] }, { accessFlags := 8, nameIndex := 338, descriptorIndex := 339, attributes := #[] }, { accessFlags := 4120, nameIndex := 245, descriptorIndex := 246, attributes := #[] }])
  fields := #[{ name := "E", type := .double, accessFlags := 25, slot := 0, constantValue := 0 }, { name := "PI", type := .double, accessFlags := 25, slot := 1, constantValue := 0 }, { name := "TAU", type := .double, accessFlags := 25, slot := 2, constantValue := 0 }, { name := "DEGREES_TO_RADIANS", type := .double, accessFlags := 26, slot := 3, constantValue := 0 }, { name := "RADIANS_TO_DEGREES", type := .double, accessFlags := 26, slot := 4, constantValue := 0 }, { name := "negativeZeroFloatBits", type := .long, accessFlags := 26, slot := 5, constantValue := 0 }, { name := "negativeZeroDoubleBits", type := .long, accessFlags := 26, slot := 6, constantValue := 0 }, { name := "twoToTheDoubleScaleUp", type := .double, accessFlags := 8, slot := 7, constantValue := 0 }, { name := "twoToTheDoubleScaleDown", type := .double, accessFlags := 8, slot := 8, constantValue := 0 }, { name := "$assertionsDisabled", type := .boolean, accessFlags := 4120, slot := 9, constantValue := 0 }]
  methods := #[k4m0, k4m1]
  instanceTypes := #[]
  staticTypes := #[.double, .double, .double, .double, .double, .long, .long, .double, .double, .boolean]
  resolved := Array.replicate 460 none
  statics := none }

def pool5 : Array CpInfo := pool [(1, u "java/lang/Cloneable"), (0, .class_ 1), (0, u "java/lang/Object"), (0, .class_ 3)] 3

/-- java/lang/Cloneable -/
def k5 : Class := { plain "java/lang/Cloneable" (some 0) with
  accessFlags := 1537
  interfaces := #[]
  cf := some (fileOf pool5 2 #[] #[] 1537 4 #[] #[])
  fields := #[]
  methods := #[]
  instanceTypes := #[]
  staticTypes := #[]
  resolved := Array.replicate 8 none
  statics := none }

def pool6 : Array CpInfo := pool [(1, u "java/io/Serializable"), (0, .class_ 1), (0, u "java/lang/Object"), (0, .class_ 3)] 3

/-- java/io/Serializable -/
def k6 : Class := { plain "java/io/Serializable" (some 0) with
  accessFlags := 1537
  interfaces := #[]
  cf := some (fileOf pool6 2 #[] #[] 1537 4 #[] #[])
  fields := #[]
  methods := #[]
  instanceTypes := #[]
  staticTypes := #[]
  resolved := Array.replicate 8 none
  statics := none }

/-- the primitive byte -/
def k7 : Class := { plain "byte" none with kind := .primitive 'B', accessFlags := 0x411 }
/-- [B -/
def k8 : Class := { plain "[B" (some 0) with kind := .array 7 .byte, interfaces := #[5, 6], accessFlags := 1041 }

/-- the primitive char -/
def k9 : Class := { plain "char" none with kind := .primitive 'C', accessFlags := 0x411 }
/-- [C -/
def k10 : Class := { plain "[C" (some 0) with kind := .array 9 .char, interfaces := #[5, 6], accessFlags := 1041 }

/-- the primitive int -/
def k11 : Class := { plain "int" none with kind := .primitive 'I', accessFlags := 0x411 }
/-- [I -/
def k12 : Class := { plain "[I" (some 0) with kind := .array 11 .int, interfaces := #[5, 6], accessFlags := 1041 }

def heap : Heap := #[{ cls := 3, slots := #[.int 0, .int 0, .int 0, .int 0, .int 0, .ref 1, .ref 2], vm := .statics 3 },
  { cls := 3, slots := #[.int 105, .int 0], vm := .none },
  { cls := 3, slots := #[.int 118, .int 0], vm := .none }]
def classes : Array Class := #[k0, k1, k2, k3, k4, k5, k6, k7, k8, k9, k10, k11, k12]
def interned : List (Array UInt16 × Addr) := []
def slotsUsed : Nat := 11
def theMethod : MethodId := ⟨1, 1⟩
def args0 : Array Value := #[.int 97, .int 1, .int 2]
def aboutOver (below : List Frame) : State where
  vm := { classes := classes, interned := interned.toArray }
  heap := heap
  slotsUsed := slotsUsed
  threads := #[{ frames := .invoking theMethod args0 :: below }]
def below0 : List Frame := [.native { method := ⟨0, 0⟩, args := #[] }]
def about1 : State := aboutOver below0
def p0 : Program := .bare "" "" ""
def e0 : Env := launch0.env 0 0 0
theorem w_frames : about1.frames = Frame.invoking theMethod args0 :: below0 := rfl
set_option maxRecDepth 65536 in
theorem w_args : argsFit about1.vm theMethod args0 = true := by decide +kernel
set_option maxRecDepth 65536 in
theorem w_heap : heapFits about1 = true := by decide +kernel
set_option maxRecDepth 65536 in
theorem w_runnable : about1.curStatus? = some .runnable := by decide +kernel
set_option maxRecDepth 65536 in
theorem w_alone : about1.alone = true := by decide +kernel
set_option maxRecDepth 65536 in
theorem w_named : about1.methodNamed? x = some theMethod := by decide +kernel
set_option maxRecDepth 65536 in
theorem w_hears : about1.hears theMethod below0 = true := by decide +kernel
set_option maxRecDepth 65536 in
theorem w_ripe : about1.ripe theMethod args0 below0 = true := by decide +kernel
theorem w_running : about1.status = .running := rfl
set_option maxRecDepth 65536 in
theorem w_room : about1.hasRoom e0.platform room_1 = true :=
  launch0.hasRoom_least _ room_1 (by decide +kernel) (by decide +kernel) (by decide +kernel) (by decide +kernel) (by decide +kernel) (by decide +kernel)
theorem allAtoms_all (ts : List Jvm.Cond) (a : Array Jvm.Value) (st : Jvm.State) : (allAtoms ts).before a st = ts.all (fun c => c.before a st) := by
  induction ts with
  | nil => rfl
  | cons c t ih =>
    show (Jvm.Cond.and c (allAtoms t)).before a st = _
    rw [Jvm.Cond.before_and, ih, List.all_cons]
def words1 : List Jvm.Cond := Jvm.Cond.code x code maxLocals ret :: tables_1
/-- a 'code' word, met by the world's own term for the bytes: nothing is compared byte by byte -/
theorem code_word {y : MethodName} {bytes : ByteArray} {mx : Nat} {rt : Option FieldType} {a : Array Value} {s : State} {m : MethodId} {meth : Method} {c : Code} (h1 : s.methodNamed? y = some m) (h2 : s.vm.method? m = some meth) (h3 : meth.code = some c) (h4 : c.code = bytes)
    (h5 : (c.maxLocals == mx && c.exceptionTable.isEmpty && decide (c.maxStack ≤ mostOperands) && decide (meth.sig.returnType = rt) && !meth.locks && decide (parseMethodDescriptor y.desc = some meth.sig)) = true) : (Jvm.Cond.code y bytes mx rt).before a s = true := by
  simp only [Bool.and_eq_true, beq_iff_eq, Bool.not_eq_true', decide_eq_true_eq] at h5
  obtain ⟨⟨⟨⟨⟨g1, g2⟩, g3⟩, g4⟩, g5⟩, g6⟩ := h5
  simp [Cond.before, Cond.holds, Cond.value, h1, h2, h3, h4, g1, g2, g3, g4, g5, g6]
def isCode : Jvm.Cond → Bool
  | .code _ _ _ _ => true
  | _ => false
theorem all_split {L : List Jvm.Cond} {P : Jvm.Cond → Bool} (h1 : L.all (fun c => isCode c || P c) = true) (h2 : ∀ c ∈ L.filter isCode, P c = true) : L.all P = true := by
  refine List.all_eq_true.mpr fun c hc => ?_
  have h := List.all_eq_true.mp h1 c hc
  rcases Bool.eq_false_or_eq_true (isCode c) with hi | hi
  · exact h2 c (List.mem_filter.mpr ⟨hc, hi⟩)
  · simpa [hi] using h
set_option maxRecDepth 65536 in
theorem w_c0 : (Jvm.Cond.code x code maxLocals ret).before args0 about1 = true := code_word (m := ⟨1, 1⟩) (meth := k1m1) (c := k1c1) (by decide +kernel) rfl rfl rfl (by decide +kernel)
set_option maxRecDepth 65536 in
theorem w_c1 : (Jvm.Cond.code ({ cls := "com/example/shelfset/shelfset/Catalog$Function", name := "<init>", desc := "(CZ)V" } : Jvm.MethodName) prog_27_method_1_code (3 : Nat) (Option.none : Option Jvm.ClassFile.FieldType)).before args0 about1 = true := code_word (m := ⟨3, 0⟩) (meth := k3m0) (c := k3c0) (by decide +kernel) rfl rfl rfl (by decide +kernel)
set_option maxRecDepth 65536 in
theorem w_c2 : (Jvm.Cond.code ({ cls := "java/lang/Record", name := "<init>", desc := "()V" } : Jvm.MethodName) jdk_30_method_1_code (1 : Nat) (Option.none : Option Jvm.ClassFile.FieldType)).before args0 about1 = true := code_word (m := ⟨2, 0⟩) (meth := k2m0) (c := k2c0) (by decide +kernel) rfl rfl rfl (by decide +kernel)
set_option maxRecDepth 65536 in
theorem w_c3 : (Jvm.Cond.code ({ cls := "java/lang/Object", name := "<init>", desc := "()V" } : Jvm.MethodName) object_method_1_code (1 : Nat) (Option.none : Option Jvm.ClassFile.FieldType)).before args0 about1 = true := code_word (m := ⟨0, 0⟩) (meth := k0m0) (c := k0c0) (by decide +kernel) rfl rfl rfl (by decide +kernel)
set_option maxRecDepth 65536 in
theorem w_c4 : (Jvm.Cond.code ({ cls := "com/example/shelfset/shelfset/Catalog$Function", name := "readsNothing", desc := "()Z" } : Jvm.MethodName) prog_27_method_3_code (1 : Nat) (Option.some Jvm.ClassFile.FieldType.boolean)).before args0 about1 = true := code_word (m := ⟨3, 2⟩) (meth := k3m2) (c := k3c2) (by decide +kernel) rfl rfl rfl (by decide +kernel)
set_option maxRecDepth 65536 in
theorem w_c5 : (Jvm.Cond.code ({ cls := "com/example/shelfset/shelfset/Catalog$Function", name := "and", desc := "(Lcom/example/shelfset/shelfset/Catalog$Function;)Lcom/example/shelfset/shelfset/Catalog$Function;" } : Jvm.MethodName) prog_27_method_2_code (2 : Nat) (Option.some (Jvm.ClassFile.FieldType.object "com/example/shelfset/shelfset/Catalog$Function"))).before args0 about1 = true := code_word (m := ⟨3, 1⟩) (meth := k3m1) (c := k3c1) (by decide +kernel) rfl rfl rfl (by decide +kernel)
set_option maxRecDepth 65536 in
theorem w_c6 : (Jvm.Cond.code ({ cls := "java/lang/Math", name := "max", desc := "(II)I" } : Jvm.MethodName) jdk_29_method_65_code (2 : Nat) (Option.some Jvm.ClassFile.FieldType.int)).before args0 about1 = true := code_word (m := ⟨4, 1⟩) (meth := k4m1) (c := k4c1) (by decide +kernel) rfl rfl rfl (by decide +kernel)
set_option maxRecDepth 65536 in
theorem w_c7 : (Jvm.Cond.code ({ cls := "com/example/shelfset/shelfset/Catalog$Function", name := "repeatable", desc := "()Z" } : Jvm.MethodName) prog_27_method_4_code (1 : Nat) (Option.some Jvm.ClassFile.FieldType.boolean)).before args0 about1 = true := code_word (m := ⟨3, 3⟩) (meth := k3m3) (c := k3c3) (by decide +kernel) rfl rfl rfl (by decide +kernel)
set_option maxRecDepth 65536 in
theorem w_c8 : (Jvm.Cond.code ({ cls := "com/example/shelfset/shelfset/Catalog$Function", name := "mayWrite", desc := "()Z" } : Jvm.MethodName) prog_27_method_5_code (1 : Nat) (Option.some Jvm.ClassFile.FieldType.boolean)).before args0 about1 = true := code_word (m := ⟨3, 4⟩) (meth := k3m4) (c := k3c4) (by decide +kernel) rfl rfl rfl (by decide +kernel)
def codes1 : List Jvm.Cond := [Jvm.Cond.code x code maxLocals ret, Jvm.Cond.code ({ cls := "com/example/shelfset/shelfset/Catalog$Function", name := "<init>", desc := "(CZ)V" } : Jvm.MethodName) prog_27_method_1_code (3 : Nat) (Option.none : Option Jvm.ClassFile.FieldType), Jvm.Cond.code ({ cls := "java/lang/Record", name := "<init>", desc := "()V" } : Jvm.MethodName) jdk_30_method_1_code (1 : Nat) (Option.none : Option Jvm.ClassFile.FieldType), Jvm.Cond.code ({ cls := "java/lang/Object", name := "<init>", desc := "()V" } : Jvm.MethodName) object_method_1_code (1 : Nat) (Option.none : Option Jvm.ClassFile.FieldType), Jvm.Cond.code ({ cls := "com/example/shelfset/shelfset/Catalog$Function", name := "readsNothing", desc := "()Z" } : Jvm.MethodName) prog_27_method_3_code (1 : Nat) (Option.some Jvm.ClassFile.FieldType.boolean), Jvm.Cond.code ({ cls := "com/example/shelfset/shelfset/Catalog$Function", name := "and", desc := "(Lcom/example/shelfset/shelfset/Catalog$Function;)Lcom/example/shelfset/shelfset/Catalog$Function;" } : Jvm.MethodName) prog_27_method_2_code (2 : Nat) (Option.some (Jvm.ClassFile.FieldType.object "com/example/shelfset/shelfset/Catalog$Function")), Jvm.Cond.code ({ cls := "java/lang/Math", name := "max", desc := "(II)I" } : Jvm.MethodName) jdk_29_method_65_code (2 : Nat) (Option.some Jvm.ClassFile.FieldType.int), Jvm.Cond.code ({ cls := "com/example/shelfset/shelfset/Catalog$Function", name := "repeatable", desc := "()Z" } : Jvm.MethodName) prog_27_method_4_code (1 : Nat) (Option.some Jvm.ClassFile.FieldType.boolean), Jvm.Cond.code ({ cls := "com/example/shelfset/shelfset/Catalog$Function", name := "mayWrite", desc := "()Z" } : Jvm.MethodName) prog_27_method_5_code (1 : Nat) (Option.some Jvm.ClassFile.FieldType.boolean)]
set_option maxRecDepth 65536 in
theorem codes_eq : words1.filter isCode = codes1 := rfl
theorem w_codes : ∀ c ∈ words1.filter isCode, c.before args0 about1 = true := by
  rw [codes_eq]
  intro c hc
  simp only [codes1, List.mem_cons, List.not_mem_nil, or_false] at hc
  rcases hc with rfl | rfl | rfl | rfl | rfl | rfl | rfl | rfl | rfl
  · exact w_c0
  · exact w_c1
  · exact w_c2
  · exact w_c3
  · exact w_c4
  · exact w_c5
  · exact w_c6
  · exact w_c7
  · exact w_c8
set_option maxRecDepth 65536 in
theorem w_t1 : (words1.take 24).all (fun c => isCode c || c.before args0 about1) = true := by decide +kernel
set_option maxRecDepth 65536 in
theorem w_t2 : ((words1.drop 24).take 24).all (fun c => isCode c || c.before args0 about1) = true := by decide +kernel
set_option maxRecDepth 65536 in
theorem w_t3 : ((words1.drop 24).drop 24).all (fun c => isCode c || c.before args0 about1) = true := by decide +kernel
theorem w_tables : (allAtoms (Jvm.Cond.code x code maxLocals ret :: tables_1)).before args0 about1 = true := by
  rw [allAtoms_all]
  show words1.all (fun c => c.before args0 about1) = true
  refine all_split ?_ w_codes
  rw [← List.take_append_drop 24 words1, List.all_append, w_t1, ← List.take_append_drop 24 (words1.drop 24), List.all_append, w_t2, w_t3]
  rfl
set_option maxRecDepth 65536 in
theorem w_case : (Jvm.Cond.and given_1 narrow_1).before args0 about1 = true := by decide +kernel
theorem w_applies : (headSpec (Jvm.Cond.code x code maxLocals ret :: tables_1) room_1).applies x e0.platform about1 = true :=
  (Spec.applies_iff w_frames).mpr ⟨w_running, w_runnable, w_alone, w_named, w_hears, w_ripe, w_room, w_tables⟩
theorem atStart : AtStart classFile x code maxLocals ret World_1 tables_1 room_1 Calls_1 rest_1 Pre_1 launch0 p0 e0 about1 theMethod args0 below0 :=
  ⟨lists_1, trivial, launch0.admits_env _ _ _, launch0.least_env, fairChoices_fair.cas, fairChoices_fair.clock, w_frames, w_args, w_heap, w_applies, trivial, trivial, w_case⟩
end start1
theorem witness_1 : WitnessClaimed_1 := ⟨start1.p0, start1.e0, start1.about1, start1.theMethod, start1.args0, start1.below0, start1.atStart⟩
end Jvm.Pilot.@@N@@
