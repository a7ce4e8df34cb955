import JvmDerived
import JvmDerived.Pilot.@@N@@Statement
import JvmDerived.Pilot.@@N@@Code
set_option linter.unusedVariables false
set_option linter.unusedSimpArgs false
namespace Jvm.Pilot.@@N@@
open Jvm Jvm.ClassFile Sem Op Lib Jvm.Free Jvm.Stand Jvm.LawKit Jvm.RoadKit Bundle Jvm.Pilot.@@N@@.Jvm.D
section Own
variable {p : Program} {l : Launch} {e : Env} {R : Room} {s : State} {m : MethodId} {args : Array Value} {below : List Frame} {meth : Method} {c : Code} {T T' : State} {locs : List Loc} {cells slots : Nat} {Φ : State → Outcome → Prop} {g g' : JFrame}
/-- from (T, g) the run comes to an end that Φ takes -/
def Go (p : Program) (e : Env) (below : List Frame) (Φ : State → Outcome → Prop) (T : State) (g : JFrame) : Prop := ∃ t o, Steps p.tables e below (T.setTop g) t ∧ Φ t o
theorem Go.of (h : ∀ t, Steps p.tables e below (T'.setTop g') t → Steps p.tables e below (T.setTop g) t) (k : Go p e below Φ T' g') : Go p e below Φ T g := by
  obtain ⟨t, o, h1, h2⟩ := k
  exact ⟨t, o, h t h1, h2⟩
theorem Go.tr (h : Steps p.tables e below (T.setTop g) (T'.setTop g')) (k : Go p e below Φ T' g') : Go p e below Φ T g := by
  obtain ⟨t, o, h1, h2⟩ := k
  exact ⟨t, o, h.trans h1, h2⟩
/-- what a body owes at its end -/
def EndQ (s : State) (below : List Frame) (Q : Option Value → Heap → List Loc → Prop) (C S : Nat) (t : State) (o : Outcome) : Prop := t.status = .running ∧ Ended t below o ∧ ∃ v L, o = .returned v ∧ Q v t.heap L ∧ FrameEnd s o t L C S
theorem Go.ret (X : Stand p l e R s m args below meth c T locs cells slots) (hx : p.tables.exec = Jvm.exec) (hlocks : meth.locks = false) {pc : Nat} {Ls : Array Slot} {w : Value} {t : FieldType} {i : Instr} {rest : List Value} (hret : meth.sig.returnType = some t) (hn : narrow t w = w)
    (hi : (i = .ireturn ∧ (t = .int ∨ t = .boolean ∨ t = .byte ∨ t = .char ∨ t = .short) ∧ ∃ z, w = .int z) ∨ (i = .lreturn ∧ t = .long ∧ ∃ z, w = .long z) ∨ (i = .dreturn ∧ t = .double ∧ ∃ z, w = .double z) ∨ (i = .freturn ∧ t = .float ∧ ∃ z, w = .float z) ∨ (i = .areturn ∧ t.isReference = true ∧ w.isRef = true))
    (hd : decode c.code pc = .ok (i, 1)) {Q : Option Value → Heap → List Loc → Prop} {C S : Nat} (hC : cells ≤ C) (hS : slots ≤ S) (hQ : Q (some w) T.heap locs) : Go p e below (EndQ s below Q C S) T (mkF m pc Ls (w :: rest)) := by
  obtain ⟨fs, hr, hrun, hended, hW, hsame⟩ := X.leave (v := some w) (fun h => by rw [hret] at h; cases h) hlocks
  exact ⟨_, _, retOut X hx hret hn hi hd hr, hrun, hended, _, _, rfl, hQ, ⟨_, rfl⟩, hW, hsame.mono hC hS⟩
theorem Go.retV (X : Stand p l e R s m args below meth c T locs cells slots) (hx : p.tables.exec = Jvm.exec) (hlocks : meth.locks = false) {pc : Nat} {Ls : Array Slot} (hret : meth.sig.returnType = none)
    (hd : decode c.code pc = .ok (.return_, 1)) {Q : Option Value → Heap → List Loc → Prop} {C S : Nat} (hC : cells ≤ C) (hS : slots ≤ S) (hQ : Q none T.heap locs) : Go p e below (EndQ s below Q C S) T (mkF m pc Ls []) := by
  obtain ⟨fs, hr, hrun, hended, hW, hsame⟩ := X.leave (v := none) (fun _ => rfl) hlocks
  exact ⟨_, _, X.returnOut hx hret hd hr, hrun, hended, _, _, rfl, hQ, ⟨_, rfl⟩, hW, hsame.mono hC hS⟩
def own_ushr (x y : Int32) : Int32 := (x.toUInt32 >>> (y &&& 31).toUInt32).toInt32
def own_ushrL (x : Int64) (y : Int32) : Int64 := (x.toUInt64 >>> (y &&& 0x3f).toInt64.toUInt64).toInt64
theorem own_one {v : Int32} (h : v = 1) : narrow .boolean (.int v) = .int v := by rw [h]; rfl
theorem own_w1 {v : Value} (h : v.isRef = true) : 2 * 0 + ([v].map fun v => v.category).sum ≤ 1 := by simp [XT.cat1 h]
theorem own_nar_ref {t : FieldType} {v : Value} (h : v.isRef = true) (ht : t.isReference = true := by rfl) : narrow t v = v := by cases v <;> simp [Value.isRef] at h <;> cases t <;> first | rfl | cases ht
theorem own_fits_ref {t : FieldType} {v : Value} (h : v.isRef = true) (ht : t.isReference = true := by rfl) : fits t v = true := by cases v <;> simp [Value.isRef] at h <;> cases t <;> first | rfl | cases ht
end Own
theorem own_d1_0 : decode jdk_32_method_3_code 0 = .ok (.new 2, 3) := by decide +kernel
theorem own_d1_3 : decode jdk_32_method_3_code 3 = .ok (.dup, 1) := by decide +kernel
theorem own_d1_4 : decode jdk_32_method_3_code 4 = .ok (.aload_n 0, 1) := by decide +kernel
theorem own_d1_5 : decode jdk_32_method_3_code 5 = .ok (.invokestatic 17, 3) := by decide +kernel
theorem own_d1_8 : decode jdk_32_method_3_code 8 = .ok (.invokespecial 23, 3) := by decide +kernel
theorem own_d1_11 : decode jdk_32_method_3_code 11 = .ok (.areturn, 1) := by decide +kernel
theorem own_d2_0 : decode jdk_31_method_10_code 0 = .ok (.aload_n 0, 1) := by decide +kernel
theorem own_d2_1 : decode jdk_31_method_10_code 1 = .ok (.ifnonnull 11, 3) := by decide +kernel
theorem own_d2_12 : decode jdk_31_method_10_code 12 = .ok (.aload_n 0, 1) := by decide +kernel
theorem own_d2_13 : decode jdk_31_method_10_code 13 = .ok (.areturn, 1) := by decide +kernel
theorem own_d3_0 : decode jdk_32_method_2_code 0 = .ok (.aload_n 0, 1) := by decide +kernel
theorem own_d3_1 : decode jdk_32_method_2_code 1 = .ok (.invokespecial 7, 3) := by decide +kernel
theorem own_d3_4 : decode jdk_32_method_2_code 4 = .ok (.aload_n 0, 1) := by decide +kernel
theorem own_d3_5 : decode jdk_32_method_2_code 5 = .ok (.aload_n 1, 1) := by decide +kernel
theorem own_d3_6 : decode jdk_32_method_2_code 6 = .ok (.putfield 13, 3) := by decide +kernel
theorem own_d3_9 : decode jdk_32_method_2_code 9 = .ok (.return_, 1) := by decide +kernel
theorem own_d5_0 : decode prog_90_method_1_code 0 = .ok (.aload_n 0, 1) := by decide +kernel
theorem own_d5_1 : decode prog_90_method_1_code 1 = .ok (.invokespecial 1, 3) := by decide +kernel
theorem own_d5_4 : decode prog_90_method_1_code 4 = .ok (.aload_n 0, 1) := by decide +kernel
theorem own_d5_5 : decode prog_90_method_1_code 5 = .ok (.iload_n 1, 1) := by decide +kernel
theorem own_d5_6 : decode prog_90_method_1_code 6 = .ok (.newarray .int, 2) := by decide +kernel
theorem own_d5_8 : decode prog_90_method_1_code 8 = .ok (.putfield 7, 3) := by decide +kernel
theorem own_d5_11 : decode prog_90_method_1_code 11 = .ok (.aload_n 0, 1) := by decide +kernel
theorem own_d5_12 : decode prog_90_method_1_code 12 = .ok (.iload_n 1, 1) := by decide +kernel
theorem own_d5_13 : decode prog_90_method_1_code 13 = .ok (.anewarray 13, 3) := by decide +kernel
theorem own_d5_16 : decode prog_90_method_1_code 16 = .ok (.putfield 15, 3) := by decide +kernel
theorem own_d5_19 : decode prog_90_method_1_code 19 = .ok (.aload_n 0, 1) := by decide +kernel
theorem own_d5_20 : decode prog_90_method_1_code 20 = .ok (.iload_n 1, 1) := by decide +kernel
theorem own_d5_21 : decode prog_90_method_1_code 21 = .ok (.newarray .int, 2) := by decide +kernel
theorem own_d5_23 : decode prog_90_method_1_code 23 = .ok (.putfield 19, 3) := by decide +kernel
theorem own_d5_26 : decode prog_90_method_1_code 26 = .ok (.aload_n 0, 1) := by decide +kernel
theorem own_d5_27 : decode prog_90_method_1_code 27 = .ok (.iload_n 1, 1) := by decide +kernel
theorem own_d5_28 : decode prog_90_method_1_code 28 = .ok (.anewarray 22, 3) := by decide +kernel
theorem own_d5_31 : decode prog_90_method_1_code 31 = .ok (.putfield 24, 3) := by decide +kernel
theorem own_d5_34 : decode prog_90_method_1_code 34 = .ok (.aload_n 0, 1) := by decide +kernel
theorem own_d5_35 : decode prog_90_method_1_code 35 = .ok (.iload_n 1, 1) := by decide +kernel
theorem own_d5_36 : decode prog_90_method_1_code 36 = .ok (.anewarray 28, 3) := by decide +kernel
theorem own_d5_39 : decode prog_90_method_1_code 39 = .ok (.putfield 30, 3) := by decide +kernel
theorem own_d5_42 : decode prog_90_method_1_code 42 = .ok (.aload_n 0, 1) := by decide +kernel
theorem own_d5_43 : decode prog_90_method_1_code 43 = .ok (.iload_n 1, 1) := by decide +kernel
theorem own_d5_44 : decode prog_90_method_1_code 44 = .ok (.newarray .int, 2) := by decide +kernel
theorem own_d5_46 : decode prog_90_method_1_code 46 = .ok (.putfield 34, 3) := by decide +kernel
theorem own_d5_49 : decode prog_90_method_1_code 49 = .ok (.aload_n 0, 1) := by decide +kernel
theorem own_d5_50 : decode prog_90_method_1_code 50 = .ok (.iload_n 1, 1) := by decide +kernel
theorem own_d5_51 : decode prog_90_method_1_code 51 = .ok (.newarray .long, 2) := by decide +kernel
theorem own_d5_53 : decode prog_90_method_1_code 53 = .ok (.putfield 37, 3) := by decide +kernel
theorem own_d5_56 : decode prog_90_method_1_code 56 = .ok (.aload_n 0, 1) := by decide +kernel
theorem own_d5_57 : decode prog_90_method_1_code 57 = .ok (.iload_n 1, 1) := by decide +kernel
theorem own_d5_58 : decode prog_90_method_1_code 58 = .ok (.anewarray 22, 3) := by decide +kernel
theorem own_d5_61 : decode prog_90_method_1_code 61 = .ok (.putfield 41, 3) := by decide +kernel
theorem own_d5_64 : decode prog_90_method_1_code 64 = .ok (.aload_n 0, 1) := by decide +kernel
theorem own_d5_65 : decode prog_90_method_1_code 65 = .ok (.iload_n 1, 1) := by decide +kernel
theorem own_d5_66 : decode prog_90_method_1_code 66 = .ok (.anewarray 28, 3) := by decide +kernel
theorem own_d5_69 : decode prog_90_method_1_code 69 = .ok (.putfield 44, 3) := by decide +kernel
theorem own_d5_72 : decode prog_90_method_1_code 72 = .ok (.return_, 1) := by decide +kernel
theorem own_d6_0 : decode prog_90_method_13_code 0 = .ok (.aload_n 0, 1) := by decide +kernel
theorem own_d6_1 : decode prog_90_method_13_code 1 = .ok (.getfield 41, 3) := by decide +kernel
theorem own_d6_4 : decode prog_90_method_13_code 4 = .ok (.iload_n 1, 1) := by decide +kernel
theorem own_d6_5 : decode prog_90_method_13_code 5 = .ok (.aload_n 2, 1) := by decide +kernel
theorem own_d6_6 : decode prog_90_method_13_code 6 = .ok (.aastore, 1) := by decide +kernel
theorem own_d6_7 : decode prog_90_method_13_code 7 = .ok (.return_, 1) := by decide +kernel
theorem own_d7_0 : decode prog_90_method_16_code 0 = .ok (.aload_n 0, 1) := by decide +kernel
theorem own_d7_1 : decode prog_90_method_16_code 1 = .ok (.getfield 44, 3) := by decide +kernel
theorem own_d7_4 : decode prog_90_method_16_code 4 = .ok (.iload_n 1, 1) := by decide +kernel
theorem own_d7_5 : decode prog_90_method_16_code 5 = .ok (.aaload, 1) := by decide +kernel
theorem own_d7_6 : decode prog_90_method_16_code 6 = .ok (.ifnull 10, 3) := by decide +kernel
theorem own_d7_16 : decode prog_90_method_16_code 16 = .ok (.aload_n 0, 1) := by decide +kernel
theorem own_d7_17 : decode prog_90_method_16_code 17 = .ok (.getfield 41, 3) := by decide +kernel
theorem own_d7_20 : decode prog_90_method_16_code 20 = .ok (.iload_n 1, 1) := by decide +kernel
theorem own_d7_21 : decode prog_90_method_16_code 21 = .ok (.aaload, 1) := by decide +kernel
theorem own_d7_22 : decode prog_90_method_16_code 22 = .ok (.areturn, 1) := by decide +kernel
theorem own_d8_0 : decode method_2_code 0 = .ok (.iload_n 3, 1) := by decide +kernel
theorem own_d8_1 : decode method_2_code 1 = .ok (.ifCond .eq 23, 3) := by decide +kernel
theorem own_d8_4 : decode method_2_code 4 = .ok (.iload_n 1, 1) := by decide +kernel
theorem own_d8_5 : decode method_2_code 5 = .ok (.ifCond .eq 10, 3) := by decide +kernel
theorem own_d8_8 : decode method_2_code 8 = .ok (.iload_n 2, 1) := by decide +kernel
theorem own_d8_9 : decode method_2_code 9 = .ok (.ifCond .eq 6, 3) := by decide +kernel
theorem own_d8_12 : decode method_2_code 12 = .ok (.aload 5, 2) := by decide +kernel
theorem own_d8_14 : decode method_2_code 14 = .ok (.areturn, 1) := by decide +kernel
theorem own_d8_15 : decode method_2_code 15 = .ok (.iload_n 0, 1) := by decide +kernel
theorem own_d8_16 : decode method_2_code 16 = .ok (.ifCond .eq 6, 3) := by decide +kernel
theorem own_d8_19 : decode method_2_code 19 = .ok (.aload 4, 2) := by decide +kernel
theorem own_d8_21 : decode method_2_code 21 = .ok (.areturn, 1) := by decide +kernel
theorem own_d8_22 : decode method_2_code 22 = .ok (.aconst_null, 1) := by decide +kernel
theorem own_d8_23 : decode method_2_code 23 = .ok (.areturn, 1) := by decide +kernel
theorem own_d8_24 : decode method_2_code 24 = .ok (.iload_n 1, 1) := by decide +kernel
theorem own_d8_25 : decode method_2_code 25 = .ok (.ifCond .eq 6, 3) := by decide +kernel
theorem own_d8_28 : decode method_2_code 28 = .ok (.aload 5, 2) := by decide +kernel
theorem own_d8_30 : decode method_2_code 30 = .ok (.areturn, 1) := by decide +kernel
theorem own_d8_31 : decode method_2_code 31 = .ok (.iload_n 0, 1) := by decide +kernel
theorem own_d8_32 : decode method_2_code 32 = .ok (.ifCond .eq 10, 3) := by decide +kernel
theorem own_d8_35 : decode method_2_code 35 = .ok (.iload_n 2, 1) := by decide +kernel
theorem own_d8_36 : decode method_2_code 36 = .ok (.ifCond .eq 6, 3) := by decide +kernel
theorem own_d8_39 : decode method_2_code 39 = .ok (.aload 4, 2) := by decide +kernel
theorem own_d8_41 : decode method_2_code 41 = .ok (.areturn, 1) := by decide +kernel
theorem own_d8_42 : decode method_2_code 42 = .ok (.aconst_null, 1) := by decide +kernel
theorem own_d8_43 : decode method_2_code 43 = .ok (.areturn, 1) := by decide +kernel
theorem own_d9_0 : decode jdk_32_method_1_code 0 = .ok (.getstatic 1, 3) := by decide +kernel
theorem own_d9_3 : decode jdk_32_method_1_code 3 = .ok (.astore_n 0, 1) := by decide +kernel
theorem own_d9_4 : decode jdk_32_method_1_code 4 = .ok (.aload_n 0, 1) := by decide +kernel
theorem own_d9_5 : decode jdk_32_method_1_code 5 = .ok (.areturn, 1) := by decide +kernel
theorem own_pn0 : plainName "java/util/Objects" = true := by first | (simp [plainName, overriddenIn]; done) | decide +kernel
theorem own_pn1 : plainName "java/util/Optional" = true := by first | (simp [plainName, overriddenIn]; done) | decide +kernel
theorem own_pn2 : plainName "com/example/compact_commits/compactcommits/transactions/VersionsFound" = true := by first | (simp [plainName, overriddenIn]; done) | decide +kernel
theorem own_pn3 : plainName "com/example/compact_commits/compactcommits/transactions/VersionsFoundAnswerPinLaw" = true := by first | (simp [plainName, overriddenIn]; done) | decide +kernel
theorem own_pd0 : parseMethodDescriptor "(Ljava/lang/Object;)Ljava/lang/Object;" = some ⟨[(.object "java/lang/Object")], some (.object "java/lang/Object")⟩ := by decide +kernel
theorem own_pd1 : parseMethodDescriptor "(Ljava/lang/Object;)V" = some ⟨[(.object "java/lang/Object")], none⟩ := by decide +kernel
theorem own_pd2 : parseMethodDescriptor "(Ljava/lang/Object;)Ljava/util/Optional;" = some ⟨[(.object "java/lang/Object")], some (.object "java/util/Optional")⟩ := by decide +kernel
theorem own_pd3 : parseMethodDescriptor "(I)V" = some ⟨[.int], none⟩ := by decide +kernel
theorem own_pd4 : parseMethodDescriptor "(ILjava/util/Optional;)V" = some ⟨[.int, (.object "java/util/Optional")], none⟩ := by decide +kernel
theorem own_pd5 : parseMethodDescriptor "(I)Ljava/util/Optional;" = some ⟨[.int], some (.object "java/util/Optional")⟩ := by decide +kernel
theorem own_pd6 : parseMethodDescriptor "(ZZZZLjava/util/Optional;Ljava/util/Optional;)Ljava/util/Optional;" = some ⟨[.boolean, .boolean, .boolean, .boolean, (.object "java/util/Optional"), (.object "java/util/Optional")], some (.object "java/util/Optional")⟩ := by decide +kernel
theorem own_pd7 : parseMethodDescriptor "()Ljava/util/Optional;" = some ⟨[], some (.object "java/util/Optional")⟩ := by decide +kernel
theorem own_ef2 (m : MethodId) (oa : Addr) : entryFrame m #[(.ref oa)] 1 = mkF m 0 #[.val (.ref oa)] [] := by first | (simp [entryFrame, mkF, argsToLocals, Value.category]; done) | rfl
def Q2 (Z : State) (oa : Addr) (h0 : Heap) (n0 : Nat) (vr : Option Value) (hr : Heap) (Lr : List Loc) : Prop := vr = some (.ref oa) ∧ Fr n0 Lr ∧ hr = h0
set_option maxRecDepth 65536 in
set_option maxHeartbeats 40000000 in
theorem rm2 (l : Launch) (Z : State) (a0 : Array Value) (hw : ∀ d ∈ tables_1, d.before a0 Z = true) (ws : List Jvm.Cond) (oa : Addr) (h0 : Heap) (n0 : Nat) (Z0 : n0 ≤ h0.size) :
    MetFree l (⟨"java/util/Objects", "requireNonNull", "(Ljava/lang/Object;)Ljava/lang/Object;"⟩ : MethodName) (head1 (Jvm.Cond.code (⟨"java/util/Objects", "requireNonNull", "(Ljava/lang/Object;)Ljava/lang/Object;"⟩ : MethodName) jdk_31_method_10_code 1 (some (.object "java/lang/Object")) :: ws) ({ frames := 0, cells := 0, slots := 0, locals := 0 } : Room)) (fun aQ UQ => aQ = #[(.ref oa)] ∧ Z.Warmed39 UQ.vm ∧ UQ.heap = h0) (fun _ _ _ _ _ => True) (fun _ UQ oQ VQ => ∃ vQ LQ, oQ = .returned vQ ∧ Q2 Z oa h0 n0 vQ VQ.heap LQ ∧ FrameEnd UQ oQ VQ LQ ({ frames := 0, cells := 0, slots := 0, locals := 0 } : Room).cells ({ frames := 0, cells := 0, slots := 0, locals := 0 } : Room).slots) := by
  refine MetFree.of_bodySF (plainFor_of_name own_pn0) hisR ?_
  intro p e s m args below meth c s₁ Bd hml0 hP hK
  obtain ⟨rfl, hZ, hh⟩ := hP
  have hx := Bd.exec
  have hby := Bd.bytes
  have hml : c.maxLocals = 1 := hml0
  have hown : s.vm.findClass "java/util/Objects" = some m.cls := findClass_of_methodNamed Bd.named
  have hnm := (name_of_methodNamed Bd.named Bd.method).1
  have X0 : Stand p l e ({ frames := 0, cells := 0, slots := 0, locals := 0 } : Room) s m #[(.ref oa)] below meth c s₁ [] 0 0 := Stand.of_body Bd
  have e0 : s₁.heap = h0 := by rw [← hh, Bd.state]; rfl
  have N0 := Fr.nil n0
  show Go p e below (EndQ s below (Q2 Z oa h0 n0) ({ frames := 0, cells := 0, slots := 0, locals := 0 } : Room).cells ({ frames := 0, cells := 0, slots := 0, locals := 0 } : Room).slots) s₁ (entryFrame m #[(.ref oa)] 1)
  obtain ⟨Φ, hΦ⟩ : ∃ Φ, Φ = EndQ s below (Q2 Z oa h0 n0) ({ frames := 0, cells := 0, slots := 0, locals := 0 } : Room).cells ({ frames := 0, cells := 0, slots := 0, locals := 0 } : Room).slots := ⟨_, rfl⟩
  rw [← hΦ, own_ef2]
  show Go p e below Φ s₁ (mkF m 0 #[.val (.ref oa)] [])
  refine Go.of (fun t k => XS.aloadN X0.here hx rfl (hb hby own_d2_0) rfl rfl  k) ?_
  show Go p e below Φ s₁ (mkF m 1 #[.val (.ref oa)] [(.ref oa)])
  refine Go.of (fun t k => XS.ifnonnullYes X0.here hx rfl (pc0 := 1) (pc' := 12) rfl (hb hby own_d2_1) rfl (by decide) (by decide) k) ?_
  show Go p e below Φ s₁ (mkF m 12 #[.val (.ref oa)] [])
  refine Go.of (fun t k => XS.aloadN X0.here hx rfl (hb hby own_d2_12) rfl rfl  k) ?_
  show Go p e below Φ s₁ (mkF m 13 #[.val (.ref oa)] [(.ref oa)])
  rw [hΦ]
  refine Go.ret X0 hx Bd.notSynchronized Bd.returns rfl (Or.inr (Or.inr (Or.inr (Or.inr ⟨rfl, rfl, rfl⟩)))) (hb hby own_d2_13) (by decide) (by decide) ?_
  rw [e0]
  exact ⟨rfl, N0, rfl⟩
theorem own_ef3 (m : MethodId) (oa : Addr) (va : Addr) : entryFrame m #[(.ref oa), (.ref va)] 2 = mkF m 0 #[.val (.ref oa), .val (.ref va)] [] := by first | (simp [entryFrame, mkF, argsToLocals, Value.category]; done) | rfl
def Q3 (Z : State) (oa : Addr) (va : Addr) (u : Value) (h0 : Heap) (n0 : Nat) (vr : Option Value) (hr : Heap) (Lr : List Loc) : Prop := vr = none ∧ Fr n0 Lr ∧ Keep h0 hr [oa] ∧ Exa Z hr oa "java/util/Optional"
set_option maxRecDepth 65536 in
set_option maxHeartbeats 40000000 in
theorem rm3 (l : Launch) (Z : State) (a0 : Array Value) (hw : ∀ d ∈ tables_1, d.before a0 Z = true) (ws : List Jvm.Cond) (oa : Addr) (va : Addr) (u : Value) (h0 : Heap) (n0 : Nat) (Z0 : n0 ≤ h0.size) (F_oa_value : Fld Z h0 oa "java/util/Optional" "value" "Ljava/lang/Object;" u) (E_oa : Exa Z h0 oa "java/util/Optional") (g_oa : n0 ≤ oa) :
    MetFree l (⟨"java/util/Optional", "<init>", "(Ljava/lang/Object;)V"⟩ : MethodName) (head1 (Jvm.Cond.code (⟨"java/util/Optional", "<init>", "(Ljava/lang/Object;)V"⟩ : MethodName) jdk_32_method_2_code 2 none :: ws) ({ frames := 1, cells := 0, slots := 0, locals := 12 } : Room)) (fun aQ UQ => aQ = #[(.ref oa), (.ref va)] ∧ Z.Warmed39 UQ.vm ∧ UQ.heap = h0) (fun _ _ _ _ _ => True) (fun _ UQ oQ VQ => ∃ vQ LQ, oQ = .returned vQ ∧ Q3 Z oa va u h0 n0 vQ VQ.heap LQ ∧ FrameEnd UQ oQ VQ LQ ({ frames := 1, cells := 0, slots := 0, locals := 12 } : Room).cells ({ frames := 1, cells := 0, slots := 0, locals := 12 } : Room).slots) := by
  refine MetFree.of_bodySF (plainFor_of_name own_pn1) hisR ?_
  intro p e s m args below meth c s₁ Bd hml0 hP hK
  obtain ⟨rfl, hZ, hh⟩ := hP
  have hx := Bd.exec
  have hby := Bd.bytes
  have hml : c.maxLocals = 2 := hml0
  have hown : s.vm.findClass "java/util/Optional" = some m.cls := findClass_of_methodNamed Bd.named
  have hnm := (name_of_methodNamed Bd.named Bd.method).1
  have X0 : Stand p l e ({ frames := 1, cells := 0, slots := 0, locals := 12 } : Room) s m #[(.ref oa), (.ref va)] below meth c s₁ [] 0 0 := Stand.of_body Bd
  have e0 : s₁.heap = h0 := by rw [← hh, Bd.state]; rfl
  have N0 := Fr.nil n0
  show Go p e below (EndQ s below (Q3 Z oa va u h0 n0) ({ frames := 1, cells := 0, slots := 0, locals := 12 } : Room).cells ({ frames := 1, cells := 0, slots := 0, locals := 12 } : Room).slots) s₁ (entryFrame m #[(.ref oa), (.ref va)] 2)
  obtain ⟨Φ, hΦ⟩ : ∃ Φ, Φ = EndQ s below (Q3 Z oa va u h0 n0) ({ frames := 1, cells := 0, slots := 0, locals := 12 } : Room).cells ({ frames := 1, cells := 0, slots := 0, locals := 12 } : Room).slots := ⟨_, rfl⟩
  rw [← hΦ, own_ef3]
  show Go p e below Φ s₁ (mkF m 0 #[.val (.ref oa), .val (.ref va)] [])
  refine Go.of (fun t k => XS.aloadN X0.here hx rfl (hb hby own_d3_0) rfl rfl  k) ?_
  show Go p e below Φ s₁ (mkF m 1 #[.val (.ref oa), .val (.ref va)] [(.ref oa)])
  obtain ⟨T1, X1, e1, st1⟩ := initO X0 hx hZ hown (hw _ (List.mem_of_getElem? (i := 16) rfl)) (hw _ (List.mem_of_getElem? (i := 17) rfl)) (hw _ (List.mem_of_getElem? (i := 18) rfl)) e0 (g := (mkF m 1 #[.val (.ref oa), .val (.ref va)] [(.ref oa)])) rfl (by rw [hml]; rfl) rfl (hb hby own_d3_1) (by decide) (W := 0) (by show 2 * 0 + _ ≤ _; exact Nat.le_of_eq rfl) (by decide)
  refine Go.of st1 ?_
  show Go p e below Φ T1 (mkF m 4 #[.val (.ref oa), .val (.ref va)] [])
  refine Go.of (fun t k => XS.aloadN X1.here hx rfl (hb hby own_d3_4) rfl rfl  k) ?_
  show Go p e below Φ T1 (mkF m 5 #[.val (.ref oa), .val (.ref va)] [(.ref oa)])
  refine Go.of (fun t k => XS.aloadN X1.here hx rfl (hb hby own_d3_5) rfl rfl  k) ?_
  show Go p e below Φ T1 (mkF m 6 #[.val (.ref oa), .val (.ref va)] [(.ref va), (.ref oa)])
  obtain ⟨T2, h2, X2, e2, W2, st2⟩ := putF X1 hx hZ hown (host := "") (Or.inl (hw _ (List.mem_of_getElem? (i := 19) rfl))) Via.refl e1 F_oa_value E_oa (Or.inr ⟨(hw _ (List.mem_of_getElem? (i := 20) rfl)), rfl, hnm⟩) (hw _ (List.mem_of_getElem? (i := 7) rfl)) (ty := (.object "java/lang/Object")) (by decide) rfl rfl (g := (mkF m 6 #[.val (.ref oa), .val (.ref va)] [(.ref va), (.ref oa)])) rfl rfl (hb hby own_d3_6)
  have N2 := Fr.snoc X2 N0 g_oa
  have F_oa_value := F_oa_value.same W2
  have E_oa := E_oa.wr W2
  have K2 : Keep h0 h2 [oa] := (Keep.refl h0 [oa]).wr W2 (Or.inl (List.mem_of_getElem? (i := 0) rfl))
  have Z2 := Nat.le_trans Z0 (Keep.of_wr W2).1
  obtain ⟨lc2, X2, N2⟩ : ∃ lc, Stand p l e ({ frames := 1, cells := 0, slots := 0, locals := 12 } : Room) s m #[(.ref oa), (.ref va)] below meth c T2 lc 0 0 ∧ Fr n0 lc := ⟨_, X2, N2⟩
  refine Go.of st2 ?_
  show Go p e below Φ T2 (mkF m 9 #[.val (.ref oa), .val (.ref va)] [])
  rw [hΦ]
  refine Go.retV X2 hx Bd.notSynchronized Bd.returns (hb hby own_d3_9) (by decide) (by decide) ?_
  rw [e2]
  exact ⟨rfl, N2, K2, E_oa⟩
theorem own_ef1 (m : MethodId) (va : Addr) : entryFrame m #[(.ref va)] 1 = mkF m 0 #[.val (.ref va)] [] := by first | (simp [entryFrame, mkF, argsToLocals, Value.category]; done) | rfl
def Q1 (Z : State) (va : Addr) (h0 : Heap) (n0 : Nat) (vr : Option Value) (hr : Heap) (Lr : List Loc) : Prop := ∃ br : Addr, vr = some (.ref br) ∧ Fr n0 Lr ∧ Keep h0 hr [] ∧ h0.size ≤ br ∧ Exa Z hr br "java/util/Optional"
set_option maxRecDepth 65536 in
set_option maxHeartbeats 40000000 in
theorem rm1 (l : Launch) (Z : State) (a0 : Array Value) (hw : ∀ d ∈ tables_1, d.before a0 Z = true) (ws : List Jvm.Cond) (va : Addr) (h0 : Heap) (n0 : Nat) (Z0 : n0 ≤ h0.size) :
    MetFree l (⟨"java/util/Optional", "of", "(Ljava/lang/Object;)Ljava/util/Optional;"⟩ : MethodName) (head1 (Jvm.Cond.code (⟨"java/util/Optional", "of", "(Ljava/lang/Object;)Ljava/util/Optional;"⟩ : MethodName) jdk_32_method_3_code 1 (some (.object "java/util/Optional")) :: ws) ({ frames := 2, cells := 1, slots := 1, locals := 26 } : Room)) (fun aQ UQ => aQ = #[(.ref va)] ∧ Z.Warmed39 UQ.vm ∧ UQ.heap = h0) (fun _ _ _ _ _ => True) (fun _ UQ oQ VQ => ∃ vQ LQ, oQ = .returned vQ ∧ Q1 Z va h0 n0 vQ VQ.heap LQ ∧ FrameEnd UQ oQ VQ LQ ({ frames := 2, cells := 1, slots := 1, locals := 26 } : Room).cells ({ frames := 2, cells := 1, slots := 1, locals := 26 } : Room).slots) := by
  refine MetFree.of_bodySF (plainFor_of_name own_pn1) hisR ?_
  intro p e s m args below meth c s₁ Bd hml0 hP hK
  obtain ⟨rfl, hZ, hh⟩ := hP
  have hx := Bd.exec
  have hby := Bd.bytes
  have hml : c.maxLocals = 1 := hml0
  have hown : s.vm.findClass "java/util/Optional" = some m.cls := findClass_of_methodNamed Bd.named
  have hnm := (name_of_methodNamed Bd.named Bd.method).1
  have X0 : Stand p l e ({ frames := 2, cells := 1, slots := 1, locals := 26 } : Room) s m #[(.ref va)] below meth c s₁ [] 0 0 := Stand.of_body Bd
  have e0 : s₁.heap = h0 := by rw [← hh, Bd.state]; rfl
  have N0 := Fr.nil n0
  show Go p e below (EndQ s below (Q1 Z va h0 n0) ({ frames := 2, cells := 1, slots := 1, locals := 26 } : Room).cells ({ frames := 2, cells := 1, slots := 1, locals := 26 } : Room).slots) s₁ (entryFrame m #[(.ref va)] 1)
  obtain ⟨Φ, hΦ⟩ : ∃ Φ, Φ = EndQ s below (Q1 Z va h0 n0) ({ frames := 2, cells := 1, slots := 1, locals := 26 } : Room).cells ({ frames := 2, cells := 1, slots := 1, locals := 26 } : Room).slots := ⟨_, rfl⟩
  rw [← hΦ, own_ef1]
  show Go p e below Φ s₁ (mkF m 0 #[.val (.ref va)] [])
  obtain ⟨T1, h1, X1, e1, E1, A1, D1, -, st1⟩ := newO X0 hx hZ hown (hw _ (List.mem_of_getElem? (i := 6) rfl)) (hw _ (List.mem_of_getElem? (i := 7) rfl)) (hw _ (List.mem_of_getElem? (i := 4) rfl)) e0 (g := (mkF m 0 #[.val (.ref va)] [])) rfl (hb hby own_d1_0) (by decide) (by decide)
  obtain ⟨b1, g1⟩ : ∃ z, z = h0.size := ⟨_, rfl⟩
  rw [← g1] at A1 D1 st1
  have g_b1 : n0 ≤ b1 := Nat.le_trans Z0 (Nat.le_of_eq g1.symm)
  have sz_b1 : h0.size ≤ b1 := Nat.le_trans (Keep.refl h0 []).1 (Nat.le_of_eq g1.symm)
  have K1 := (Keep.refl h0 []).ext E1
  have Z1 := Nat.le_trans Z0 E1.1
  have E_b1 := A1
  have F_b1_value : Fld Z h1 b1 "java/util/Optional" "value" "Ljava/lang/Object;" .null := D1 (Or.inr (hw _ (List.mem_of_getElem? (i := 20) rfl))) (ty := (.object "java/lang/Object")) (by decide)
  refine Go.of st1 ?_
  show Go p e below Φ T1 (mkF m 3 #[.val (.ref va)] [(.ref b1)])
  refine Go.of (fun t k => XS.dup X1.here hx rfl (hb hby own_d1_3) rfl rfl k) ?_
  show Go p e below Φ T1 (mkF m 4 #[.val (.ref va)] [(.ref b1), (.ref b1)])
  refine Go.of (fun t k => XS.aloadN X1.here hx rfl (hb hby own_d1_4) rfl rfl  k) ?_
  show Go p e below Φ T1 (mkF m 5 #[.val (.ref va)] [(.ref va), (.ref b1), (.ref b1)])
  obtain ⟨_, _, ⟨T2, L2, k2, n2⟩, -, X2, ⟨Lc2, hQ2, l2, y2, z2⟩, st2⟩ := Jvm.LawKit.callS X1 hx (y := (⟨"java/util/Objects", "requireNonNull", "(Ljava/lang/Object;)Ljava/lang/Object;"⟩ : MethodName)) hown (mvT hZ (hw _ (List.mem_of_getElem? (i := 8) rfl))) (mvT hZ (hw _ (List.mem_of_getElem? (i := 9) rfl))) (mvT hZ (hw _ (List.mem_of_getElem? (i := 10) rfl))) (mvT hZ (hw _ (List.mem_of_getElem? (i := 11) rfl))) (by decide) (backOf (W := 2) (rm2 l Z a0 hw [] va h1 n0 Z1 ) hZ (hw _ (List.mem_of_getElem? (i := 11) rfl)) (hw _ (List.mem_of_getElem? (i := 10) rfl)) (by decide) (by decide)) (g := (mkF m 5 #[.val (.ref va)] [(.ref va), (.ref b1), (.ref b1)])) rfl (by rw [hml]; rfl) (argsL := [(.ref va)]) (rest := [(.ref b1), (.ref b1)]) (lenOf own_pd0 rfl) rfl (by show 2 * 0 + _ ≤ _; exact Nat.le_of_eq rfl) (hb hby own_d1_5) (fun _ _ => ⟨rfl, e1, (by decide : 1 + 0 ≤ _), (by decide : 1 + 0 ≤ _)⟩)
  dsimp only [Pt.U, Pt.locs, Pt.cells, Pt.slots] at X2 l2 y2 z2 st2 hQ2
  subst l2 y2 z2
  obtain ⟨rfl, N2q, e2q⟩ := hQ2
  have N2 := Fr.app N0 N2q
  obtain ⟨lc2, X2, N2⟩ : ∃ lc, Stand p l e ({ frames := 2, cells := 1, slots := 1, locals := 26 } : Room) s m #[(.ref va)] below meth c T2 lc 1 1 ∧ Fr n0 lc := ⟨_, X2, N2⟩
  refine Go.of st2 ?_
  show Go p e below Φ T2 (mkF m 8 #[.val (.ref va)] [(.ref va), (.ref b1), (.ref b1)])
  obtain ⟨_, _, ⟨T3, L3, k3, n3⟩, -, X3, ⟨Lc3, hQ3, l3, y3, z3⟩, st3⟩ := X2.specialBack hx (y := (⟨"java/util/Optional", "<init>", "(Ljava/lang/Object;)V"⟩ : MethodName)) rfl hown (mvT hZ (hw _ (List.mem_of_getElem? (i := 12) rfl))) (mvT hZ (hw _ (List.mem_of_getElem? (i := 13) rfl))) (mvT hZ (hw _ (List.mem_of_getElem? (i := 15) rfl))) (by decide) (backOf (W := 1) (rm3 l Z a0 hw [] b1 va .null h1 n0 Z1 F_b1_value E_b1 g_b1) hZ (hw _ (List.mem_of_getElem? (i := 15) rfl)) (hw _ (List.mem_of_getElem? (i := 4) rfl)) (by decide) (by decide)) (g := (mkF m 8 #[.val (.ref va)] [(.ref va), (.ref b1), (.ref b1)])) rfl (by rw [hml]; rfl) (Steps.refl _) (a := b1) (argsL := [(.ref va)]) (rest := [(.ref b1)]) (lenOf own_pd1 rfl) rfl (by show 2 * 0 + _ ≤ _; exact Nat.le_of_eq rfl) (hb hby own_d1_8) (fun _ _ => ⟨rfl, (e2q), (by decide : 1 + 0 ≤ _), (by decide : 1 + 0 ≤ _)⟩)
  dsimp only [Pt.U, Pt.locs, Pt.cells, Pt.slots] at X3 l3 y3 z3 st3 hQ3
  subst l3 y3 z3
  obtain ⟨rfl, N3q, K3q, c3_0⟩ := hQ3
  have N3 := Fr.app N2 N3q
  obtain ⟨lc3, X3, N3⟩ : ∃ lc, Stand p l e ({ frames := 2, cells := 1, slots := 1, locals := 26 } : Room) s m #[(.ref va)] below meth c T3 lc 1 1 ∧ Fr n0 lc := ⟨_, X3, N3⟩
  have E_b1 := c3_0
  have K3 := K1.trans K3q (allS (Or.inr sz_b1) all0)
  have Z3 := Nat.le_trans Z1 K3q.1
  refine Go.tr st3 ?_
  show Go p e below Φ T3 (mkF m 11 #[.val (.ref va)] [(.ref b1)])
  rw [hΦ]
  refine Go.ret X3 hx Bd.notSynchronized Bd.returns rfl (Or.inr (Or.inr (Or.inr (Or.inr ⟨rfl, rfl, rfl⟩)))) (hb hby own_d1_11) (by decide) (by decide) ?_
  exact ⟨b1, rfl, N3, K3, sz_b1, E_b1⟩
theorem own_ef9 (m : MethodId)  : entryFrame m #[] 1 = mkF m 0 #[.unset] [] := by first | (simp [entryFrame, mkF, argsToLocals, Value.category]; done) | rfl
def Q9 (Z : State) (sE : Addr) (h0 : Heap) (n0 : Nat) (vr : Option Value) (hr : Heap) (Lr : List Loc) : Prop := vr = some (.ref sE) ∧ Fr n0 Lr ∧ hr = h0
set_option maxRecDepth 65536 in
set_option maxHeartbeats 40000000 in
theorem rm9 (l : Launch) (Z : State) (a0 : Array Value) (hw : ∀ d ∈ tables_1, d.before a0 Z = true) (ws : List Jvm.Cond) (sE : Addr) (h0 : Heap) (n0 : Nat) (Z0 : n0 ≤ h0.size) (S_EMPTY : Sta Z h0 "java/util/Optional" "EMPTY" "Ljava/util/Optional;" (.ref sE)) :
    MetFree l (⟨"java/util/Optional", "empty", "()Ljava/util/Optional;"⟩ : MethodName) (head1 (Jvm.Cond.code (⟨"java/util/Optional", "empty", "()Ljava/util/Optional;"⟩ : MethodName) jdk_32_method_1_code 1 (some (.object "java/util/Optional")) :: ws) ({ frames := 0, cells := 0, slots := 0, locals := 0 } : Room)) (fun aQ UQ => aQ = #[] ∧ Z.Warmed39 UQ.vm ∧ UQ.heap = h0) (fun _ _ _ _ _ => True) (fun _ UQ oQ VQ => ∃ vQ LQ, oQ = .returned vQ ∧ Q9 Z sE h0 n0 vQ VQ.heap LQ ∧ FrameEnd UQ oQ VQ LQ ({ frames := 0, cells := 0, slots := 0, locals := 0 } : Room).cells ({ frames := 0, cells := 0, slots := 0, locals := 0 } : Room).slots) := by
  refine MetFree.of_bodySF (plainFor_of_name own_pn1) hisR ?_
  intro p e s m args below meth c s₁ Bd hml0 hP hK
  obtain ⟨rfl, hZ, hh⟩ := hP
  have hx := Bd.exec
  have hby := Bd.bytes
  have hml : c.maxLocals = 1 := hml0
  have hown : s.vm.findClass "java/util/Optional" = some m.cls := findClass_of_methodNamed Bd.named
  have hnm := (name_of_methodNamed Bd.named Bd.method).1
  have X0 : Stand p l e ({ frames := 0, cells := 0, slots := 0, locals := 0 } : Room) s m #[] below meth c s₁ [] 0 0 := Stand.of_body Bd
  have e0 : s₁.heap = h0 := by rw [← hh, Bd.state]; rfl
  have N0 := Fr.nil n0
  show Go p e below (EndQ s below (Q9 Z sE h0 n0) ({ frames := 0, cells := 0, slots := 0, locals := 0 } : Room).cells ({ frames := 0, cells := 0, slots := 0, locals := 0 } : Room).slots) s₁ (entryFrame m #[] 1)
  obtain ⟨Φ, hΦ⟩ : ∃ Φ, Φ = EndQ s below (Q9 Z sE h0 n0) ({ frames := 0, cells := 0, slots := 0, locals := 0 } : Room).cells ({ frames := 0, cells := 0, slots := 0, locals := 0 } : Room).slots := ⟨_, rfl⟩
  rw [← hΦ, own_ef9]
  show Go p e below Φ s₁ (mkF m 0 #[.unset] [])
  obtain ⟨T1, X1, e1, st1⟩ := getS2 X0 hx hZ hown (host := "") (Or.inl (hw _ (List.mem_of_getElem? (i := 71) rfl))) Via.refl e0 S_EMPTY (g := (mkF m 0 #[.unset] [])) rfl (hb hby own_d9_0)
  refine Go.of st1 ?_
  show Go p e below Φ T1 (mkF m 3 #[.unset] [(.ref sE)])
  refine Go.of (fun t k => XS.astoreN X1.here hx rfl (hb hby own_d9_3) rfl rfl (l' := #[.val (.ref sE)]) rfl k) ?_
  show Go p e below Φ T1 (mkF m 4 #[.val (.ref sE)] [])
  refine Go.of (fun t k => XS.aloadN X1.here hx rfl (hb hby own_d9_4) rfl rfl  k) ?_
  show Go p e below Φ T1 (mkF m 5 #[.val (.ref sE)] [(.ref sE)])
  rw [hΦ]
  refine Go.ret X1 hx Bd.notSynchronized Bd.returns rfl (Or.inr (Or.inr (Or.inr (Or.inr ⟨rfl, rfl, rfl⟩)))) (hb hby own_d9_5) (by decide) (by decide) ?_
  rw [e1]
  exact ⟨rfl, N0, rfl⟩
theorem own_ef5 (m : MethodId) (oa : Addr) (nn : Int32) : entryFrame m #[(.ref oa), (.int nn)] 2 = mkF m 0 #[.val (.ref oa), .val (.int nn)] [] := by first | (simp [entryFrame, mkF, argsToLocals, Value.category]; done) | rfl
def Q5 (Z : State) (oa : Addr) (nn : Int32) (u0 : Value) (u1 : Value) (u2 : Value) (u3 : Value) (u4 : Value) (u5 : Value) (u6 : Value) (u7 : Value) (u8 : Value) (h0 : Heap) (n0 : Nat) (vr : Option Value) (hr : Heap) (Lr : List Loc) : Prop := ∃ (ba bf : Addr) (ka kf : ClassId), vr = none ∧ Fr n0 Lr ∧ Keep h0 hr [oa] ∧ Exa Z hr oa "com/example/compact_commits/compactcommits/transactions/VersionsFound" ∧ Fld Z hr oa "com/example/compact_commits/compactcommits/transactions/VersionsFound" "answers" "[Ljava/util/Optional;" (.ref ba) ∧ Fld Z hr oa "com/example/compact_commits/compactcommits/transactions/VersionsFound" "failures" "[Lcom/example/compact_commits/compactcommits/StoreException;" (.ref bf) ∧ Arh Z hr ba ka (.object "java/util/Optional") nn [] [] .null ∧ Ovr Z ka "java/util/Optional" ∧ Arh Z hr bf kf (.object "com/example/compact_commits/compactcommits/StoreException") nn [] [] .null ∧ h0.size ≤ ba ∧ h0.size ≤ bf ∧ ba ≠ bf
set_option maxRecDepth 65536 in
set_option maxHeartbeats 40000000 in
theorem rm5 (l : Launch) (Z : State) (a0 : Array Value) (hw : ∀ d ∈ tables_1, d.before a0 Z = true) (ws : List Jvm.Cond) (oa : Addr) (nn : Int32) (u0 : Value) (u1 : Value) (u2 : Value) (u3 : Value) (u4 : Value) (u5 : Value) (u6 : Value) (u7 : Value) (u8 : Value) (h0 : Heap) (n0 : Nat) (Z0 : n0 ≤ h0.size) (F_oa_numbers : Fld Z h0 oa "com/example/compact_commits/compactcommits/transactions/VersionsFound" "numbers" "[I" u0) (F_oa_keys : Fld Z h0 oa "com/example/compact_commits/compactcommits/transactions/VersionsFound" "keys" "[[B" u1) (F_oa_cellKeyLengths : Fld Z h0 oa "com/example/compact_commits/compactcommits/transactions/VersionsFound" "cellKeyLengths" "[I" u2) (F_oa_values : Fld Z h0 oa "com/example/compact_commits/compactcommits/transactions/VersionsFound" "values" "[Ljava/util/Optional;" u3) (F_oa_undecoded : Fld Z h0 oa "com/example/compact_commits/compactcommits/transactions/VersionsFound" "undecoded" "[Lcom/example/compact_commits/compactcommits/StoreException;" u4) (F_oa_writerOf : Fld Z h0 oa "com/example/compact_commits/compactcommits/transactions/VersionsFound" "writerOf" "[I" u5) (F_oa_writers : Fld Z h0 oa "com/example/compact_commits/compactcommits/transactions/VersionsFound" "writers" "[J" u6) (F_oa_answers : Fld Z h0 oa "com/example/compact_commits/compactcommits/transactions/VersionsFound" "answers" "[Ljava/util/Optional;" u7) (F_oa_failures : Fld Z h0 oa "com/example/compact_commits/compactcommits/transactions/VersionsFound" "failures" "[Lcom/example/compact_commits/compactcommits/StoreException;" u8) (E_oa : Exa Z h0 oa "com/example/compact_commits/compactcommits/transactions/VersionsFound") (g_oa : n0 ≤ oa) (hnn : ¬ nn < 0) (hcap : nn.toNatClampNeg ≤ 4) :
    MetFree l (⟨"com/example/compact_commits/compactcommits/transactions/VersionsFound", "<init>", "(I)V"⟩ : MethodName) (head1 (Jvm.Cond.code (⟨"com/example/compact_commits/compactcommits/transactions/VersionsFound", "<init>", "(I)V"⟩ : MethodName) prog_90_method_1_code 2 none :: ws) ({ frames := 1, cells := 9, slots := 36, locals := 12 } : Room)) (fun aQ UQ => aQ = #[(.ref oa), (.int nn)] ∧ Z.Warmed39 UQ.vm ∧ UQ.heap = h0) (fun _ _ _ _ _ => True) (fun _ UQ oQ VQ => ∃ vQ LQ, oQ = .returned vQ ∧ Q5 Z oa nn u0 u1 u2 u3 u4 u5 u6 u7 u8 h0 n0 vQ VQ.heap LQ ∧ FrameEnd UQ oQ VQ LQ ({ frames := 1, cells := 9, slots := 36, locals := 12 } : Room).cells ({ frames := 1, cells := 9, slots := 36, locals := 12 } : Room).slots) := by
  refine MetFree.of_bodySF (plainFor_of_name own_pn2) hisR ?_
  intro p e s m args below meth c s₁ Bd hml0 hP hK
  obtain ⟨rfl, hZ, hh⟩ := hP
  have hx := Bd.exec
  have hby := Bd.bytes
  have hml : c.maxLocals = 2 := hml0
  have hown : s.vm.findClass "com/example/compact_commits/compactcommits/transactions/VersionsFound" = some m.cls := findClass_of_methodNamed Bd.named
  have hnm := (name_of_methodNamed Bd.named Bd.method).1
  have X0 : Stand p l e ({ frames := 1, cells := 9, slots := 36, locals := 12 } : Room) s m #[(.ref oa), (.int nn)] below meth c s₁ [] 0 0 := Stand.of_body Bd
  have e0 : s₁.heap = h0 := by rw [← hh, Bd.state]; rfl
  have N0 := Fr.nil n0
  show Go p e below (EndQ s below (Q5 Z oa nn u0 u1 u2 u3 u4 u5 u6 u7 u8 h0 n0) ({ frames := 1, cells := 9, slots := 36, locals := 12 } : Room).cells ({ frames := 1, cells := 9, slots := 36, locals := 12 } : Room).slots) s₁ (entryFrame m #[(.ref oa), (.int nn)] 2)
  obtain ⟨Φ, hΦ⟩ : ∃ Φ, Φ = EndQ s below (Q5 Z oa nn u0 u1 u2 u3 u4 u5 u6 u7 u8 h0 n0) ({ frames := 1, cells := 9, slots := 36, locals := 12 } : Room).cells ({ frames := 1, cells := 9, slots := 36, locals := 12 } : Room).slots := ⟨_, rfl⟩
  rw [← hΦ, own_ef5]
  show Go p e below Φ s₁ (mkF m 0 #[.val (.ref oa), .val (.int nn)] [])
  refine Go.of (fun t k => XS.aloadN X0.here hx rfl (hb hby own_d5_0) rfl rfl  k) ?_
  show Go p e below Φ s₁ (mkF m 1 #[.val (.ref oa), .val (.int nn)] [(.ref oa)])
  obtain ⟨T1, X1, e1, st1⟩ := initO X0 hx hZ hown (hw _ (List.mem_of_getElem? (i := 27) rfl)) (hw _ (List.mem_of_getElem? (i := 17) rfl)) (hw _ (List.mem_of_getElem? (i := 18) rfl)) e0 (g := (mkF m 1 #[.val (.ref oa), .val (.int nn)] [(.ref oa)])) rfl (by rw [hml]; rfl) rfl (hb hby own_d5_1) (by decide) (W := 0) (by show 2 * 0 + _ ≤ _; exact Nat.le_of_eq rfl) (by decide)
  refine Go.of st1 ?_
  show Go p e below Φ T1 (mkF m 4 #[.val (.ref oa), .val (.int nn)] [])
  refine Go.of (fun t k => XS.aloadN X1.here hx rfl (hb hby own_d5_4) rfl rfl  k) ?_
  show Go p e below Φ T1 (mkF m 5 #[.val (.ref oa), .val (.int nn)] [(.ref oa)])
  refine Go.of (fun t k => XS.iloadN X1.here hx rfl (hb hby own_d5_5) rfl  k) ?_
  show Go p e below Φ T1 (mkF m 6 #[.val (.ref oa), .val (.int nn)] [(.int nn), (.ref oa)])
  obtain ⟨T2, h2, k2, X2, e2, E2, A2, st2⟩ := newP X1 hx hZ (hw _ (List.mem_of_getElem? (i := 28) rfl)) e1 (g := (mkF m 6 #[.val (.ref oa), .val (.int nn)] [(.int nn), (.ref oa)])) rfl (hb hby own_d5_6) rfl hnn (cap := 4) hcap (by decide) (by decide) (by decide)
  obtain ⟨b2, g2⟩ : ∃ z, z = h0.size := ⟨_, rfl⟩
  rw [← g2] at A2 st2
  have ne_oa_b2 : oa ≠ b2 := Nat.ne_of_lt (Nat.lt_of_lt_of_le F_oa_numbers.lt (Nat.le_of_eq g2.symm))
  have g_b2 : n0 ≤ b2 := Nat.le_trans Z0 (Nat.le_of_eq g2.symm)
  have sz_b2 : h0.size ≤ b2 := Nat.le_trans (Keep.refl h0 [oa]).1 (Nat.le_of_eq g2.symm)
  have K2 := (Keep.refl h0 [oa]).ext E2
  have Z2 := Nat.le_trans Z0 E2.1
  have F_oa_numbers := F_oa_numbers.ext E2
  have F_oa_keys := F_oa_keys.ext E2
  have F_oa_cellKeyLengths := F_oa_cellKeyLengths.ext E2
  have F_oa_values := F_oa_values.ext E2
  have F_oa_undecoded := F_oa_undecoded.ext E2
  have F_oa_writerOf := F_oa_writerOf.ext E2
  have F_oa_writers := F_oa_writers.ext E2
  have F_oa_answers := F_oa_answers.ext E2
  have F_oa_failures := F_oa_failures.ext E2
  have E_oa := E_oa.ext E2
  refine Go.of st2 ?_
  show Go p e below Φ T2 (mkF m 8 #[.val (.ref oa), .val (.int nn)] [(.ref b2), (.ref oa)])
  obtain ⟨T3, h3, X3, e3, W3, st3⟩ := putF X2 hx hZ hown (host := "") (Or.inl (hw _ (List.mem_of_getElem? (i := 29) rfl))) Via.refl e2 F_oa_numbers E_oa (Or.inr ⟨(hw _ (List.mem_of_getElem? (i := 30) rfl)), rfl, hnm⟩) (hw _ (List.mem_of_getElem? (i := 22) rfl)) (ty := (.array .int)) (by decide) rfl rfl (g := (mkF m 8 #[.val (.ref oa), .val (.int nn)] [(.ref b2), (.ref oa)])) rfl rfl (hb hby own_d5_8)
  have N3 := Fr.snoc X3 N0 g_oa
  have F_oa_numbers := F_oa_numbers.same W3
  have F_oa_keys := F_oa_keys.other W3 (Or.inr (slot_ne (Or.inr (hw _ (List.mem_of_getElem? (i := 34) rfl))) (Or.inr (hw _ (List.mem_of_getElem? (i := 30) rfl))) (by decide) (t := (.array (.array .byte))) (t' := (.array .int)) (by decide) (by decide)))
  have F_oa_cellKeyLengths := F_oa_cellKeyLengths.other W3 (Or.inr (slot_ne (Or.inr (hw _ (List.mem_of_getElem? (i := 36) rfl))) (Or.inr (hw _ (List.mem_of_getElem? (i := 30) rfl))) (by decide) (t := (.array .int)) (t' := (.array .int)) (by decide) (by decide)))
  have F_oa_values := F_oa_values.other W3 (Or.inr (slot_ne (Or.inr (hw _ (List.mem_of_getElem? (i := 40) rfl))) (Or.inr (hw _ (List.mem_of_getElem? (i := 30) rfl))) (by decide) (t := (.array (.object "java/util/Optional"))) (t' := (.array .int)) (by decide) (by decide)))
  have F_oa_undecoded := F_oa_undecoded.other W3 (Or.inr (slot_ne (Or.inr (hw _ (List.mem_of_getElem? (i := 44) rfl))) (Or.inr (hw _ (List.mem_of_getElem? (i := 30) rfl))) (by decide) (t := (.array (.object "com/example/compact_commits/compactcommits/StoreException"))) (t' := (.array .int)) (by decide) (by decide)))
  have F_oa_writerOf := F_oa_writerOf.other W3 (Or.inr (slot_ne (Or.inr (hw _ (List.mem_of_getElem? (i := 46) rfl))) (Or.inr (hw _ (List.mem_of_getElem? (i := 30) rfl))) (by decide) (t := (.array .int)) (t' := (.array .int)) (by decide) (by decide)))
  have F_oa_writers := F_oa_writers.other W3 (Or.inr (slot_ne (Or.inr (hw _ (List.mem_of_getElem? (i := 49) rfl))) (Or.inr (hw _ (List.mem_of_getElem? (i := 30) rfl))) (by decide) (t := (.array .long)) (t' := (.array .int)) (by decide) (by decide)))
  have F_oa_answers := F_oa_answers.other W3 (Or.inr (slot_ne (Or.inr (hw _ (List.mem_of_getElem? (i := 51) rfl))) (Or.inr (hw _ (List.mem_of_getElem? (i := 30) rfl))) (by decide) (t := (.array (.object "java/util/Optional"))) (t' := (.array .int)) (by decide) (by decide)))
  have F_oa_failures := F_oa_failures.other W3 (Or.inr (slot_ne (Or.inr (hw _ (List.mem_of_getElem? (i := 53) rfl))) (Or.inr (hw _ (List.mem_of_getElem? (i := 30) rfl))) (by decide) (t := (.array (.object "com/example/compact_commits/compactcommits/StoreException"))) (t' := (.array .int)) (by decide) (by decide)))
  have E_oa := E_oa.wr W3
  have K3 : Keep h0 h3 [oa] := K2.wr W3 (Or.inl (List.mem_of_getElem? (i := 0) rfl))
  have Z3 := Nat.le_trans Z2 (Keep.of_wr W3).1
  obtain ⟨lc3, X3, N3⟩ : ∃ lc, Stand p l e ({ frames := 1, cells := 9, slots := 36, locals := 12 } : Room) s m #[(.ref oa), (.int nn)] below meth c T3 lc 1 4 ∧ Fr n0 lc := ⟨_, X3, N3⟩
  refine Go.of st3 ?_
  show Go p e below Φ T3 (mkF m 11 #[.val (.ref oa), .val (.int nn)] [])
  refine Go.of (fun t k => XS.aloadN X3.here hx rfl (hb hby own_d5_11) rfl rfl  k) ?_
  show Go p e below Φ T3 (mkF m 12 #[.val (.ref oa), .val (.int nn)] [(.ref oa)])
  refine Go.of (fun t k => XS.iloadN X3.here hx rfl (hb hby own_d5_12) rfl  k) ?_
  show Go p e below Φ T3 (mkF m 13 #[.val (.ref oa), .val (.int nn)] [(.int nn), (.ref oa)])
  obtain ⟨T4, h4, k4, X4, e4, E4, A4, -, Ov4, st4⟩ := newRA X3 hx hZ hown (ty := .byte) rfl (hw _ (List.mem_of_getElem? (i := 31) rfl)) (hw _ (List.mem_of_getElem? (i := 32) rfl)) e3 (g := (mkF m 13 #[.val (.ref oa), .val (.int nn)] [(.int nn), (.ref oa)])) rfl (hb hby own_d5_13) rfl hnn (cap := 4) hcap (by decide) (by decide) (by decide) rfl
  obtain ⟨b4, g4⟩ : ∃ z, z = h3.size := ⟨_, rfl⟩
  rw [← g4] at A4 st4
  have ne_oa_b4 : oa ≠ b4 := Nat.ne_of_lt (Nat.lt_of_lt_of_le F_oa_numbers.lt (Nat.le_of_eq g4.symm))
  have g_b4 : n0 ≤ b4 := Nat.le_trans Z3 (Nat.le_of_eq g4.symm)
  have sz_b4 : h0.size ≤ b4 := Nat.le_trans K3.1 (Nat.le_of_eq g4.symm)
  have K4 := K3.ext E4
  have Z4 := Nat.le_trans Z3 E4.1
  have F_oa_numbers := F_oa_numbers.ext E4
  have F_oa_keys := F_oa_keys.ext E4
  have F_oa_cellKeyLengths := F_oa_cellKeyLengths.ext E4
  have F_oa_values := F_oa_values.ext E4
  have F_oa_undecoded := F_oa_undecoded.ext E4
  have F_oa_writerOf := F_oa_writerOf.ext E4
  have F_oa_writers := F_oa_writers.ext E4
  have F_oa_answers := F_oa_answers.ext E4
  have F_oa_failures := F_oa_failures.ext E4
  have E_oa := E_oa.ext E4
  refine Go.of st4 ?_
  show Go p e below Φ T4 (mkF m 16 #[.val (.ref oa), .val (.int nn)] [(.ref b4), (.ref oa)])
  obtain ⟨T5, h5, X5, e5, W5, st5⟩ := putF X4 hx hZ hown (host := "") (Or.inl (hw _ (List.mem_of_getElem? (i := 33) rfl))) Via.refl e4 F_oa_keys E_oa (Or.inr ⟨(hw _ (List.mem_of_getElem? (i := 34) rfl)), rfl, hnm⟩) (hw _ (List.mem_of_getElem? (i := 22) rfl)) (ty := (.array (.array .byte))) (by decide) rfl rfl (g := (mkF m 16 #[.val (.ref oa), .val (.int nn)] [(.ref b4), (.ref oa)])) rfl rfl (hb hby own_d5_16)
  have N5 := Fr.snoc X5 N3 g_oa
  have F_oa_keys := F_oa_keys.same W5
  have F_oa_numbers := F_oa_numbers.other W5 (Or.inr (slot_ne (Or.inr (hw _ (List.mem_of_getElem? (i := 30) rfl))) (Or.inr (hw _ (List.mem_of_getElem? (i := 34) rfl))) (by decide) (t := (.array .int)) (t' := (.array (.array .byte))) (by decide) (by decide)))
  have F_oa_cellKeyLengths := F_oa_cellKeyLengths.other W5 (Or.inr (slot_ne (Or.inr (hw _ (List.mem_of_getElem? (i := 36) rfl))) (Or.inr (hw _ (List.mem_of_getElem? (i := 34) rfl))) (by decide) (t := (.array .int)) (t' := (.array (.array .byte))) (by decide) (by decide)))
  have F_oa_values := F_oa_values.other W5 (Or.inr (slot_ne (Or.inr (hw _ (List.mem_of_getElem? (i := 40) rfl))) (Or.inr (hw _ (List.mem_of_getElem? (i := 34) rfl))) (by decide) (t := (.array (.object "java/util/Optional"))) (t' := (.array (.array .byte))) (by decide) (by decide)))
  have F_oa_undecoded := F_oa_undecoded.other W5 (Or.inr (slot_ne (Or.inr (hw _ (List.mem_of_getElem? (i := 44) rfl))) (Or.inr (hw _ (List.mem_of_getElem? (i := 34) rfl))) (by decide) (t := (.array (.object "com/example/compact_commits/compactcommits/StoreException"))) (t' := (.array (.array .byte))) (by decide) (by decide)))
  have F_oa_writerOf := F_oa_writerOf.other W5 (Or.inr (slot_ne (Or.inr (hw _ (List.mem_of_getElem? (i := 46) rfl))) (Or.inr (hw _ (List.mem_of_getElem? (i := 34) rfl))) (by decide) (t := (.array .int)) (t' := (.array (.array .byte))) (by decide) (by decide)))
  have F_oa_writers := F_oa_writers.other W5 (Or.inr (slot_ne (Or.inr (hw _ (List.mem_of_getElem? (i := 49) rfl))) (Or.inr (hw _ (List.mem_of_getElem? (i := 34) rfl))) (by decide) (t := (.array .long)) (t' := (.array (.array .byte))) (by decide) (by decide)))
  have F_oa_answers := F_oa_answers.other W5 (Or.inr (slot_ne (Or.inr (hw _ (List.mem_of_getElem? (i := 51) rfl))) (Or.inr (hw _ (List.mem_of_getElem? (i := 34) rfl))) (by decide) (t := (.array (.object "java/util/Optional"))) (t' := (.array (.array .byte))) (by decide) (by decide)))
  have F_oa_failures := F_oa_failures.other W5 (Or.inr (slot_ne (Or.inr (hw _ (List.mem_of_getElem? (i := 53) rfl))) (Or.inr (hw _ (List.mem_of_getElem? (i := 34) rfl))) (by decide) (t := (.array (.object "com/example/compact_commits/compactcommits/StoreException"))) (t' := (.array (.array .byte))) (by decide) (by decide)))
  have E_oa := E_oa.wr W5
  have K5 : Keep h0 h5 [oa] := K4.wr W5 (Or.inl (List.mem_of_getElem? (i := 0) rfl))
  have Z5 := Nat.le_trans Z4 (Keep.of_wr W5).1
  obtain ⟨lc5, X5, N5⟩ : ∃ lc, Stand p l e ({ frames := 1, cells := 9, slots := 36, locals := 12 } : Room) s m #[(.ref oa), (.int nn)] below meth c T5 lc 2 8 ∧ Fr n0 lc := ⟨_, X5, N5⟩
  refine Go.of st5 ?_
  show Go p e below Φ T5 (mkF m 19 #[.val (.ref oa), .val (.int nn)] [])
  refine Go.of (fun t k => XS.aloadN X5.here hx rfl (hb hby own_d5_19) rfl rfl  k) ?_
  show Go p e below Φ T5 (mkF m 20 #[.val (.ref oa), .val (.int nn)] [(.ref oa)])
  refine Go.of (fun t k => XS.iloadN X5.here hx rfl (hb hby own_d5_20) rfl  k) ?_
  show Go p e below Φ T5 (mkF m 21 #[.val (.ref oa), .val (.int nn)] [(.int nn), (.ref oa)])
  obtain ⟨T6, h6, k6, X6, e6, E6, A6, st6⟩ := newP X5 hx hZ (hw _ (List.mem_of_getElem? (i := 28) rfl)) e5 (g := (mkF m 21 #[.val (.ref oa), .val (.int nn)] [(.int nn), (.ref oa)])) rfl (hb hby own_d5_21) rfl hnn (cap := 4) hcap (by decide) (by decide) (by decide)
  obtain ⟨b6, g6⟩ : ∃ z, z = h5.size := ⟨_, rfl⟩
  rw [← g6] at A6 st6
  have ne_oa_b6 : oa ≠ b6 := Nat.ne_of_lt (Nat.lt_of_lt_of_le F_oa_numbers.lt (Nat.le_of_eq g6.symm))
  have g_b6 : n0 ≤ b6 := Nat.le_trans Z5 (Nat.le_of_eq g6.symm)
  have sz_b6 : h0.size ≤ b6 := Nat.le_trans K5.1 (Nat.le_of_eq g6.symm)
  have K6 := K5.ext E6
  have Z6 := Nat.le_trans Z5 E6.1
  have F_oa_numbers := F_oa_numbers.ext E6
  have F_oa_keys := F_oa_keys.ext E6
  have F_oa_cellKeyLengths := F_oa_cellKeyLengths.ext E6
  have F_oa_values := F_oa_values.ext E6
  have F_oa_undecoded := F_oa_undecoded.ext E6
  have F_oa_writerOf := F_oa_writerOf.ext E6
  have F_oa_writers := F_oa_writers.ext E6
  have F_oa_answers := F_oa_answers.ext E6
  have F_oa_failures := F_oa_failures.ext E6
  have E_oa := E_oa.ext E6
  refine Go.of st6 ?_
  show Go p e below Φ T6 (mkF m 23 #[.val (.ref oa), .val (.int nn)] [(.ref b6), (.ref oa)])
  obtain ⟨T7, h7, X7, e7, W7, st7⟩ := putF X6 hx hZ hown (host := "") (Or.inl (hw _ (List.mem_of_getElem? (i := 35) rfl))) Via.refl e6 F_oa_cellKeyLengths E_oa (Or.inr ⟨(hw _ (List.mem_of_getElem? (i := 36) rfl)), rfl, hnm⟩) (hw _ (List.mem_of_getElem? (i := 22) rfl)) (ty := (.array .int)) (by decide) rfl rfl (g := (mkF m 23 #[.val (.ref oa), .val (.int nn)] [(.ref b6), (.ref oa)])) rfl rfl (hb hby own_d5_23)
  have N7 := Fr.snoc X7 N5 g_oa
  have F_oa_cellKeyLengths := F_oa_cellKeyLengths.same W7
  have F_oa_numbers := F_oa_numbers.other W7 (Or.inr (slot_ne (Or.inr (hw _ (List.mem_of_getElem? (i := 30) rfl))) (Or.inr (hw _ (List.mem_of_getElem? (i := 36) rfl))) (by decide) (t := (.array .int)) (t' := (.array .int)) (by decide) (by decide)))
  have F_oa_keys := F_oa_keys.other W7 (Or.inr (slot_ne (Or.inr (hw _ (List.mem_of_getElem? (i := 34) rfl))) (Or.inr (hw _ (List.mem_of_getElem? (i := 36) rfl))) (by decide) (t := (.array (.array .byte))) (t' := (.array .int)) (by decide) (by decide)))
  have F_oa_values := F_oa_values.other W7 (Or.inr (slot_ne (Or.inr (hw _ (List.mem_of_getElem? (i := 40) rfl))) (Or.inr (hw _ (List.mem_of_getElem? (i := 36) rfl))) (by decide) (t := (.array (.object "java/util/Optional"))) (t' := (.array .int)) (by decide) (by decide)))
  have F_oa_undecoded := F_oa_undecoded.other W7 (Or.inr (slot_ne (Or.inr (hw _ (List.mem_of_getElem? (i := 44) rfl))) (Or.inr (hw _ (List.mem_of_getElem? (i := 36) rfl))) (by decide) (t := (.array (.object "com/example/compact_commits/compactcommits/StoreException"))) (t' := (.array .int)) (by decide) (by decide)))
  have F_oa_writerOf := F_oa_writerOf.other W7 (Or.inr (slot_ne (Or.inr (hw _ (List.mem_of_getElem? (i := 46) rfl))) (Or.inr (hw _ (List.mem_of_getElem? (i := 36) rfl))) (by decide) (t := (.array .int)) (t' := (.array .int)) (by decide) (by decide)))
  have F_oa_writers := F_oa_writers.other W7 (Or.inr (slot_ne (Or.inr (hw _ (List.mem_of_getElem? (i := 49) rfl))) (Or.inr (hw _ (List.mem_of_getElem? (i := 36) rfl))) (by decide) (t := (.array .long)) (t' := (.array .int)) (by decide) (by decide)))
  have F_oa_answers := F_oa_answers.other W7 (Or.inr (slot_ne (Or.inr (hw _ (List.mem_of_getElem? (i := 51) rfl))) (Or.inr (hw _ (List.mem_of_getElem? (i := 36) rfl))) (by decide) (t := (.array (.object "java/util/Optional"))) (t' := (.array .int)) (by decide) (by decide)))
  have F_oa_failures := F_oa_failures.other W7 (Or.inr (slot_ne (Or.inr (hw _ (List.mem_of_getElem? (i := 53) rfl))) (Or.inr (hw _ (List.mem_of_getElem? (i := 36) rfl))) (by decide) (t := (.array (.object "com/example/compact_commits/compactcommits/StoreException"))) (t' := (.array .int)) (by decide) (by decide)))
  have E_oa := E_oa.wr W7
  have K7 : Keep h0 h7 [oa] := K6.wr W7 (Or.inl (List.mem_of_getElem? (i := 0) rfl))
  have Z7 := Nat.le_trans Z6 (Keep.of_wr W7).1
  obtain ⟨lc7, X7, N7⟩ : ∃ lc, Stand p l e ({ frames := 1, cells := 9, slots := 36, locals := 12 } : Room) s m #[(.ref oa), (.int nn)] below meth c T7 lc 3 12 ∧ Fr n0 lc := ⟨_, X7, N7⟩
  refine Go.of st7 ?_
  show Go p e below Φ T7 (mkF m 26 #[.val (.ref oa), .val (.int nn)] [])
  refine Go.of (fun t k => XS.aloadN X7.here hx rfl (hb hby own_d5_26) rfl rfl  k) ?_
  show Go p e below Φ T7 (mkF m 27 #[.val (.ref oa), .val (.int nn)] [(.ref oa)])
  refine Go.of (fun t k => XS.iloadN X7.here hx rfl (hb hby own_d5_27) rfl  k) ?_
  show Go p e below Φ T7 (mkF m 28 #[.val (.ref oa), .val (.int nn)] [(.int nn), (.ref oa)])
  obtain ⟨T8, h8, k8, X8, e8, E8, A8, Ov8, st8⟩ := newR X7 hx hZ hown (hw _ (List.mem_of_getElem? (i := 37) rfl)) (hw _ (List.mem_of_getElem? (i := 38) rfl)) e7 (g := (mkF m 28 #[.val (.ref oa), .val (.int nn)] [(.int nn), (.ref oa)])) rfl (hb hby own_d5_28) rfl hnn (cap := 4) hcap (by decide) (by decide) (by decide)
  obtain ⟨b8, g8⟩ : ∃ z, z = h7.size := ⟨_, rfl⟩
  rw [← g8] at A8 st8
  have ne_oa_b8 : oa ≠ b8 := Nat.ne_of_lt (Nat.lt_of_lt_of_le F_oa_numbers.lt (Nat.le_of_eq g8.symm))
  have g_b8 : n0 ≤ b8 := Nat.le_trans Z7 (Nat.le_of_eq g8.symm)
  have sz_b8 : h0.size ≤ b8 := Nat.le_trans K7.1 (Nat.le_of_eq g8.symm)
  have K8 := K7.ext E8
  have Z8 := Nat.le_trans Z7 E8.1
  have F_oa_numbers := F_oa_numbers.ext E8
  have F_oa_keys := F_oa_keys.ext E8
  have F_oa_cellKeyLengths := F_oa_cellKeyLengths.ext E8
  have F_oa_values := F_oa_values.ext E8
  have F_oa_undecoded := F_oa_undecoded.ext E8
  have F_oa_writerOf := F_oa_writerOf.ext E8
  have F_oa_writers := F_oa_writers.ext E8
  have F_oa_answers := F_oa_answers.ext E8
  have F_oa_failures := F_oa_failures.ext E8
  have E_oa := E_oa.ext E8
  refine Go.of st8 ?_
  show Go p e below Φ T8 (mkF m 31 #[.val (.ref oa), .val (.int nn)] [(.ref b8), (.ref oa)])
  obtain ⟨T9, h9, X9, e9, W9, st9⟩ := putF X8 hx hZ hown (host := "") (Or.inl (hw _ (List.mem_of_getElem? (i := 39) rfl))) Via.refl e8 F_oa_values E_oa (Or.inr ⟨(hw _ (List.mem_of_getElem? (i := 40) rfl)), rfl, hnm⟩) (hw _ (List.mem_of_getElem? (i := 22) rfl)) (ty := (.array (.object "java/util/Optional"))) (by decide) rfl rfl (g := (mkF m 31 #[.val (.ref oa), .val (.int nn)] [(.ref b8), (.ref oa)])) rfl rfl (hb hby own_d5_31)
  have N9 := Fr.snoc X9 N7 g_oa
  have F_oa_values := F_oa_values.same W9
  have F_oa_numbers := F_oa_numbers.other W9 (Or.inr (slot_ne (Or.inr (hw _ (List.mem_of_getElem? (i := 30) rfl))) (Or.inr (hw _ (List.mem_of_getElem? (i := 40) rfl))) (by decide) (t := (.array .int)) (t' := (.array (.object "java/util/Optional"))) (by decide) (by decide)))
  have F_oa_keys := F_oa_keys.other W9 (Or.inr (slot_ne (Or.inr (hw _ (List.mem_of_getElem? (i := 34) rfl))) (Or.inr (hw _ (List.mem_of_getElem? (i := 40) rfl))) (by decide) (t := (.array (.array .byte))) (t' := (.array (.object "java/util/Optional"))) (by decide) (by decide)))
  have F_oa_cellKeyLengths := F_oa_cellKeyLengths.other W9 (Or.inr (slot_ne (Or.inr (hw _ (List.mem_of_getElem? (i := 36) rfl))) (Or.inr (hw _ (List.mem_of_getElem? (i := 40) rfl))) (by decide) (t := (.array .int)) (t' := (.array (.object "java/util/Optional"))) (by decide) (by decide)))
  have F_oa_undecoded := F_oa_undecoded.other W9 (Or.inr (slot_ne (Or.inr (hw _ (List.mem_of_getElem? (i := 44) rfl))) (Or.inr (hw _ (List.mem_of_getElem? (i := 40) rfl))) (by decide) (t := (.array (.object "com/example/compact_commits/compactcommits/StoreException"))) (t' := (.array (.object "java/util/Optional"))) (by decide) (by decide)))
  have F_oa_writerOf := F_oa_writerOf.other W9 (Or.inr (slot_ne (Or.inr (hw _ (List.mem_of_getElem? (i := 46) rfl))) (Or.inr (hw _ (List.mem_of_getElem? (i := 40) rfl))) (by decide) (t := (.array .int)) (t' := (.array (.object "java/util/Optional"))) (by decide) (by decide)))
  have F_oa_writers := F_oa_writers.other W9 (Or.inr (slot_ne (Or.inr (hw _ (List.mem_of_getElem? (i := 49) rfl))) (Or.inr (hw _ (List.mem_of_getElem? (i := 40) rfl))) (by decide) (t := (.array .long)) (t' := (.array (.object "java/util/Optional"))) (by decide) (by decide)))
  have F_oa_answers := F_oa_answers.other W9 (Or.inr (slot_ne (Or.inr (hw _ (List.mem_of_getElem? (i := 51) rfl))) (Or.inr (hw _ (List.mem_of_getElem? (i := 40) rfl))) (by decide) (t := (.array (.object "java/util/Optional"))) (t' := (.array (.object "java/util/Optional"))) (by decide) (by decide)))
  have F_oa_failures := F_oa_failures.other W9 (Or.inr (slot_ne (Or.inr (hw _ (List.mem_of_getElem? (i := 53) rfl))) (Or.inr (hw _ (List.mem_of_getElem? (i := 40) rfl))) (by decide) (t := (.array (.object "com/example/compact_commits/compactcommits/StoreException"))) (t' := (.array (.object "java/util/Optional"))) (by decide) (by decide)))
  have E_oa := E_oa.wr W9
  have K9 : Keep h0 h9 [oa] := K8.wr W9 (Or.inl (List.mem_of_getElem? (i := 0) rfl))
  have Z9 := Nat.le_trans Z8 (Keep.of_wr W9).1
  obtain ⟨lc9, X9, N9⟩ : ∃ lc, Stand p l e ({ frames := 1, cells := 9, slots := 36, locals := 12 } : Room) s m #[(.ref oa), (.int nn)] below meth c T9 lc 4 16 ∧ Fr n0 lc := ⟨_, X9, N9⟩
  refine Go.of st9 ?_
  show Go p e below Φ T9 (mkF m 34 #[.val (.ref oa), .val (.int nn)] [])
  refine Go.of (fun t k => XS.aloadN X9.here hx rfl (hb hby own_d5_34) rfl rfl  k) ?_
  show Go p e below Φ T9 (mkF m 35 #[.val (.ref oa), .val (.int nn)] [(.ref oa)])
  refine Go.of (fun t k => XS.iloadN X9.here hx rfl (hb hby own_d5_35) rfl  k) ?_
  show Go p e below Φ T9 (mkF m 36 #[.val (.ref oa), .val (.int nn)] [(.int nn), (.ref oa)])
  obtain ⟨T10, h10, k10, X10, e10, E10, A10, Ov10, st10⟩ := newR X9 hx hZ hown (hw _ (List.mem_of_getElem? (i := 41) rfl)) (hw _ (List.mem_of_getElem? (i := 42) rfl)) e9 (g := (mkF m 36 #[.val (.ref oa), .val (.int nn)] [(.int nn), (.ref oa)])) rfl (hb hby own_d5_36) rfl hnn (cap := 4) hcap (by decide) (by decide) (by decide)
  obtain ⟨b10, g10⟩ : ∃ z, z = h9.size := ⟨_, rfl⟩
  rw [← g10] at A10 st10
  have ne_oa_b10 : oa ≠ b10 := Nat.ne_of_lt (Nat.lt_of_lt_of_le F_oa_numbers.lt (Nat.le_of_eq g10.symm))
  have g_b10 : n0 ≤ b10 := Nat.le_trans Z9 (Nat.le_of_eq g10.symm)
  have sz_b10 : h0.size ≤ b10 := Nat.le_trans K9.1 (Nat.le_of_eq g10.symm)
  have K10 := K9.ext E10
  have Z10 := Nat.le_trans Z9 E10.1
  have F_oa_numbers := F_oa_numbers.ext E10
  have F_oa_keys := F_oa_keys.ext E10
  have F_oa_cellKeyLengths := F_oa_cellKeyLengths.ext E10
  have F_oa_values := F_oa_values.ext E10
  have F_oa_undecoded := F_oa_undecoded.ext E10
  have F_oa_writerOf := F_oa_writerOf.ext E10
  have F_oa_writers := F_oa_writers.ext E10
  have F_oa_answers := F_oa_answers.ext E10
  have F_oa_failures := F_oa_failures.ext E10
  have E_oa := E_oa.ext E10
  refine Go.of st10 ?_
  show Go p e below Φ T10 (mkF m 39 #[.val (.ref oa), .val (.int nn)] [(.ref b10), (.ref oa)])
  obtain ⟨T11, h11, X11, e11, W11, st11⟩ := putF X10 hx hZ hown (host := "") (Or.inl (hw _ (List.mem_of_getElem? (i := 43) rfl))) Via.refl e10 F_oa_undecoded E_oa (Or.inr ⟨(hw _ (List.mem_of_getElem? (i := 44) rfl)), rfl, hnm⟩) (hw _ (List.mem_of_getElem? (i := 22) rfl)) (ty := (.array (.object "com/example/compact_commits/compactcommits/StoreException"))) (by decide) rfl rfl (g := (mkF m 39 #[.val (.ref oa), .val (.int nn)] [(.ref b10), (.ref oa)])) rfl rfl (hb hby own_d5_39)
  have N11 := Fr.snoc X11 N9 g_oa
  have F_oa_undecoded := F_oa_undecoded.same W11
  have F_oa_numbers := F_oa_numbers.other W11 (Or.inr (slot_ne (Or.inr (hw _ (List.mem_of_getElem? (i := 30) rfl))) (Or.inr (hw _ (List.mem_of_getElem? (i := 44) rfl))) (by decide) (t := (.array .int)) (t' := (.array (.object "com/example/compact_commits/compactcommits/StoreException"))) (by decide) (by decide)))
  have F_oa_keys := F_oa_keys.other W11 (Or.inr (slot_ne (Or.inr (hw _ (List.mem_of_getElem? (i := 34) rfl))) (Or.inr (hw _ (List.mem_of_getElem? (i := 44) rfl))) (by decide) (t := (.array (.array .byte))) (t' := (.array (.object "com/example/compact_commits/compactcommits/StoreException"))) (by decide) (by decide)))
  have F_oa_cellKeyLengths := F_oa_cellKeyLengths.other W11 (Or.inr (slot_ne (Or.inr (hw _ (List.mem_of_getElem? (i := 36) rfl))) (Or.inr (hw _ (List.mem_of_getElem? (i := 44) rfl))) (by decide) (t := (.array .int)) (t' := (.array (.object "com/example/compact_commits/compactcommits/StoreException"))) (by decide) (by decide)))
  have F_oa_values := F_oa_values.other W11 (Or.inr (slot_ne (Or.inr (hw _ (List.mem_of_getElem? (i := 40) rfl))) (Or.inr (hw _ (List.mem_of_getElem? (i := 44) rfl))) (by decide) (t := (.array (.object "java/util/Optional"))) (t' := (.array (.object "com/example/compact_commits/compactcommits/StoreException"))) (by decide) (by decide)))
  have F_oa_writerOf := F_oa_writerOf.other W11 (Or.inr (slot_ne (Or.inr (hw _ (List.mem_of_getElem? (i := 46) rfl))) (Or.inr (hw _ (List.mem_of_getElem? (i := 44) rfl))) (by decide) (t := (.array .int)) (t' := (.array (.object "com/example/compact_commits/compactcommits/StoreException"))) (by decide) (by decide)))
  have F_oa_writers := F_oa_writers.other W11 (Or.inr (slot_ne (Or.inr (hw _ (List.mem_of_getElem? (i := 49) rfl))) (Or.inr (hw _ (List.mem_of_getElem? (i := 44) rfl))) (by decide) (t := (.array .long)) (t' := (.array (.object "com/example/compact_commits/compactcommits/StoreException"))) (by decide) (by decide)))
  have F_oa_answers := F_oa_answers.other W11 (Or.inr (slot_ne (Or.inr (hw _ (List.mem_of_getElem? (i := 51) rfl))) (Or.inr (hw _ (List.mem_of_getElem? (i := 44) rfl))) (by decide) (t := (.array (.object "java/util/Optional"))) (t' := (.array (.object "com/example/compact_commits/compactcommits/StoreException"))) (by decide) (by decide)))
  have F_oa_failures := F_oa_failures.other W11 (Or.inr (slot_ne (Or.inr (hw _ (List.mem_of_getElem? (i := 53) rfl))) (Or.inr (hw _ (List.mem_of_getElem? (i := 44) rfl))) (by decide) (t := (.array (.object "com/example/compact_commits/compactcommits/StoreException"))) (t' := (.array (.object "com/example/compact_commits/compactcommits/StoreException"))) (by decide) (by decide)))
  have E_oa := E_oa.wr W11
  have K11 : Keep h0 h11 [oa] := K10.wr W11 (Or.inl (List.mem_of_getElem? (i := 0) rfl))
  have Z11 := Nat.le_trans Z10 (Keep.of_wr W11).1
  obtain ⟨lc11, X11, N11⟩ : ∃ lc, Stand p l e ({ frames := 1, cells := 9, slots := 36, locals := 12 } : Room) s m #[(.ref oa), (.int nn)] below meth c T11 lc 5 20 ∧ Fr n0 lc := ⟨_, X11, N11⟩
  refine Go.of st11 ?_
  show Go p e below Φ T11 (mkF m 42 #[.val (.ref oa), .val (.int nn)] [])
  refine Go.of (fun t k => XS.aloadN X11.here hx rfl (hb hby own_d5_42) rfl rfl  k) ?_
  show Go p e below Φ T11 (mkF m 43 #[.val (.ref oa), .val (.int nn)] [(.ref oa)])
  refine Go.of (fun t k => XS.iloadN X11.here hx rfl (hb hby own_d5_43) rfl  k) ?_
  show Go p e below Φ T11 (mkF m 44 #[.val (.ref oa), .val (.int nn)] [(.int nn), (.ref oa)])
  obtain ⟨T12, h12, k12, X12, e12, E12, A12, st12⟩ := newP X11 hx hZ (hw _ (List.mem_of_getElem? (i := 28) rfl)) e11 (g := (mkF m 44 #[.val (.ref oa), .val (.int nn)] [(.int nn), (.ref oa)])) rfl (hb hby own_d5_44) rfl hnn (cap := 4) hcap (by decide) (by decide) (by decide)
  obtain ⟨b12, g12⟩ : ∃ z, z = h11.size := ⟨_, rfl⟩
  rw [← g12] at A12 st12
  have ne_oa_b12 : oa ≠ b12 := Nat.ne_of_lt (Nat.lt_of_lt_of_le F_oa_numbers.lt (Nat.le_of_eq g12.symm))
  have g_b12 : n0 ≤ b12 := Nat.le_trans Z11 (Nat.le_of_eq g12.symm)
  have sz_b12 : h0.size ≤ b12 := Nat.le_trans K11.1 (Nat.le_of_eq g12.symm)
  have K12 := K11.ext E12
  have Z12 := Nat.le_trans Z11 E12.1
  have F_oa_numbers := F_oa_numbers.ext E12
  have F_oa_keys := F_oa_keys.ext E12
  have F_oa_cellKeyLengths := F_oa_cellKeyLengths.ext E12
  have F_oa_values := F_oa_values.ext E12
  have F_oa_undecoded := F_oa_undecoded.ext E12
  have F_oa_writerOf := F_oa_writerOf.ext E12
  have F_oa_writers := F_oa_writers.ext E12
  have F_oa_answers := F_oa_answers.ext E12
  have F_oa_failures := F_oa_failures.ext E12
  have E_oa := E_oa.ext E12
  refine Go.of st12 ?_
  show Go p e below Φ T12 (mkF m 46 #[.val (.ref oa), .val (.int nn)] [(.ref b12), (.ref oa)])
  obtain ⟨T13, h13, X13, e13, W13, st13⟩ := putF X12 hx hZ hown (host := "") (Or.inl (hw _ (List.mem_of_getElem? (i := 45) rfl))) Via.refl e12 F_oa_writerOf E_oa (Or.inr ⟨(hw _ (List.mem_of_getElem? (i := 46) rfl)), rfl, hnm⟩) (hw _ (List.mem_of_getElem? (i := 22) rfl)) (ty := (.array .int)) (by decide) rfl rfl (g := (mkF m 46 #[.val (.ref oa), .val (.int nn)] [(.ref b12), (.ref oa)])) rfl rfl (hb hby own_d5_46)
  have N13 := Fr.snoc X13 N11 g_oa
  have F_oa_writerOf := F_oa_writerOf.same W13
  have F_oa_numbers := F_oa_numbers.other W13 (Or.inr (slot_ne (Or.inr (hw _ (List.mem_of_getElem? (i := 30) rfl))) (Or.inr (hw _ (List.mem_of_getElem? (i := 46) rfl))) (by decide) (t := (.array .int)) (t' := (.array .int)) (by decide) (by decide)))
  have F_oa_keys := F_oa_keys.other W13 (Or.inr (slot_ne (Or.inr (hw _ (List.mem_of_getElem? (i := 34) rfl))) (Or.inr (hw _ (List.mem_of_getElem? (i := 46) rfl))) (by decide) (t := (.array (.array .byte))) (t' := (.array .int)) (by decide) (by decide)))
  have F_oa_cellKeyLengths := F_oa_cellKeyLengths.other W13 (Or.inr (slot_ne (Or.inr (hw _ (List.mem_of_getElem? (i := 36) rfl))) (Or.inr (hw _ (List.mem_of_getElem? (i := 46) rfl))) (by decide) (t := (.array .int)) (t' := (.array .int)) (by decide) (by decide)))
  have F_oa_values := F_oa_values.other W13 (Or.inr (slot_ne (Or.inr (hw _ (List.mem_of_getElem? (i := 40) rfl))) (Or.inr (hw _ (List.mem_of_getElem? (i := 46) rfl))) (by decide) (t := (.array (.object "java/util/Optional"))) (t' := (.array .int)) (by decide) (by decide)))
  have F_oa_undecoded := F_oa_undecoded.other W13 (Or.inr (slot_ne (Or.inr (hw _ (List.mem_of_getElem? (i := 44) rfl))) (Or.inr (hw _ (List.mem_of_getElem? (i := 46) rfl))) (by decide) (t := (.array (.object "com/example/compact_commits/compactcommits/StoreException"))) (t' := (.array .int)) (by decide) (by decide)))
  have F_oa_writers := F_oa_writers.other W13 (Or.inr (slot_ne (Or.inr (hw _ (List.mem_of_getElem? (i := 49) rfl))) (Or.inr (hw _ (List.mem_of_getElem? (i := 46) rfl))) (by decide) (t := (.array .long)) (t' := (.array .int)) (by decide) (by decide)))
  have F_oa_answers := F_oa_answers.other W13 (Or.inr (slot_ne (Or.inr (hw _ (List.mem_of_getElem? (i := 51) rfl))) (Or.inr (hw _ (List.mem_of_getElem? (i := 46) rfl))) (by decide) (t := (.array (.object "java/util/Optional"))) (t' := (.array .int)) (by decide) (by decide)))
  have F_oa_failures := F_oa_failures.other W13 (Or.inr (slot_ne (Or.inr (hw _ (List.mem_of_getElem? (i := 53) rfl))) (Or.inr (hw _ (List.mem_of_getElem? (i := 46) rfl))) (by decide) (t := (.array (.object "com/example/compact_commits/compactcommits/StoreException"))) (t' := (.array .int)) (by decide) (by decide)))
  have E_oa := E_oa.wr W13
  have K13 : Keep h0 h13 [oa] := K12.wr W13 (Or.inl (List.mem_of_getElem? (i := 0) rfl))
  have Z13 := Nat.le_trans Z12 (Keep.of_wr W13).1
  obtain ⟨lc13, X13, N13⟩ : ∃ lc, Stand p l e ({ frames := 1, cells := 9, slots := 36, locals := 12 } : Room) s m #[(.ref oa), (.int nn)] below meth c T13 lc 6 24 ∧ Fr n0 lc := ⟨_, X13, N13⟩
  refine Go.of st13 ?_
  show Go p e below Φ T13 (mkF m 49 #[.val (.ref oa), .val (.int nn)] [])
  refine Go.of (fun t k => XS.aloadN X13.here hx rfl (hb hby own_d5_49) rfl rfl  k) ?_
  show Go p e below Φ T13 (mkF m 50 #[.val (.ref oa), .val (.int nn)] [(.ref oa)])
  refine Go.of (fun t k => XS.iloadN X13.here hx rfl (hb hby own_d5_50) rfl  k) ?_
  show Go p e below Φ T13 (mkF m 51 #[.val (.ref oa), .val (.int nn)] [(.int nn), (.ref oa)])
  obtain ⟨T14, h14, k14, X14, e14, E14, A14, st14⟩ := newP X13 hx hZ (hw _ (List.mem_of_getElem? (i := 47) rfl)) e13 (g := (mkF m 51 #[.val (.ref oa), .val (.int nn)] [(.int nn), (.ref oa)])) rfl (hb hby own_d5_51) rfl hnn (cap := 4) hcap (by decide) (by decide) (by decide)
  obtain ⟨b14, g14⟩ : ∃ z, z = h13.size := ⟨_, rfl⟩
  rw [← g14] at A14 st14
  have ne_oa_b14 : oa ≠ b14 := Nat.ne_of_lt (Nat.lt_of_lt_of_le F_oa_numbers.lt (Nat.le_of_eq g14.symm))
  have g_b14 : n0 ≤ b14 := Nat.le_trans Z13 (Nat.le_of_eq g14.symm)
  have sz_b14 : h0.size ≤ b14 := Nat.le_trans K13.1 (Nat.le_of_eq g14.symm)
  have K14 := K13.ext E14
  have Z14 := Nat.le_trans Z13 E14.1
  have F_oa_numbers := F_oa_numbers.ext E14
  have F_oa_keys := F_oa_keys.ext E14
  have F_oa_cellKeyLengths := F_oa_cellKeyLengths.ext E14
  have F_oa_values := F_oa_values.ext E14
  have F_oa_undecoded := F_oa_undecoded.ext E14
  have F_oa_writerOf := F_oa_writerOf.ext E14
  have F_oa_writers := F_oa_writers.ext E14
  have F_oa_answers := F_oa_answers.ext E14
  have F_oa_failures := F_oa_failures.ext E14
  have E_oa := E_oa.ext E14
  refine Go.of st14 ?_
  show Go p e below Φ T14 (mkF m 53 #[.val (.ref oa), .val (.int nn)] [(.ref b14), (.ref oa)])
  obtain ⟨T15, h15, X15, e15, W15, st15⟩ := putF X14 hx hZ hown (host := "") (Or.inl (hw _ (List.mem_of_getElem? (i := 48) rfl))) Via.refl e14 F_oa_writers E_oa (Or.inr ⟨(hw _ (List.mem_of_getElem? (i := 49) rfl)), rfl, hnm⟩) (hw _ (List.mem_of_getElem? (i := 22) rfl)) (ty := (.array .long)) (by decide) rfl rfl (g := (mkF m 53 #[.val (.ref oa), .val (.int nn)] [(.ref b14), (.ref oa)])) rfl rfl (hb hby own_d5_53)
  have N15 := Fr.snoc X15 N13 g_oa
  have F_oa_writers := F_oa_writers.same W15
  have F_oa_numbers := F_oa_numbers.other W15 (Or.inr (slot_ne (Or.inr (hw _ (List.mem_of_getElem? (i := 30) rfl))) (Or.inr (hw _ (List.mem_of_getElem? (i := 49) rfl))) (by decide) (t := (.array .int)) (t' := (.array .long)) (by decide) (by decide)))
  have F_oa_keys := F_oa_keys.other W15 (Or.inr (slot_ne (Or.inr (hw _ (List.mem_of_getElem? (i := 34) rfl))) (Or.inr (hw _ (List.mem_of_getElem? (i := 49) rfl))) (by decide) (t := (.array (.array .byte))) (t' := (.array .long)) (by decide) (by decide)))
  have F_oa_cellKeyLengths := F_oa_cellKeyLengths.other W15 (Or.inr (slot_ne (Or.inr (hw _ (List.mem_of_getElem? (i := 36) rfl))) (Or.inr (hw _ (List.mem_of_getElem? (i := 49) rfl))) (by decide) (t := (.array .int)) (t' := (.array .long)) (by decide) (by decide)))
  have F_oa_values := F_oa_values.other W15 (Or.inr (slot_ne (Or.inr (hw _ (List.mem_of_getElem? (i := 40) rfl))) (Or.inr (hw _ (List.mem_of_getElem? (i := 49) rfl))) (by decide) (t := (.array (.object "java/util/Optional"))) (t' := (.array .long)) (by decide) (by decide)))
  have F_oa_undecoded := F_oa_undecoded.other W15 (Or.inr (slot_ne (Or.inr (hw _ (List.mem_of_getElem? (i := 44) rfl))) (Or.inr (hw _ (List.mem_of_getElem? (i := 49) rfl))) (by decide) (t := (.array (.object "com/example/compact_commits/compactcommits/StoreException"))) (t' := (.array .long)) (by decide) (by decide)))
  have F_oa_writerOf := F_oa_writerOf.other W15 (Or.inr (slot_ne (Or.inr (hw _ (List.mem_of_getElem? (i := 46) rfl))) (Or.inr (hw _ (List.mem_of_getElem? (i := 49) rfl))) (by decide) (t := (.array .int)) (t' := (.array .long)) (by decide) (by decide)))
  have F_oa_answers := F_oa_answers.other W15 (Or.inr (slot_ne (Or.inr (hw _ (List.mem_of_getElem? (i := 51) rfl))) (Or.inr (hw _ (List.mem_of_getElem? (i := 49) rfl))) (by decide) (t := (.array (.object "java/util/Optional"))) (t' := (.array .long)) (by decide) (by decide)))
  have F_oa_failures := F_oa_failures.other W15 (Or.inr (slot_ne (Or.inr (hw _ (List.mem_of_getElem? (i := 53) rfl))) (Or.inr (hw _ (List.mem_of_getElem? (i := 49) rfl))) (by decide) (t := (.array (.object "com/example/compact_commits/compactcommits/StoreException"))) (t' := (.array .long)) (by decide) (by decide)))
  have E_oa := E_oa.wr W15
  have K15 : Keep h0 h15 [oa] := K14.wr W15 (Or.inl (List.mem_of_getElem? (i := 0) rfl))
  have Z15 := Nat.le_trans Z14 (Keep.of_wr W15).1
  obtain ⟨lc15, X15, N15⟩ : ∃ lc, Stand p l e ({ frames := 1, cells := 9, slots := 36, locals := 12 } : Room) s m #[(.ref oa), (.int nn)] below meth c T15 lc 7 28 ∧ Fr n0 lc := ⟨_, X15, N15⟩
  refine Go.of st15 ?_
  show Go p e below Φ T15 (mkF m 56 #[.val (.ref oa), .val (.int nn)] [])
  refine Go.of (fun t k => XS.aloadN X15.here hx rfl (hb hby own_d5_56) rfl rfl  k) ?_
  show Go p e below Φ T15 (mkF m 57 #[.val (.ref oa), .val (.int nn)] [(.ref oa)])
  refine Go.of (fun t k => XS.iloadN X15.here hx rfl (hb hby own_d5_57) rfl  k) ?_
  show Go p e below Φ T15 (mkF m 58 #[.val (.ref oa), .val (.int nn)] [(.int nn), (.ref oa)])
  obtain ⟨T16, h16, k16, X16, e16, E16, A16, Ov16, st16⟩ := newR X15 hx hZ hown (hw _ (List.mem_of_getElem? (i := 37) rfl)) (hw _ (List.mem_of_getElem? (i := 38) rfl)) e15 (g := (mkF m 58 #[.val (.ref oa), .val (.int nn)] [(.int nn), (.ref oa)])) rfl (hb hby own_d5_58) rfl hnn (cap := 4) hcap (by decide) (by decide) (by decide)
  obtain ⟨b16, g16⟩ : ∃ z, z = h15.size := ⟨_, rfl⟩
  rw [← g16] at A16 st16
  have ne_oa_b16 : oa ≠ b16 := Nat.ne_of_lt (Nat.lt_of_lt_of_le F_oa_numbers.lt (Nat.le_of_eq g16.symm))
  have g_b16 : n0 ≤ b16 := Nat.le_trans Z15 (Nat.le_of_eq g16.symm)
  have sz_b16 : h0.size ≤ b16 := Nat.le_trans K15.1 (Nat.le_of_eq g16.symm)
  have K16 := K15.ext E16
  have Z16 := Nat.le_trans Z15 E16.1
  have F_oa_numbers := F_oa_numbers.ext E16
  have F_oa_keys := F_oa_keys.ext E16
  have F_oa_cellKeyLengths := F_oa_cellKeyLengths.ext E16
  have F_oa_values := F_oa_values.ext E16
  have F_oa_undecoded := F_oa_undecoded.ext E16
  have F_oa_writerOf := F_oa_writerOf.ext E16
  have F_oa_writers := F_oa_writers.ext E16
  have F_oa_answers := F_oa_answers.ext E16
  have F_oa_failures := F_oa_failures.ext E16
  have E_oa := E_oa.ext E16
  have V_b16 : Arh Z h16 b16 k16 (.object "java/util/Optional") nn [] [] .null := (Arv.new A16 hnn).arh
  refine Go.of st16 ?_
  show Go p e below Φ T16 (mkF m 61 #[.val (.ref oa), .val (.int nn)] [(.ref b16), (.ref oa)])
  obtain ⟨T17, h17, X17, e17, W17, st17⟩ := putF X16 hx hZ hown (host := "") (Or.inl (hw _ (List.mem_of_getElem? (i := 50) rfl))) Via.refl e16 F_oa_answers E_oa (Or.inr ⟨(hw _ (List.mem_of_getElem? (i := 51) rfl)), rfl, hnm⟩) (hw _ (List.mem_of_getElem? (i := 22) rfl)) (ty := (.array (.object "java/util/Optional"))) (by decide) rfl rfl (g := (mkF m 61 #[.val (.ref oa), .val (.int nn)] [(.ref b16), (.ref oa)])) rfl rfl (hb hby own_d5_61)
  have N17 := Fr.snoc X17 N15 g_oa
  have F_oa_answers := F_oa_answers.same W17
  have F_oa_numbers := F_oa_numbers.other W17 (Or.inr (slot_ne (Or.inr (hw _ (List.mem_of_getElem? (i := 30) rfl))) (Or.inr (hw _ (List.mem_of_getElem? (i := 51) rfl))) (by decide) (t := (.array .int)) (t' := (.array (.object "java/util/Optional"))) (by decide) (by decide)))
  have F_oa_keys := F_oa_keys.other W17 (Or.inr (slot_ne (Or.inr (hw _ (List.mem_of_getElem? (i := 34) rfl))) (Or.inr (hw _ (List.mem_of_getElem? (i := 51) rfl))) (by decide) (t := (.array (.array .byte))) (t' := (.array (.object "java/util/Optional"))) (by decide) (by decide)))
  have F_oa_cellKeyLengths := F_oa_cellKeyLengths.other W17 (Or.inr (slot_ne (Or.inr (hw _ (List.mem_of_getElem? (i := 36) rfl))) (Or.inr (hw _ (List.mem_of_getElem? (i := 51) rfl))) (by decide) (t := (.array .int)) (t' := (.array (.object "java/util/Optional"))) (by decide) (by decide)))
  have F_oa_values := F_oa_values.other W17 (Or.inr (slot_ne (Or.inr (hw _ (List.mem_of_getElem? (i := 40) rfl))) (Or.inr (hw _ (List.mem_of_getElem? (i := 51) rfl))) (by decide) (t := (.array (.object "java/util/Optional"))) (t' := (.array (.object "java/util/Optional"))) (by decide) (by decide)))
  have F_oa_undecoded := F_oa_undecoded.other W17 (Or.inr (slot_ne (Or.inr (hw _ (List.mem_of_getElem? (i := 44) rfl))) (Or.inr (hw _ (List.mem_of_getElem? (i := 51) rfl))) (by decide) (t := (.array (.object "com/example/compact_commits/compactcommits/StoreException"))) (t' := (.array (.object "java/util/Optional"))) (by decide) (by decide)))
  have F_oa_writerOf := F_oa_writerOf.other W17 (Or.inr (slot_ne (Or.inr (hw _ (List.mem_of_getElem? (i := 46) rfl))) (Or.inr (hw _ (List.mem_of_getElem? (i := 51) rfl))) (by decide) (t := (.array .int)) (t' := (.array (.object "java/util/Optional"))) (by decide) (by decide)))
  have F_oa_writers := F_oa_writers.other W17 (Or.inr (slot_ne (Or.inr (hw _ (List.mem_of_getElem? (i := 49) rfl))) (Or.inr (hw _ (List.mem_of_getElem? (i := 51) rfl))) (by decide) (t := (.array .long)) (t' := (.array (.object "java/util/Optional"))) (by decide) (by decide)))
  have F_oa_failures := F_oa_failures.other W17 (Or.inr (slot_ne (Or.inr (hw _ (List.mem_of_getElem? (i := 53) rfl))) (Or.inr (hw _ (List.mem_of_getElem? (i := 51) rfl))) (by decide) (t := (.array (.object "com/example/compact_commits/compactcommits/StoreException"))) (t' := (.array (.object "java/util/Optional"))) (by decide) (by decide)))
  have E_oa := E_oa.wr W17
  have V_b16 := V_b16.other W17 (Ne.symm ne_oa_b16)
  have K17 : Keep h0 h17 [oa] := K16.wr W17 (Or.inl (List.mem_of_getElem? (i := 0) rfl))
  have Z17 := Nat.le_trans Z16 (Keep.of_wr W17).1
  obtain ⟨lc17, X17, N17⟩ : ∃ lc, Stand p l e ({ frames := 1, cells := 9, slots := 36, locals := 12 } : Room) s m #[(.ref oa), (.int nn)] below meth c T17 lc 8 32 ∧ Fr n0 lc := ⟨_, X17, N17⟩
  refine Go.of st17 ?_
  show Go p e below Φ T17 (mkF m 64 #[.val (.ref oa), .val (.int nn)] [])
  refine Go.of (fun t k => XS.aloadN X17.here hx rfl (hb hby own_d5_64) rfl rfl  k) ?_
  show Go p e below Φ T17 (mkF m 65 #[.val (.ref oa), .val (.int nn)] [(.ref oa)])
  refine Go.of (fun t k => XS.iloadN X17.here hx rfl (hb hby own_d5_65) rfl  k) ?_
  show Go p e below Φ T17 (mkF m 66 #[.val (.ref oa), .val (.int nn)] [(.int nn), (.ref oa)])
  obtain ⟨T18, h18, k18, X18, e18, E18, A18, Ov18, st18⟩ := newR X17 hx hZ hown (hw _ (List.mem_of_getElem? (i := 41) rfl)) (hw _ (List.mem_of_getElem? (i := 42) rfl)) e17 (g := (mkF m 66 #[.val (.ref oa), .val (.int nn)] [(.int nn), (.ref oa)])) rfl (hb hby own_d5_66) rfl hnn (cap := 4) hcap (by decide) (by decide) (by decide)
  obtain ⟨b18, g18⟩ : ∃ z, z = h17.size := ⟨_, rfl⟩
  rw [← g18] at A18 st18
  have ne_oa_b18 : oa ≠ b18 := Nat.ne_of_lt (Nat.lt_of_lt_of_le F_oa_numbers.lt (Nat.le_of_eq g18.symm))
  have ne_b16_b18 : b16 ≠ b18 := Nat.ne_of_lt (Nat.lt_of_lt_of_le V_b16.lt (Nat.le_of_eq g18.symm))
  have g_b18 : n0 ≤ b18 := Nat.le_trans Z17 (Nat.le_of_eq g18.symm)
  have sz_b18 : h0.size ≤ b18 := Nat.le_trans K17.1 (Nat.le_of_eq g18.symm)
  have K18 := K17.ext E18
  have Z18 := Nat.le_trans Z17 E18.1
  have F_oa_numbers := F_oa_numbers.ext E18
  have F_oa_keys := F_oa_keys.ext E18
  have F_oa_cellKeyLengths := F_oa_cellKeyLengths.ext E18
  have F_oa_values := F_oa_values.ext E18
  have F_oa_undecoded := F_oa_undecoded.ext E18
  have F_oa_writerOf := F_oa_writerOf.ext E18
  have F_oa_writers := F_oa_writers.ext E18
  have F_oa_answers := F_oa_answers.ext E18
  have F_oa_failures := F_oa_failures.ext E18
  have E_oa := E_oa.ext E18
  have V_b16 := V_b16.ext E18
  have V_b18 : Arh Z h18 b18 k18 (.object "com/example/compact_commits/compactcommits/StoreException") nn [] [] .null := (Arv.new A18 hnn).arh
  refine Go.of st18 ?_
  show Go p e below Φ T18 (mkF m 69 #[.val (.ref oa), .val (.int nn)] [(.ref b18), (.ref oa)])
  obtain ⟨T19, h19, X19, e19, W19, st19⟩ := putF X18 hx hZ hown (host := "") (Or.inl (hw _ (List.mem_of_getElem? (i := 52) rfl))) Via.refl e18 F_oa_failures E_oa (Or.inr ⟨(hw _ (List.mem_of_getElem? (i := 53) rfl)), rfl, hnm⟩) (hw _ (List.mem_of_getElem? (i := 22) rfl)) (ty := (.array (.object "com/example/compact_commits/compactcommits/StoreException"))) (by decide) rfl rfl (g := (mkF m 69 #[.val (.ref oa), .val (.int nn)] [(.ref b18), (.ref oa)])) rfl rfl (hb hby own_d5_69)
  have N19 := Fr.snoc X19 N17 g_oa
  have F_oa_failures := F_oa_failures.same W19
  have F_oa_numbers := F_oa_numbers.other W19 (Or.inr (slot_ne (Or.inr (hw _ (List.mem_of_getElem? (i := 30) rfl))) (Or.inr (hw _ (List.mem_of_getElem? (i := 53) rfl))) (by decide) (t := (.array .int)) (t' := (.array (.object "com/example/compact_commits/compactcommits/StoreException"))) (by decide) (by decide)))
  have F_oa_keys := F_oa_keys.other W19 (Or.inr (slot_ne (Or.inr (hw _ (List.mem_of_getElem? (i := 34) rfl))) (Or.inr (hw _ (List.mem_of_getElem? (i := 53) rfl))) (by decide) (t := (.array (.array .byte))) (t' := (.array (.object "com/example/compact_commits/compactcommits/StoreException"))) (by decide) (by decide)))
  have F_oa_cellKeyLengths := F_oa_cellKeyLengths.other W19 (Or.inr (slot_ne (Or.inr (hw _ (List.mem_of_getElem? (i := 36) rfl))) (Or.inr (hw _ (List.mem_of_getElem? (i := 53) rfl))) (by decide) (t := (.array .int)) (t' := (.array (.object "com/example/compact_commits/compactcommits/StoreException"))) (by decide) (by decide)))
  have F_oa_values := F_oa_values.other W19 (Or.inr (slot_ne (Or.inr (hw _ (List.mem_of_getElem? (i := 40) rfl))) (Or.inr (hw _ (List.mem_of_getElem? (i := 53) rfl))) (by decide) (t := (.array (.object "java/util/Optional"))) (t' := (.array (.object "com/example/compact_commits/compactcommits/StoreException"))) (by decide) (by decide)))
  have F_oa_undecoded := F_oa_undecoded.other W19 (Or.inr (slot_ne (Or.inr (hw _ (List.mem_of_getElem? (i := 44) rfl))) (Or.inr (hw _ (List.mem_of_getElem? (i := 53) rfl))) (by decide) (t := (.array (.object "com/example/compact_commits/compactcommits/StoreException"))) (t' := (.array (.object "com/example/compact_commits/compactcommits/StoreException"))) (by decide) (by decide)))
  have F_oa_writerOf := F_oa_writerOf.other W19 (Or.inr (slot_ne (Or.inr (hw _ (List.mem_of_getElem? (i := 46) rfl))) (Or.inr (hw _ (List.mem_of_getElem? (i := 53) rfl))) (by decide) (t := (.array .int)) (t' := (.array (.object "com/example/compact_commits/compactcommits/StoreException"))) (by decide) (by decide)))
  have F_oa_writers := F_oa_writers.other W19 (Or.inr (slot_ne (Or.inr (hw _ (List.mem_of_getElem? (i := 49) rfl))) (Or.inr (hw _ (List.mem_of_getElem? (i := 53) rfl))) (by decide) (t := (.array .long)) (t' := (.array (.object "com/example/compact_commits/compactcommits/StoreException"))) (by decide) (by decide)))
  have F_oa_answers := F_oa_answers.other W19 (Or.inr (slot_ne (Or.inr (hw _ (List.mem_of_getElem? (i := 51) rfl))) (Or.inr (hw _ (List.mem_of_getElem? (i := 53) rfl))) (by decide) (t := (.array (.object "java/util/Optional"))) (t' := (.array (.object "com/example/compact_commits/compactcommits/StoreException"))) (by decide) (by decide)))
  have E_oa := E_oa.wr W19
  have V_b16 := V_b16.other W19 (Ne.symm ne_oa_b16)
  have V_b18 := V_b18.other W19 (Ne.symm ne_oa_b18)
  have K19 : Keep h0 h19 [oa] := K18.wr W19 (Or.inl (List.mem_of_getElem? (i := 0) rfl))
  have Z19 := Nat.le_trans Z18 (Keep.of_wr W19).1
  obtain ⟨lc19, X19, N19⟩ : ∃ lc, Stand p l e ({ frames := 1, cells := 9, slots := 36, locals := 12 } : Room) s m #[(.ref oa), (.int nn)] below meth c T19 lc 9 36 ∧ Fr n0 lc := ⟨_, X19, N19⟩
  refine Go.of st19 ?_
  show Go p e below Φ T19 (mkF m 72 #[.val (.ref oa), .val (.int nn)] [])
  rw [hΦ]
  refine Go.retV X19 hx Bd.notSynchronized Bd.returns (hb hby own_d5_72) (by decide) (by decide) ?_
  rw [e19]
  exact ⟨b16, b18, _, _, rfl, N19, K19, E_oa, F_oa_answers, F_oa_failures, V_b16, Ov16, V_b18, sz_b16, sz_b18, ne_b16_b18⟩
theorem own_ef6 (m : MethodId) (oa : Addr) (ii : Int32) (vo : Addr) : entryFrame m #[(.ref oa), (.int ii), (.ref vo)] 3 = mkF m 0 #[.val (.ref oa), .val (.int ii), .val (.ref vo)] [] := by first | (simp [entryFrame, mkF, argsToLocals, Value.category]; done) | rfl
def Q6 (Z : State) (oa : Addr) (ii : Int32) (vo : Addr) (ba : Addr) (ka : ClassId) (nn : Int32) (hs : List (Int32 × Value)) (h0 : Heap) (n0 : Nat) (vr : Option Value) (hr : Heap) (Lr : List Loc) : Prop := vr = none ∧ Fr n0 Lr ∧ Keep h0 hr [ba] ∧ Arh Z hr ba ka (.object "java/util/Optional") nn ((ii, .ref vo) :: hs) [] .null
set_option maxRecDepth 65536 in
set_option maxHeartbeats 40000000 in
theorem rm6 (l : Launch) (Z : State) (a0 : Array Value) (hw : ∀ d ∈ tables_1, d.before a0 Z = true) (ws : List Jvm.Cond) (oa : Addr) (ii : Int32) (vo : Addr) (ba : Addr) (ka : ClassId) (nn : Int32) (hs : List (Int32 × Value)) (h0 : Heap) (n0 : Nat) (Z0 : n0 ≤ h0.size) (F_oa_answers : Fld Z h0 oa "com/example/compact_commits/compactcommits/transactions/VersionsFound" "answers" "[Ljava/util/Optional;" (.ref ba)) (V_ba : Arh Z h0 ba ka (.object "java/util/Optional") nn hs [] .null) (Ov : Ovr Z ka "java/util/Optional") (hin : ¬ ii < 0 ∧ ii < nn) (E_vo : Exa Z h0 vo "java/util/Optional") (g_ba : n0 ≤ ba) (ne_oa_ba : oa ≠ ba) :
    MetFree l (⟨"com/example/compact_commits/compactcommits/transactions/VersionsFound", "answer", "(ILjava/util/Optional;)V"⟩ : MethodName) (head1 (Jvm.Cond.code (⟨"com/example/compact_commits/compactcommits/transactions/VersionsFound", "answer", "(ILjava/util/Optional;)V"⟩ : MethodName) prog_90_method_13_code 3 none :: ws) ({ frames := 0, cells := 0, slots := 0, locals := 0 } : Room)) (fun aQ UQ => aQ = #[(.ref oa), (.int ii), (.ref vo)] ∧ Z.Warmed39 UQ.vm ∧ UQ.heap = h0) (fun _ _ _ _ _ => True) (fun _ UQ oQ VQ => ∃ vQ LQ, oQ = .returned vQ ∧ Q6 Z oa ii vo ba ka nn hs h0 n0 vQ VQ.heap LQ ∧ FrameEnd UQ oQ VQ LQ ({ frames := 0, cells := 0, slots := 0, locals := 0 } : Room).cells ({ frames := 0, cells := 0, slots := 0, locals := 0 } : Room).slots) := by
  refine MetFree.of_bodySF (plainFor_of_name own_pn2) hisR ?_
  intro p e s m args below meth c s₁ Bd hml0 hP hK
  obtain ⟨rfl, hZ, hh⟩ := hP
  have hx := Bd.exec
  have hby := Bd.bytes
  have hml : c.maxLocals = 3 := hml0
  have hown : s.vm.findClass "com/example/compact_commits/compactcommits/transactions/VersionsFound" = some m.cls := findClass_of_methodNamed Bd.named
  have hnm := (name_of_methodNamed Bd.named Bd.method).1
  have X0 : Stand p l e ({ frames := 0, cells := 0, slots := 0, locals := 0 } : Room) s m #[(.ref oa), (.int ii), (.ref vo)] below meth c s₁ [] 0 0 := Stand.of_body Bd
  have e0 : s₁.heap = h0 := by rw [← hh, Bd.state]; rfl
  have N0 := Fr.nil n0
  show Go p e below (EndQ s below (Q6 Z oa ii vo ba ka nn hs h0 n0) ({ frames := 0, cells := 0, slots := 0, locals := 0 } : Room).cells ({ frames := 0, cells := 0, slots := 0, locals := 0 } : Room).slots) s₁ (entryFrame m #[(.ref oa), (.int ii), (.ref vo)] 3)
  obtain ⟨Φ, hΦ⟩ : ∃ Φ, Φ = EndQ s below (Q6 Z oa ii vo ba ka nn hs h0 n0) ({ frames := 0, cells := 0, slots := 0, locals := 0 } : Room).cells ({ frames := 0, cells := 0, slots := 0, locals := 0 } : Room).slots := ⟨_, rfl⟩
  rw [← hΦ, own_ef6]
  show Go p e below Φ s₁ (mkF m 0 #[.val (.ref oa), .val (.int ii), .val (.ref vo)] [])
  refine Go.of (fun t k => XS.aloadN X0.here hx rfl (hb hby own_d6_0) rfl rfl  k) ?_
  show Go p e below Φ s₁ (mkF m 1 #[.val (.ref oa), .val (.int ii), .val (.ref vo)] [(.ref oa)])
  obtain ⟨T1, X1, e1, st1⟩ := getF X0 hx hZ hown (host := "") (Or.inl (hw _ (List.mem_of_getElem? (i := 50) rfl))) Via.refl e0 F_oa_answers (g := (mkF m 1 #[.val (.ref oa), .val (.int ii), .val (.ref vo)] [(.ref oa)])) rfl rfl (hb hby own_d6_1)
  refine Go.of st1 ?_
  show Go p e below Φ T1 (mkF m 4 #[.val (.ref oa), .val (.int ii), .val (.ref vo)] [(.ref ba)])
  refine Go.of (fun t k => XS.iloadN X1.here hx rfl (hb hby own_d6_4) rfl  k) ?_
  show Go p e below Φ T1 (mkF m 5 #[.val (.ref oa), .val (.int ii), .val (.ref vo)] [(.int ii), (.ref ba)])
  refine Go.of (fun t k => XS.aloadN X1.here hx rfl (hb hby own_d6_5) rfl rfl  k) ?_
  show Go p e below Φ T1 (mkF m 6 #[.val (.ref oa), .val (.int ii), .val (.ref vo)] [(.ref vo), (.int ii), (.ref ba)])
  obtain ⟨cl6, Ar6, q6, S6, N6, H6, G6⟩ := id V_ba
  have hin6 : ¬ (ii < 0 ∨ cl6.slots.size ≤ (ii).toNatClampNeg) := inb_of S6 hin
  obtain ⟨T2, h2, X2, e2, W2, st2⟩ := stR X1 hx hZ e1 Ar6 (j := ii) hin6 rfl (Sto.ofV Ar6 q6 Ov (Ins.self E_vo)) (g := (mkF m 6 #[.val (.ref oa), .val (.int ii), .val (.ref vo)] [(.ref vo), (.int ii), (.ref ba)])) rfl rfl (hb hby own_d6_6)
  have V_ba : Arh Z h2 ba ka (.object "java/util/Optional") nn ((ii, (.ref vo)) :: hs) [] .null := Arh.push Ar6 q6 S6 N6 H6 G6 rfl W2 hin6
  have F_oa_answers := F_oa_answers.other W2 (Or.inl ne_oa_ba)
  have E_vo := E_vo.wr W2
  have N2 := Fr.snoc X2 N0 g_ba
  have K2 : Keep h0 h2 [ba] := (Keep.refl h0 [ba]).wr W2 (Or.inl (List.mem_of_getElem? (i := 0) rfl))
  have Z2 := Nat.le_trans Z0 (Keep.of_wr W2).1
  obtain ⟨lc2, X2, N2⟩ : ∃ lc, Stand p l e ({ frames := 0, cells := 0, slots := 0, locals := 0 } : Room) s m #[(.ref oa), (.int ii), (.ref vo)] below meth c T2 lc 0 0 ∧ Fr n0 lc := ⟨_, X2, N2⟩
  refine Go.of st2 ?_
  show Go p e below Φ T2 (mkF m 7 #[.val (.ref oa), .val (.int ii), .val (.ref vo)] [])
  rw [hΦ]
  refine Go.retV X2 hx Bd.notSynchronized Bd.returns (hb hby own_d6_7) (by decide) (by decide) ?_
  rw [e2]
  exact ⟨rfl, N2, K2, V_ba⟩
theorem own_ef7 (m : MethodId) (oa : Addr) (ii : Int32) : entryFrame m #[(.ref oa), (.int ii)] 2 = mkF m 0 #[.val (.ref oa), .val (.int ii)] [] := by first | (simp [entryFrame, mkF, argsToLocals, Value.category]; done) | rfl
def Q7 (Z : State) (oa : Addr) (ii : Int32) (ba : Addr) (bf : Addr) (ka : ClassId) (kf : ClassId) (nn : Int32) (hs : List (Int32 × Value)) (h0 : Heap) (n0 : Nat) (vr : Option Value) (hr : Heap) (Lr : List Loc) : Prop := vr = some (getH hs [] .null (ii).toNatClampNeg) ∧ Fr n0 Lr ∧ hr = h0 ∧ (getH hs [] .null (ii).toNatClampNeg).isRef = true
set_option maxRecDepth 65536 in
set_option maxHeartbeats 40000000 in
theorem rm7 (l : Launch) (Z : State) (a0 : Array Value) (hw : ∀ d ∈ tables_1, d.before a0 Z = true) (ws : List Jvm.Cond) (oa : Addr) (ii : Int32) (ba : Addr) (bf : Addr) (ka : ClassId) (kf : ClassId) (nn : Int32) (hs : List (Int32 × Value)) (h0 : Heap) (n0 : Nat) (Z0 : n0 ≤ h0.size) (F_oa_answers : Fld Z h0 oa "com/example/compact_commits/compactcommits/transactions/VersionsFound" "answers" "[Ljava/util/Optional;" (.ref ba)) (F_oa_failures : Fld Z h0 oa "com/example/compact_commits/compactcommits/transactions/VersionsFound" "failures" "[Lcom/example/compact_commits/compactcommits/StoreException;" (.ref bf)) (V_ba : Arh Z h0 ba ka (.object "java/util/Optional") nn hs [] .null) (V_bf : Arh Z h0 bf kf (.object "com/example/compact_commits/compactcommits/StoreException") nn [] [] .null) (hin : ¬ ii < 0 ∧ ii < nn) :
    MetFree l (⟨"com/example/compact_commits/compactcommits/transactions/VersionsFound", "answer", "(I)Ljava/util/Optional;"⟩ : MethodName) (head1 (Jvm.Cond.code (⟨"com/example/compact_commits/compactcommits/transactions/VersionsFound", "answer", "(I)Ljava/util/Optional;"⟩ : MethodName) prog_90_method_16_code 2 (some (.object "java/util/Optional")) :: ws) ({ frames := 0, cells := 0, slots := 0, locals := 0 } : Room)) (fun aQ UQ => aQ = #[(.ref oa), (.int ii)] ∧ Z.Warmed39 UQ.vm ∧ UQ.heap = h0) (fun _ _ _ _ _ => True) (fun _ UQ oQ VQ => ∃ vQ LQ, oQ = .returned vQ ∧ Q7 Z oa ii ba bf ka kf nn hs h0 n0 vQ VQ.heap LQ ∧ FrameEnd UQ oQ VQ LQ ({ frames := 0, cells := 0, slots := 0, locals := 0 } : Room).cells ({ frames := 0, cells := 0, slots := 0, locals := 0 } : Room).slots) := by
  refine MetFree.of_bodySF (plainFor_of_name own_pn2) hisR ?_
  intro p e s m args below meth c s₁ Bd hml0 hP hK
  obtain ⟨rfl, hZ, hh⟩ := hP
  have hx := Bd.exec
  have hby := Bd.bytes
  have hml : c.maxLocals = 2 := hml0
  have hown : s.vm.findClass "com/example/compact_commits/compactcommits/transactions/VersionsFound" = some m.cls := findClass_of_methodNamed Bd.named
  have hnm := (name_of_methodNamed Bd.named Bd.method).1
  have X0 : Stand p l e ({ frames := 0, cells := 0, slots := 0, locals := 0 } : Room) s m #[(.ref oa), (.int ii)] below meth c s₁ [] 0 0 := Stand.of_body Bd
  have e0 : s₁.heap = h0 := by rw [← hh, Bd.state]; rfl
  have N0 := Fr.nil n0
  show Go p e below (EndQ s below (Q7 Z oa ii ba bf ka kf nn hs h0 n0) ({ frames := 0, cells := 0, slots := 0, locals := 0 } : Room).cells ({ frames := 0, cells := 0, slots := 0, locals := 0 } : Room).slots) s₁ (entryFrame m #[(.ref oa), (.int ii)] 2)
  obtain ⟨Φ, hΦ⟩ : ∃ Φ, Φ = EndQ s below (Q7 Z oa ii ba bf ka kf nn hs h0 n0) ({ frames := 0, cells := 0, slots := 0, locals := 0 } : Room).cells ({ frames := 0, cells := 0, slots := 0, locals := 0 } : Room).slots := ⟨_, rfl⟩
  rw [← hΦ, own_ef7]
  show Go p e below Φ s₁ (mkF m 0 #[.val (.ref oa), .val (.int ii)] [])
  refine Go.of (fun t k => XS.aloadN X0.here hx rfl (hb hby own_d7_0) rfl rfl  k) ?_
  show Go p e below Φ s₁ (mkF m 1 #[.val (.ref oa), .val (.int ii)] [(.ref oa)])
  obtain ⟨T1, X1, e1, st1⟩ := getF X0 hx hZ hown (host := "") (Or.inl (hw _ (List.mem_of_getElem? (i := 52) rfl))) Via.refl e0 F_oa_failures (g := (mkF m 1 #[.val (.ref oa), .val (.int ii)] [(.ref oa)])) rfl rfl (hb hby own_d7_1)
  refine Go.of st1 ?_
  show Go p e below Φ T1 (mkF m 4 #[.val (.ref oa), .val (.int ii)] [(.ref bf)])
  refine Go.of (fun t k => XS.iloadN X1.here hx rfl (hb hby own_d7_4) rfl  k) ?_
  show Go p e below Φ T1 (mkF m 5 #[.val (.ref oa), .val (.int ii)] [(.int ii), (.ref bf)])
  obtain ⟨cl5, Ar5, q5, S5, N5, H5, G5⟩ := id V_bf
  have hin5 : ¬ (ii < 0 ∨ cl5.slots.size ≤ (ii).toNatClampNeg) := inb_of S5 hin
  have hat5 : cl5.slots[(ii).toNatClampNeg]? = some .null := atH H5 hin5 rfl
  refine Go.of (fun t k => X1.aaload hx (j := ii) (v := .null) (by rw [e1]; exact Ar5.1) (State.isArrayOf_alike hZ.alike Ar5.2.1) rfl Ar5.2.2 hin5 hat5 (g := (mkF m 5 #[.val (.ref oa), .val (.int ii)] [(.int ii), (.ref bf)])) rfl rfl (hb hby own_d7_5) t k) ?_
  show Go p e below Φ T1 (mkF m 6 #[.val (.ref oa), .val (.int ii)] [.null])
  refine Go.of (fun t k => XS.ifnullYes X1.here hx rfl (pc0 := 6) (pc' := 16) rfl (hb hby own_d7_6) rfl (by decide) (by decide) k) ?_
  show Go p e below Φ T1 (mkF m 16 #[.val (.ref oa), .val (.int ii)] [])
  refine Go.of (fun t k => XS.aloadN X1.here hx rfl (hb hby own_d7_16) rfl rfl  k) ?_
  show Go p e below Φ T1 (mkF m 17 #[.val (.ref oa), .val (.int ii)] [(.ref oa)])
  obtain ⟨T2, X2, e2, st2⟩ := getF X1 hx hZ hown (host := "") (Or.inl (hw _ (List.mem_of_getElem? (i := 50) rfl))) Via.refl e1 F_oa_answers (g := (mkF m 17 #[.val (.ref oa), .val (.int ii)] [(.ref oa)])) rfl rfl (hb hby own_d7_17)
  refine Go.of st2 ?_
  show Go p e below Φ T2 (mkF m 20 #[.val (.ref oa), .val (.int ii)] [(.ref ba)])
  refine Go.of (fun t k => XS.iloadN X2.here hx rfl (hb hby own_d7_20) rfl  k) ?_
  show Go p e below Φ T2 (mkF m 21 #[.val (.ref oa), .val (.int ii)] [(.int ii), (.ref ba)])
  obtain ⟨cl21, Ar21, q21, S21, N21, H21, G21⟩ := id V_ba
  have hin21 : ¬ (ii < 0 ∨ cl21.slots.size ≤ (ii).toNatClampNeg) := inb_of S21 hin
  have hat21 : cl21.slots[(ii).toNatClampNeg]? = some (getH hs [] .null (ii).toNatClampNeg) := atH H21 hin21 rfl
  refine Go.of (fun t k => X2.aaload hx (j := ii) (v := (getH hs [] .null (ii).toNatClampNeg)) (by rw [e2]; exact Ar21.1) (State.isArrayOf_alike hZ.alike Ar21.2.1) rfl Ar21.2.2 hin21 hat21 (g := (mkF m 21 #[.val (.ref oa), .val (.int ii)] [(.int ii), (.ref ba)])) rfl rfl (hb hby own_d7_21) t k) ?_
  show Go p e below Φ T2 (mkF m 22 #[.val (.ref oa), .val (.int ii)] [(getH hs [] .null (ii).toNatClampNeg)])
  rw [hΦ]
  refine Go.ret X2 hx Bd.notSynchronized Bd.returns (own_nar_ref (fit_R (fitH G21 hin21 rfl) rfl)) (Or.inr (Or.inr (Or.inr (Or.inr ⟨rfl, rfl, (fit_R (fitH G21 hin21 rfl) rfl)⟩)))) (hb hby own_d7_22) (by decide) (by decide) ?_
  rw [e2]
  exact ⟨rfl, N0, rfl, (fit_R (fitH G21 hin21 rfl) rfl)⟩
def own_exp (sf : Int32) (ss : Int32) (sm : Int32) (ff : Int32) (vx : Addr) (vy : Addr) : Value := (if ff = (0 : Int32) then (if ss = (0 : Int32) then (if sf = (0 : Int32) then .null else (if sm = (0 : Int32) then .null else (.ref vx))) else (.ref vy)) else (if ss = (0 : Int32) then (if sf = (0 : Int32) then .null else (.ref vx)) else (if sm = (0 : Int32) then (if sf = (0 : Int32) then .null else (.ref vx)) else (.ref vy))))
theorem own_ef8 (m : MethodId) (sf : Int32) (ss : Int32) (sm : Int32) (ff : Int32) (vx : Addr) (vy : Addr) : entryFrame m #[(.int sf), (.int ss), (.int sm), (.int ff), (.ref vx), (.ref vy)] 6 = mkF m 0 #[.val (.int sf), .val (.int ss), .val (.int sm), .val (.int ff), .val (.ref vx), .val (.ref vy)] [] := by first | (simp [entryFrame, mkF, argsToLocals, Value.category]; done) | rfl
def Q8 (Z : State) (sf : Int32) (ss : Int32) (sm : Int32) (ff : Int32) (vx : Addr) (vy : Addr) (h0 : Heap) (n0 : Nat) (vr : Option Value) (hr : Heap) (Lr : List Loc) : Prop := vr = some (own_exp sf ss sm ff vx vy) ∧ Fr n0 Lr ∧ hr = h0
set_option maxRecDepth 65536 in
set_option maxHeartbeats 40000000 in
theorem rm8 (l : Launch) (Z : State) (a0 : Array Value) (hw : ∀ d ∈ tables_1, d.before a0 Z = true) (ws : List Jvm.Cond) (sf : Int32) (ss : Int32) (sm : Int32) (ff : Int32) (vx : Addr) (vy : Addr) (h0 : Heap) (n0 : Nat) (Z0 : n0 ≤ h0.size) :
    MetFree l (⟨"com/example/compact_commits/compactcommits/transactions/VersionsFoundAnswerPinLaw", "expected", "(ZZZZLjava/util/Optional;Ljava/util/Optional;)Ljava/util/Optional;"⟩ : MethodName) (head1 (Jvm.Cond.code (⟨"com/example/compact_commits/compactcommits/transactions/VersionsFoundAnswerPinLaw", "expected", "(ZZZZLjava/util/Optional;Ljava/util/Optional;)Ljava/util/Optional;"⟩ : MethodName) method_2_code 6 (some (.object "java/util/Optional")) :: ws) ({ frames := 0, cells := 0, slots := 0, locals := 0 } : Room)) (fun aQ UQ => aQ = #[(.int sf), (.int ss), (.int sm), (.int ff), (.ref vx), (.ref vy)] ∧ Z.Warmed39 UQ.vm ∧ UQ.heap = h0) (fun _ _ _ _ _ => True) (fun _ UQ oQ VQ => ∃ vQ LQ, oQ = .returned vQ ∧ Q8 Z sf ss sm ff vx vy h0 n0 vQ VQ.heap LQ ∧ FrameEnd UQ oQ VQ LQ ({ frames := 0, cells := 0, slots := 0, locals := 0 } : Room).cells ({ frames := 0, cells := 0, slots := 0, locals := 0 } : Room).slots) := by
  refine MetFree.of_bodySF (plainFor_of_name own_pn3) hisR ?_
  intro p e s m args below meth c s₁ Bd hml0 hP hK
  obtain ⟨rfl, hZ, hh⟩ := hP
  have hx := Bd.exec
  have hby := Bd.bytes
  have hml : c.maxLocals = 6 := hml0
  have hown : s.vm.findClass "com/example/compact_commits/compactcommits/transactions/VersionsFoundAnswerPinLaw" = some m.cls := findClass_of_methodNamed Bd.named
  have hnm := (name_of_methodNamed Bd.named Bd.method).1
  have X0 : Stand p l e ({ frames := 0, cells := 0, slots := 0, locals := 0 } : Room) s m #[(.int sf), (.int ss), (.int sm), (.int ff), (.ref vx), (.ref vy)] below meth c s₁ [] 0 0 := Stand.of_body Bd
  have e0 : s₁.heap = h0 := by rw [← hh, Bd.state]; rfl
  have N0 := Fr.nil n0
  show Go p e below (EndQ s below (Q8 Z sf ss sm ff vx vy h0 n0) ({ frames := 0, cells := 0, slots := 0, locals := 0 } : Room).cells ({ frames := 0, cells := 0, slots := 0, locals := 0 } : Room).slots) s₁ (entryFrame m #[(.int sf), (.int ss), (.int sm), (.int ff), (.ref vx), (.ref vy)] 6)
  obtain ⟨Φ, hΦ⟩ : ∃ Φ, Φ = EndQ s below (Q8 Z sf ss sm ff vx vy h0 n0) ({ frames := 0, cells := 0, slots := 0, locals := 0 } : Room).cells ({ frames := 0, cells := 0, slots := 0, locals := 0 } : Room).slots := ⟨_, rfl⟩
  rw [← hΦ, own_ef8]
  show Go p e below Φ s₁ (mkF m 0 #[.val (.int sf), .val (.int ss), .val (.int sm), .val (.int ff), .val (.ref vx), .val (.ref vy)] [])
  refine Go.of (fun t k => XS.iloadN X0.here hx rfl (hb hby own_d8_0) rfl  k) ?_
  show Go p e below Φ s₁ (mkF m 1 #[.val (.int sf), .val (.int ss), .val (.int sm), .val (.int ff), .val (.ref vx), .val (.ref vy)] [(.int ff)])
  by_cases hc1 : ff = (0 : Int32)
  · refine Go.of (fun t k => XS.ifYes X0.here hx rfl (pc0 := 1) (pc' := 24) rfl (hb hby own_d8_1) rfl (XT.i0_eq_t hc1) (by decide) (by decide) k) ?_
    show Go p e below Φ s₁ (mkF m 24 #[.val (.int sf), .val (.int ss), .val (.int sm), .val (.int ff), .val (.ref vx), .val (.ref vy)] [])
    refine Go.of (fun t k => XS.iloadN X0.here hx rfl (hb hby own_d8_24) rfl  k) ?_
    show Go p e below Φ s₁ (mkF m 25 #[.val (.int sf), .val (.int ss), .val (.int sm), .val (.int ff), .val (.ref vx), .val (.ref vy)] [(.int ss)])
    by_cases hc25 : ss = (0 : Int32)
    · refine Go.of (fun t k => XS.ifYes X0.here hx rfl (pc0 := 25) (pc' := 31) rfl (hb hby own_d8_25) rfl (XT.i0_eq_t hc25) (by decide) (by decide) k) ?_
      show Go p e below Φ s₁ (mkF m 31 #[.val (.int sf), .val (.int ss), .val (.int sm), .val (.int ff), .val (.ref vx), .val (.ref vy)] [])
      refine Go.of (fun t k => XS.iloadN X0.here hx rfl (hb hby own_d8_31) rfl  k) ?_
      show Go p e below Φ s₁ (mkF m 32 #[.val (.int sf), .val (.int ss), .val (.int sm), .val (.int ff), .val (.ref vx), .val (.ref vy)] [(.int sf)])
      by_cases hc32 : sf = (0 : Int32)
      · refine Go.of (fun t k => XS.ifYes X0.here hx rfl (pc0 := 32) (pc' := 42) rfl (hb hby own_d8_32) rfl (XT.i0_eq_t hc32) (by decide) (by decide) k) ?_
        show Go p e below Φ s₁ (mkF m 42 #[.val (.int sf), .val (.int ss), .val (.int sm), .val (.int ff), .val (.ref vx), .val (.ref vy)] [])
        refine Go.of (fun t k => XS.aconstNull X0.here hx rfl (hb hby own_d8_42) k) ?_
        show Go p e below Φ s₁ (mkF m 43 #[.val (.int sf), .val (.int ss), .val (.int sm), .val (.int ff), .val (.ref vx), .val (.ref vy)] [.null])
        rw [hΦ]
        refine Go.ret X0 hx Bd.notSynchronized Bd.returns rfl (Or.inr (Or.inr (Or.inr (Or.inr ⟨rfl, rfl, rfl⟩)))) (hb hby own_d8_43) (by decide) (by decide) ?_
        rw [e0]
        exact ⟨by rw [own_exp, if_pos hc1, if_pos hc25, if_pos hc32], N0, rfl⟩
      · refine Go.of (fun t k => XS.ifNo X0.here hx rfl (hb hby own_d8_32) rfl (XT.i0_eq_f hc32) k) ?_
        show Go p e below Φ s₁ (mkF m 35 #[.val (.int sf), .val (.int ss), .val (.int sm), .val (.int ff), .val (.ref vx), .val (.ref vy)] [])
        refine Go.of (fun t k => XS.iloadN X0.here hx rfl (hb hby own_d8_35) rfl  k) ?_
        show Go p e below Φ s₁ (mkF m 36 #[.val (.int sf), .val (.int ss), .val (.int sm), .val (.int ff), .val (.ref vx), .val (.ref vy)] [(.int sm)])
        by_cases hc36 : sm = (0 : Int32)
        · refine Go.of (fun t k => XS.ifYes X0.here hx rfl (pc0 := 36) (pc' := 42) rfl (hb hby own_d8_36) rfl (XT.i0_eq_t hc36) (by decide) (by decide) k) ?_
          show Go p e below Φ s₁ (mkF m 42 #[.val (.int sf), .val (.int ss), .val (.int sm), .val (.int ff), .val (.ref vx), .val (.ref vy)] [])
          refine Go.of (fun t k => XS.aconstNull X0.here hx rfl (hb hby own_d8_42) k) ?_
          show Go p e below Φ s₁ (mkF m 43 #[.val (.int sf), .val (.int ss), .val (.int sm), .val (.int ff), .val (.ref vx), .val (.ref vy)] [.null])
          rw [hΦ]
          refine Go.ret X0 hx Bd.notSynchronized Bd.returns rfl (Or.inr (Or.inr (Or.inr (Or.inr ⟨rfl, rfl, rfl⟩)))) (hb hby own_d8_43) (by decide) (by decide) ?_
          rw [e0]
          exact ⟨by rw [own_exp, if_pos hc1, if_pos hc25, if_neg hc32, if_pos hc36], N0, rfl⟩
        · refine Go.of (fun t k => XS.ifNo X0.here hx rfl (hb hby own_d8_36) rfl (XT.i0_eq_f hc36) k) ?_
          show Go p e below Φ s₁ (mkF m 39 #[.val (.int sf), .val (.int ss), .val (.int sm), .val (.int ff), .val (.ref vx), .val (.ref vy)] [])
          refine Go.of (fun t k => XS.aload X0.here hx rfl (hb hby own_d8_39) rfl rfl  k) ?_
          show Go p e below Φ s₁ (mkF m 41 #[.val (.int sf), .val (.int ss), .val (.int sm), .val (.int ff), .val (.ref vx), .val (.ref vy)] [(.ref vx)])
          rw [hΦ]
          refine Go.ret X0 hx Bd.notSynchronized Bd.returns rfl (Or.inr (Or.inr (Or.inr (Or.inr ⟨rfl, rfl, rfl⟩)))) (hb hby own_d8_41) (by decide) (by decide) ?_
          rw [e0]
          exact ⟨by rw [own_exp, if_pos hc1, if_pos hc25, if_neg hc32, if_neg hc36], N0, rfl⟩
    · refine Go.of (fun t k => XS.ifNo X0.here hx rfl (hb hby own_d8_25) rfl (XT.i0_eq_f hc25) k) ?_
      show Go p e below Φ s₁ (mkF m 28 #[.val (.int sf), .val (.int ss), .val (.int sm), .val (.int ff), .val (.ref vx), .val (.ref vy)] [])
      refine Go.of (fun t k => XS.aload X0.here hx rfl (hb hby own_d8_28) rfl rfl  k) ?_
      show Go p e below Φ s₁ (mkF m 30 #[.val (.int sf), .val (.int ss), .val (.int sm), .val (.int ff), .val (.ref vx), .val (.ref vy)] [(.ref vy)])
      rw [hΦ]
      refine Go.ret X0 hx Bd.notSynchronized Bd.returns rfl (Or.inr (Or.inr (Or.inr (Or.inr ⟨rfl, rfl, rfl⟩)))) (hb hby own_d8_30) (by decide) (by decide) ?_
      rw [e0]
      exact ⟨by rw [own_exp, if_pos hc1, if_neg hc25], N0, rfl⟩
  · refine Go.of (fun t k => XS.ifNo X0.here hx rfl (hb hby own_d8_1) rfl (XT.i0_eq_f hc1) k) ?_
    show Go p e below Φ s₁ (mkF m 4 #[.val (.int sf), .val (.int ss), .val (.int sm), .val (.int ff), .val (.ref vx), .val (.ref vy)] [])
    refine Go.of (fun t k => XS.iloadN X0.here hx rfl (hb hby own_d8_4) rfl  k) ?_
    show Go p e below Φ s₁ (mkF m 5 #[.val (.int sf), .val (.int ss), .val (.int sm), .val (.int ff), .val (.ref vx), .val (.ref vy)] [(.int ss)])
    by_cases hc5 : ss = (0 : Int32)
    · refine Go.of (fun t k => XS.ifYes X0.here hx rfl (pc0 := 5) (pc' := 15) rfl (hb hby own_d8_5) rfl (XT.i0_eq_t hc5) (by decide) (by decide) k) ?_
      show Go p e below Φ s₁ (mkF m 15 #[.val (.int sf), .val (.int ss), .val (.int sm), .val (.int ff), .val (.ref vx), .val (.ref vy)] [])
      refine Go.of (fun t k => XS.iloadN X0.here hx rfl (hb hby own_d8_15) rfl  k) ?_
      show Go p e below Φ s₁ (mkF m 16 #[.val (.int sf), .val (.int ss), .val (.int sm), .val (.int ff), .val (.ref vx), .val (.ref vy)] [(.int sf)])
      by_cases hc16 : sf = (0 : Int32)
      · refine Go.of (fun t k => XS.ifYes X0.here hx rfl (pc0 := 16) (pc' := 22) rfl (hb hby own_d8_16) rfl (XT.i0_eq_t hc16) (by decide) (by decide) k) ?_
        show Go p e below Φ s₁ (mkF m 22 #[.val (.int sf), .val (.int ss), .val (.int sm), .val (.int ff), .val (.ref vx), .val (.ref vy)] [])
        refine Go.of (fun t k => XS.aconstNull X0.here hx rfl (hb hby own_d8_22) k) ?_
        show Go p e below Φ s₁ (mkF m 23 #[.val (.int sf), .val (.int ss), .val (.int sm), .val (.int ff), .val (.ref vx), .val (.ref vy)] [.null])
        rw [hΦ]
        refine Go.ret X0 hx Bd.notSynchronized Bd.returns rfl (Or.inr (Or.inr (Or.inr (Or.inr ⟨rfl, rfl, rfl⟩)))) (hb hby own_d8_23) (by decide) (by decide) ?_
        rw [e0]
        exact ⟨by rw [own_exp, if_neg hc1, if_pos hc5, if_pos hc16], N0, rfl⟩
      · refine Go.of (fun t k => XS.ifNo X0.here hx rfl (hb hby own_d8_16) rfl (XT.i0_eq_f hc16) k) ?_
        show Go p e below Φ s₁ (mkF m 19 #[.val (.int sf), .val (.int ss), .val (.int sm), .val (.int ff), .val (.ref vx), .val (.ref vy)] [])
        refine Go.of (fun t k => XS.aload X0.here hx rfl (hb hby own_d8_19) rfl rfl  k) ?_
        show Go p e below Φ s₁ (mkF m 21 #[.val (.int sf), .val (.int ss), .val (.int sm), .val (.int ff), .val (.ref vx), .val (.ref vy)] [(.ref vx)])
        rw [hΦ]
        refine Go.ret X0 hx Bd.notSynchronized Bd.returns rfl (Or.inr (Or.inr (Or.inr (Or.inr ⟨rfl, rfl, rfl⟩)))) (hb hby own_d8_21) (by decide) (by decide) ?_
        rw [e0]
        exact ⟨by rw [own_exp, if_neg hc1, if_pos hc5, if_neg hc16], N0, rfl⟩
    · refine Go.of (fun t k => XS.ifNo X0.here hx rfl (hb hby own_d8_5) rfl (XT.i0_eq_f hc5) k) ?_
      show Go p e below Φ s₁ (mkF m 8 #[.val (.int sf), .val (.int ss), .val (.int sm), .val (.int ff), .val (.ref vx), .val (.ref vy)] [])
      refine Go.of (fun t k => XS.iloadN X0.here hx rfl (hb hby own_d8_8) rfl  k) ?_
      show Go p e below Φ s₁ (mkF m 9 #[.val (.int sf), .val (.int ss), .val (.int sm), .val (.int ff), .val (.ref vx), .val (.ref vy)] [(.int sm)])
      by_cases hc9 : sm = (0 : Int32)
      · refine Go.of (fun t k => XS.ifYes X0.here hx rfl (pc0 := 9) (pc' := 15) rfl (hb hby own_d8_9) rfl (XT.i0_eq_t hc9) (by decide) (by decide) k) ?_
        show Go p e below Φ s₁ (mkF m 15 #[.val (.int sf), .val (.int ss), .val (.int sm), .val (.int ff), .val (.ref vx), .val (.ref vy)] [])
        refine Go.of (fun t k => XS.iloadN X0.here hx rfl (hb hby own_d8_15) rfl  k) ?_
        show Go p e below Φ s₁ (mkF m 16 #[.val (.int sf), .val (.int ss), .val (.int sm), .val (.int ff), .val (.ref vx), .val (.ref vy)] [(.int sf)])
        by_cases hc16 : sf = (0 : Int32)
        · refine Go.of (fun t k => XS.ifYes X0.here hx rfl (pc0 := 16) (pc' := 22) rfl (hb hby own_d8_16) rfl (XT.i0_eq_t hc16) (by decide) (by decide) k) ?_
          show Go p e below Φ s₁ (mkF m 22 #[.val (.int sf), .val (.int ss), .val (.int sm), .val (.int ff), .val (.ref vx), .val (.ref vy)] [])
          refine Go.of (fun t k => XS.aconstNull X0.here hx rfl (hb hby own_d8_22) k) ?_
          show Go p e below Φ s₁ (mkF m 23 #[.val (.int sf), .val (.int ss), .val (.int sm), .val (.int ff), .val (.ref vx), .val (.ref vy)] [.null])
          rw [hΦ]
          refine Go.ret X0 hx Bd.notSynchronized Bd.returns rfl (Or.inr (Or.inr (Or.inr (Or.inr ⟨rfl, rfl, rfl⟩)))) (hb hby own_d8_23) (by decide) (by decide) ?_
          rw [e0]
          exact ⟨by rw [own_exp, if_neg hc1, if_neg hc5, if_pos hc9, if_pos hc16], N0, rfl⟩
        · refine Go.of (fun t k => XS.ifNo X0.here hx rfl (hb hby own_d8_16) rfl (XT.i0_eq_f hc16) k) ?_
          show Go p e below Φ s₁ (mkF m 19 #[.val (.int sf), .val (.int ss), .val (.int sm), .val (.int ff), .val (.ref vx), .val (.ref vy)] [])
          refine Go.of (fun t k => XS.aload X0.here hx rfl (hb hby own_d8_19) rfl rfl  k) ?_
          show Go p e below Φ s₁ (mkF m 21 #[.val (.int sf), .val (.int ss), .val (.int sm), .val (.int ff), .val (.ref vx), .val (.ref vy)] [(.ref vx)])
          rw [hΦ]
          refine Go.ret X0 hx Bd.notSynchronized Bd.returns rfl (Or.inr (Or.inr (Or.inr (Or.inr ⟨rfl, rfl, rfl⟩)))) (hb hby own_d8_21) (by decide) (by decide) ?_
          rw [e0]
          exact ⟨by rw [own_exp, if_neg hc1, if_neg hc5, if_pos hc9, if_neg hc16], N0, rfl⟩
      · refine Go.of (fun t k => XS.ifNo X0.here hx rfl (hb hby own_d8_9) rfl (XT.i0_eq_f hc9) k) ?_
        show Go p e below Φ s₁ (mkF m 12 #[.val (.int sf), .val (.int ss), .val (.int sm), .val (.int ff), .val (.ref vx), .val (.ref vy)] [])
        refine Go.of (fun t k => XS.aload X0.here hx rfl (hb hby own_d8_12) rfl rfl  k) ?_
        show Go p e below Φ s₁ (mkF m 14 #[.val (.int sf), .val (.int ss), .val (.int sm), .val (.int ff), .val (.ref vx), .val (.ref vy)] [(.ref vy)])
        rw [hΦ]
        refine Go.ret X0 hx Bd.notSynchronized Bd.returns rfl (Or.inr (Or.inr (Or.inr (Or.inr ⟨rfl, rfl, rfl⟩)))) (hb hby own_d8_14) (by decide) (by decide) ?_
        rw [e0]
        exact ⟨by rw [own_exp, if_neg hc1, if_neg hc5, if_neg hc9], N0, rfl⟩
theorem own_tn (y : Int32) : y.toNatClampNeg = y.toInt.toNat := rfl
theorem own_capI (i0 x5 : Int32) (hx5 : x5 = ((i0 &&& (3 : Int32)) + (1 : Int32))) : 1 ≤ x5.toInt ∧ x5.toInt ≤ 4 := by
  have m := c_mask i0 3 2 (by decide) (by decide)
  have a := c_iadd (i0 &&& 3) 1
  have r := rng32 x5
  have k1 : (1 : Int32).toInt = 1 := by decide
  rw [← hx5, m, k1] at a
  omega
theorem own_cap (i0 x5 : Int32) (hx5 : x5 = ((i0 &&& (3 : Int32)) + (1 : Int32))) : ¬ x5 < 0 ∧ x5.toNatClampNeg ≤ 4 ∧ x5 ≠ 0 := by
  have h := own_capI i0 x5 hx5
  have k0 : (0 : Int32).toInt = 0 := by decide
  refine ⟨by rw [Int32.lt_iff_toInt_lt]; omega, by rw [own_tn]; omega, fun q => ?_⟩
  rw [q] at h; omega
theorem own_idx (i0 i1 x5 x14 : Int32) (hx5 : x5 = ((i0 &&& (3 : Int32)) + (1 : Int32))) (hx14 : x14 = ((i1 &&& (2147483647 : Int32)) % x5)) : ¬ x14 < 0 ∧ x14 < x5 := by
  have h := own_capI i0 x5 hx5
  have m := c_mask i1 2147483647 31 (by decide) (by decide)
  have r := (c_iremV (i1 &&& 2147483647) x5).1 (by rw [m]; omega) (by omega)
  rw [← hx14] at r
  have k0 : (0 : Int32).toInt = 0 := by decide
  rw [Int32.lt_iff_toInt_lt, Int32.lt_iff_toInt_lt]
  omega
theorem own_expr (sf ss sm ff : Int32) (vx vy : Addr) : (own_exp sf ss sm ff vx vy).isRef = true := by
  rw [own_exp]; (repeat' split) <;> rfl
theorem own_eqI (x14 x23 v36 v49 v159 : Int32) (vx vy : Addr) (H1 H2 : List (Int32 × Value)) (h1 : H1 = (if v36 = (0 : Int32) then [] else ((x14, .ref vx) :: []))) (h2 : H2 = (if v49 = (0 : Int32) then H1 else ((x23, .ref vy) :: H1))) (h3 : v159 = (if x14 = x23 then (1 : Int32) else (0 : Int32))) (n14 : ¬ x14 < 0) (n23 : ¬ x23 < 0) : getH H2 [] .null (x14).toNatClampNeg = own_exp v36 v49 v159 (1 : Int32) vx vy := by
  have b : getH H1 [] .null (x14).toNatClampNeg = if v36 = (0 : Int32) then .null else .ref vx := by
    rw [h1]
    by_cases p : v36 = (0 : Int32)
    · rw [if_pos p, if_pos p]; rfl
    · rw [if_neg p, if_neg p]; exact getH_hit n14 rfl
  rw [h2, own_exp, if_neg (show ¬ (1 : Int32) = 0 by decide)]
  by_cases q : v49 = (0 : Int32)
  · rw [if_pos q, if_pos q, b]
  · rw [if_neg q, if_neg q]
    by_cases u : x14 = x23
    · rw [if_pos u] at h3
      rw [h3, if_neg (show ¬ (1 : Int32) = 0 by decide)]; exact getH_hit n14 u
    · rw [if_neg u] at h3
      rw [h3, if_pos rfl]; exact getH_miss n14 u b
theorem own_eqJ (x14 x23 v36 v49 v159 : Int32) (vx vy : Addr) (H1 H2 : List (Int32 × Value)) (h1 : H1 = (if v36 = (0 : Int32) then [] else ((x14, .ref vx) :: []))) (h2 : H2 = (if v49 = (0 : Int32) then H1 else ((x23, .ref vy) :: H1))) (h3 : v159 = (if x14 = x23 then (1 : Int32) else (0 : Int32))) (n14 : ¬ x14 < 0) (n23 : ¬ x23 < 0) : getH H2 [] .null (x23).toNatClampNeg = own_exp v36 v49 v159 (0 : Int32) vx vy := by
  rw [h2, own_exp, if_pos (show (0 : Int32) = 0 by decide)]
  by_cases q : v49 = (0 : Int32)
  · rw [if_pos q, if_pos q, h1]
    by_cases p : v36 = (0 : Int32)
    · rw [if_pos p, if_pos p]; rfl
    · rw [if_neg p, if_neg p]
      by_cases u : x14 = x23
      · rw [if_pos u] at h3
        rw [h3, if_neg (show ¬ (1 : Int32) = 0 by decide)]; exact getH_hit n23 u.symm
      · rw [if_neg u] at h3
        rw [h3, if_pos rfl]; exact getH_miss n23 (fun z => u z.symm) rfl
  · rw [if_neg q, if_neg q]; exact getH_hit n23 rfl
theorem own_ef0 (m : MethodId) (i0 : Int32) (i1 : Int32) (i2 : Int32) (i3 : Int32) (i4 : Int32) : entryFrame m #[(.int i0), (.int i1), (.int i2), (.int i3), (.int i4)] maxLocals = mkF m 0 #[.val (.int i0), .val (.int i1), .val (.int i2), .val (.int i3), .val (.int i4), .unset, .unset, .unset, .unset, .unset, .unset, .unset, .unset, .unset, .unset, .unset, .unset] [] := by first | (simp [entryFrame, mkF, argsToLocals, Value.category, maxLocals]; done) | rfl
def Q0 (Z : State) (i0 : Int32) (i1 : Int32) (i2 : Int32) (i3 : Int32) (i4 : Int32) (sE : Addr) (h0 : Heap) (n0 : Nat) (vr : Option Value) (hr : Heap) (Lr : List Loc) : Prop := vr = some (.int 1) ∧ Fr n0 Lr
set_option maxRecDepth 65536 in
set_option maxHeartbeats 40000000 in
theorem rm0 (l : Launch) (Z : State) (a0 : Array Value) (hw : ∀ d ∈ tables_1, d.before a0 Z = true) (ws : List Jvm.Cond) (i0 : Int32) (i1 : Int32) (i2 : Int32) (i3 : Int32) (i4 : Int32) (sE : Addr) (h0 : Heap) (n0 : Nat) (Z0 : n0 ≤ h0.size) (O0 : Old Z n0 h0) (S_EMPTY : Sta Z Z.heap "java/util/Optional" "EMPTY" "Ljava/util/Optional;" (.ref sE)) (E_sE : Exa Z Z.heap sE "java/util/Optional") :
    MetFree l x (head1 (Jvm.Cond.code x code maxLocals ret :: ws) room_1) (fun aQ UQ => aQ = #[(.int i0), (.int i1), (.int i2), (.int i3), (.int i4)] ∧ Z.Warmed39 UQ.vm ∧ UQ.heap = h0) (fun _ _ _ _ _ => True) (fun _ UQ oQ VQ => ∃ vQ LQ, oQ = .returned vQ ∧ Q0 Z i0 i1 i2 i3 i4 sE h0 n0 vQ VQ.heap LQ ∧ FrameEnd UQ oQ VQ LQ 40 192) := by
  refine MetFree.of_bodySF (plainFor_of_name own_pn3) hisR ?_
  intro p e s m args below meth c s₁ Bd hml0 hP hK
  obtain ⟨rfl, hZ, hh⟩ := hP
  have hx := Bd.exec
  have hby := Bd.bytes
  have hml : c.maxLocals = 17 := hml0
  have hown : s.vm.findClass "com/example/compact_commits/compactcommits/transactions/VersionsFoundAnswerPinLaw" = some m.cls := findClass_of_methodNamed Bd.named
  have hnm := (name_of_methodNamed Bd.named Bd.method).1
  have X0 : Stand p l e room_1 s m #[(.int i0), (.int i1), (.int i2), (.int i3), (.int i4)] below meth c s₁ [] 0 0 := Stand.of_body Bd
  have e0 : s₁.heap = h0 := by rw [← hh, Bd.state]; rfl
  have N0 := Fr.nil n0
  show Go p e below (EndQ s below (Q0 Z i0 i1 i2 i3 i4 sE h0 n0) 40 192) s₁ (entryFrame m #[(.int i0), (.int i1), (.int i2), (.int i3), (.int i4)] maxLocals)
  obtain ⟨Φ, hΦ⟩ : ∃ Φ, Φ = EndQ s below (Q0 Z i0 i1 i2 i3 i4 sE h0 n0) 40 192 := ⟨_, rfl⟩
  rw [← hΦ, own_ef0]
  show Go p e below Φ s₁ (mkF m 0 #[.val (.int i0), .val (.int i1), .val (.int i2), .val (.int i3), .val (.int i4), .unset, .unset, .unset, .unset, .unset, .unset, .unset, .unset, .unset, .unset, .unset, .unset] [])
  refine Go.of (fun t k => XS.iloadN X0.here hx rfl (hb hby at_0) rfl  k) ?_
  show Go p e below Φ s₁ (mkF m 1 #[.val (.int i0), .val (.int i1), .val (.int i2), .val (.int i3), .val (.int i4), .unset, .unset, .unset, .unset, .unset, .unset, .unset, .unset, .unset, .unset, .unset, .unset] [(.int i0)])
  refine Go.of (fun t k => XS.iconst X0.here hx rfl (hb hby at_1) k) ?_
  show Go p e below Φ s₁ (mkF m 2 #[.val (.int i0), .val (.int i1), .val (.int i2), .val (.int i3), .val (.int i4), .unset, .unset, .unset, .unset, .unset, .unset, .unset, .unset, .unset, .unset, .unset, .unset] [(.int (3 : Int32)), (.int i0)])
  refine Go.of (fun t k => XS.iand X0.here hx rfl (hb hby at_2) rfl k) ?_
  show Go p e below Φ s₁ (mkF m 3 #[.val (.int i0), .val (.int i1), .val (.int i2), .val (.int i3), .val (.int i4), .unset, .unset, .unset, .unset, .unset, .unset, .unset, .unset, .unset, .unset, .unset, .unset] [(.int (i0 &&& (3 : Int32)))])
  refine Go.of (fun t k => XS.iconst X0.here hx rfl (hb hby at_3) k) ?_
  show Go p e below Φ s₁ (mkF m 4 #[.val (.int i0), .val (.int i1), .val (.int i2), .val (.int i3), .val (.int i4), .unset, .unset, .unset, .unset, .unset, .unset, .unset, .unset, .unset, .unset, .unset, .unset] [(.int (1 : Int32)), (.int (i0 &&& (3 : Int32)))])
  refine Go.of (fun t k => XS.iadd X0.here hx rfl (hb hby at_4) rfl k) ?_
  show Go p e below Φ s₁ (mkF m 5 #[.val (.int i0), .val (.int i1), .val (.int i2), .val (.int i3), .val (.int i4), .unset, .unset, .unset, .unset, .unset, .unset, .unset, .unset, .unset, .unset, .unset, .unset] [(.int ((i0 &&& (3 : Int32)) + (1 : Int32)))])
  obtain ⟨x5, hx5⟩ : ∃ z : Int32, z = ((i0 &&& (3 : Int32)) + (1 : Int32)) := ⟨_, rfl⟩
  rw [← hx5]
  refine Go.of (fun t k => XS.istore X0.here hx rfl (hb hby at_5) rfl (l' := #[.val (.int i0), .val (.int i1), .val (.int i2), .val (.int i3), .val (.int i4), .val (.int x5), .unset, .unset, .unset, .unset, .unset, .unset, .unset, .unset, .unset, .unset, .unset]) rfl k) ?_
  show Go p e below Φ s₁ (mkF m 7 #[.val (.int i0), .val (.int i1), .val (.int i2), .val (.int i3), .val (.int i4), .val (.int x5), .unset, .unset, .unset, .unset, .unset, .unset, .unset, .unset, .unset, .unset, .unset] [])
  refine Go.of (fun t k => XS.iloadN X0.here hx rfl (hb hby at_7) rfl  k) ?_
  show Go p e below Φ s₁ (mkF m 8 #[.val (.int i0), .val (.int i1), .val (.int i2), .val (.int i3), .val (.int i4), .val (.int x5), .unset, .unset, .unset, .unset, .unset, .unset, .unset, .unset, .unset, .unset, .unset] [(.int i1)])
  refine Go.of (fun t k => X0.ldcInt hx hown (mvT hZ (hw _ (List.mem_of_getElem? (i := 0) rfl))) (g := (mkF m 8 #[.val (.int i0), .val (.int i1), .val (.int i2), .val (.int i3), .val (.int i4), .val (.int x5), .unset, .unset, .unset, .unset, .unset, .unset, .unset, .unset, .unset, .unset, .unset] [(.int i1)])) rfl (hb hby at_8) t k) ?_
  show Go p e below Φ s₁ (mkF m 10 #[.val (.int i0), .val (.int i1), .val (.int i2), .val (.int i3), .val (.int i4), .val (.int x5), .unset, .unset, .unset, .unset, .unset, .unset, .unset, .unset, .unset, .unset, .unset] [(.int (2147483647 : Int32)), (.int i1)])
  refine Go.of (fun t k => XS.iand X0.here hx rfl (hb hby at_10) rfl k) ?_
  show Go p e below Φ s₁ (mkF m 11 #[.val (.int i0), .val (.int i1), .val (.int i2), .val (.int i3), .val (.int i4), .val (.int x5), .unset, .unset, .unset, .unset, .unset, .unset, .unset, .unset, .unset, .unset, .unset] [(.int (i1 &&& (2147483647 : Int32)))])
  refine Go.of (fun t k => XS.iload X0.here hx rfl (hb hby at_11) rfl  k) ?_
  show Go p e below Φ s₁ (mkF m 13 #[.val (.int i0), .val (.int i1), .val (.int i2), .val (.int i3), .val (.int i4), .val (.int x5), .unset, .unset, .unset, .unset, .unset, .unset, .unset, .unset, .unset, .unset, .unset] [(.int x5), (.int (i1 &&& (2147483647 : Int32)))])
  refine Go.of (fun t k => iremM X0 hx rfl (hb hby at_13) rfl (own_cap i0 x5 hx5).2.2 k) ?_
  show Go p e below Φ s₁ (mkF m 14 #[.val (.int i0), .val (.int i1), .val (.int i2), .val (.int i3), .val (.int i4), .val (.int x5), .unset, .unset, .unset, .unset, .unset, .unset, .unset, .unset, .unset, .unset, .unset] [(.int ((i1 &&& (2147483647 : Int32)) % x5))])
  obtain ⟨x14, hx14⟩ : ∃ z : Int32, z = ((i1 &&& (2147483647 : Int32)) % x5) := ⟨_, rfl⟩
  rw [← hx14]
  refine Go.of (fun t k => XS.istore X0.here hx rfl (hb hby at_14) rfl (l' := #[.val (.int i0), .val (.int i1), .val (.int i2), .val (.int i3), .val (.int i4), .val (.int x5), .val (.int x14), .unset, .unset, .unset, .unset, .unset, .unset, .unset, .unset, .unset, .unset]) rfl k) ?_
  show Go p e below Φ s₁ (mkF m 16 #[.val (.int i0), .val (.int i1), .val (.int i2), .val (.int i3), .val (.int i4), .val (.int x5), .val (.int x14), .unset, .unset, .unset, .unset, .unset, .unset, .unset, .unset, .unset, .unset] [])
  refine Go.of (fun t k => XS.iloadN X0.here hx rfl (hb hby at_16) rfl  k) ?_
  show Go p e below Φ s₁ (mkF m 17 #[.val (.int i0), .val (.int i1), .val (.int i2), .val (.int i3), .val (.int i4), .val (.int x5), .val (.int x14), .unset, .unset, .unset, .unset, .unset, .unset, .unset, .unset, .unset, .unset] [(.int i2)])
  refine Go.of (fun t k => X0.ldcInt hx hown (mvT hZ (hw _ (List.mem_of_getElem? (i := 0) rfl))) (g := (mkF m 17 #[.val (.int i0), .val (.int i1), .val (.int i2), .val (.int i3), .val (.int i4), .val (.int x5), .val (.int x14), .unset, .unset, .unset, .unset, .unset, .unset, .unset, .unset, .unset, .unset] [(.int i2)])) rfl (hb hby at_17) t k) ?_
  show Go p e below Φ s₁ (mkF m 19 #[.val (.int i0), .val (.int i1), .val (.int i2), .val (.int i3), .val (.int i4), .val (.int x5), .val (.int x14), .unset, .unset, .unset, .unset, .unset, .unset, .unset, .unset, .unset, .unset] [(.int (2147483647 : Int32)), (.int i2)])
  refine Go.of (fun t k => XS.iand X0.here hx rfl (hb hby at_19) rfl k) ?_
  show Go p e below Φ s₁ (mkF m 20 #[.val (.int i0), .val (.int i1), .val (.int i2), .val (.int i3), .val (.int i4), .val (.int x5), .val (.int x14), .unset, .unset, .unset, .unset, .unset, .unset, .unset, .unset, .unset, .unset] [(.int (i2 &&& (2147483647 : Int32)))])
  refine Go.of (fun t k => XS.iload X0.here hx rfl (hb hby at_20) rfl  k) ?_
  show Go p e below Φ s₁ (mkF m 22 #[.val (.int i0), .val (.int i1), .val (.int i2), .val (.int i3), .val (.int i4), .val (.int x5), .val (.int x14), .unset, .unset, .unset, .unset, .unset, .unset, .unset, .unset, .unset, .unset] [(.int x5), (.int (i2 &&& (2147483647 : Int32)))])
  refine Go.of (fun t k => iremM X0 hx rfl (hb hby at_22) rfl (own_cap i0 x5 hx5).2.2 k) ?_
  show Go p e below Φ s₁ (mkF m 23 #[.val (.int i0), .val (.int i1), .val (.int i2), .val (.int i3), .val (.int i4), .val (.int x5), .val (.int x14), .unset, .unset, .unset, .unset, .unset, .unset, .unset, .unset, .unset, .unset] [(.int ((i2 &&& (2147483647 : Int32)) % x5))])
  obtain ⟨x23, hx23⟩ : ∃ z : Int32, z = ((i2 &&& (2147483647 : Int32)) % x5) := ⟨_, rfl⟩
  rw [← hx23]
  refine Go.of (fun t k => XS.istore X0.here hx rfl (hb hby at_23) rfl (l' := #[.val (.int i0), .val (.int i1), .val (.int i2), .val (.int i3), .val (.int i4), .val (.int x5), .val (.int x14), .val (.int x23), .unset, .unset, .unset, .unset, .unset, .unset, .unset, .unset, .unset]) rfl k) ?_
  show Go p e below Φ s₁ (mkF m 25 #[.val (.int i0), .val (.int i1), .val (.int i2), .val (.int i3), .val (.int i4), .val (.int x5), .val (.int x14), .val (.int x23), .unset, .unset, .unset, .unset, .unset, .unset, .unset, .unset, .unset] [])
  refine Go.of (fun t k => XS.iloadN X0.here hx rfl (hb hby at_25) rfl  k) ?_
  show Go p e below Φ s₁ (mkF m 26 #[.val (.int i0), .val (.int i1), .val (.int i2), .val (.int i3), .val (.int i4), .val (.int x5), .val (.int x14), .val (.int x23), .unset, .unset, .unset, .unset, .unset, .unset, .unset, .unset, .unset] [(.int i3)])
  refine Go.of (fun t k => XS.iconst X0.here hx rfl (hb hby at_26) k) ?_
  show Go p e below Φ s₁ (mkF m 27 #[.val (.int i0), .val (.int i1), .val (.int i2), .val (.int i3), .val (.int i4), .val (.int x5), .val (.int x14), .val (.int x23), .unset, .unset, .unset, .unset, .unset, .unset, .unset, .unset, .unset] [(.int (1 : Int32)), (.int i3)])
  refine Go.of (fun t k => XS.iand X0.here hx rfl (hb hby at_27) rfl k) ?_
  show Go p e below Φ s₁ (mkF m 28 #[.val (.int i0), .val (.int i1), .val (.int i2), .val (.int i3), .val (.int i4), .val (.int x5), .val (.int x14), .val (.int x23), .unset, .unset, .unset, .unset, .unset, .unset, .unset, .unset, .unset] [(.int (i3 &&& (1 : Int32)))])
  suffices j36_1 :  ∀ v36 : Int32, v36 = (if (i3 &&& (1 : Int32)) = (0 : Int32) then (0 : Int32) else (1 : Int32)) → Go p e below Φ s₁ (mkF m 36 #[.val (.int i0), .val (.int i1), .val (.int i2), .val (.int i3), .val (.int i4), .val (.int x5), .val (.int x14), .val (.int x23), .unset, .unset, .unset, .unset, .unset, .unset, .unset, .unset, .unset] [(.int v36)]) by
    by_cases hc28 : (i3 &&& (1 : Int32)) = (0 : Int32)
    · refine Go.of (fun t k => XS.ifYes X0.here hx rfl (pc0 := 28) (pc' := 35) rfl (hb hby at_28) rfl (XT.i0_eq_t hc28) (by decide) (by decide) k) ?_
      show Go p e below Φ s₁ (mkF m 35 #[.val (.int i0), .val (.int i1), .val (.int i2), .val (.int i3), .val (.int i4), .val (.int x5), .val (.int x14), .val (.int x23), .unset, .unset, .unset, .unset, .unset, .unset, .unset, .unset, .unset] [])
      refine Go.of (fun t k => XS.iconst X0.here hx rfl (hb hby at_35) k) ?_
      show Go p e below Φ s₁ (mkF m 36 #[.val (.int i0), .val (.int i1), .val (.int i2), .val (.int i3), .val (.int i4), .val (.int x5), .val (.int x14), .val (.int x23), .unset, .unset, .unset, .unset, .unset, .unset, .unset, .unset, .unset] [(.int (0 : Int32))])
      exact j36_1 _ (by rw [if_pos hc28])
    · refine Go.of (fun t k => XS.ifNo X0.here hx rfl (hb hby at_28) rfl (XT.i0_eq_f hc28) k) ?_
      show Go p e below Φ s₁ (mkF m 31 #[.val (.int i0), .val (.int i1), .val (.int i2), .val (.int i3), .val (.int i4), .val (.int x5), .val (.int x14), .val (.int x23), .unset, .unset, .unset, .unset, .unset, .unset, .unset, .unset, .unset] [])
      refine Go.of (fun t k => XS.iconst X0.here hx rfl (hb hby at_31) k) ?_
      show Go p e below Φ s₁ (mkF m 32 #[.val (.int i0), .val (.int i1), .val (.int i2), .val (.int i3), .val (.int i4), .val (.int x5), .val (.int x14), .val (.int x23), .unset, .unset, .unset, .unset, .unset, .unset, .unset, .unset, .unset] [(.int (1 : Int32))])
      refine Go.of (fun t k => XS.goto X0.here hx rfl (pc0 := 32) (pc' := 36) rfl (hb hby at_32) (by decide) (by decide) k) ?_
      show Go p e below Φ s₁ (mkF m 36 #[.val (.int i0), .val (.int i1), .val (.int i2), .val (.int i3), .val (.int i4), .val (.int x5), .val (.int x14), .val (.int x23), .unset, .unset, .unset, .unset, .unset, .unset, .unset, .unset, .unset] [(.int (1 : Int32))])
      exact j36_1 _ (by rw [if_neg hc28])
  intro v36 hv36
  show Go p e below Φ s₁ (mkF m 36 #[.val (.int i0), .val (.int i1), .val (.int i2), .val (.int i3), .val (.int i4), .val (.int x5), .val (.int x14), .val (.int x23), .unset, .unset, .unset, .unset, .unset, .unset, .unset, .unset, .unset] [(.int v36)])
  refine Go.of (fun t k => XS.istore X0.here hx rfl (hb hby at_36) rfl (l' := #[.val (.int i0), .val (.int i1), .val (.int i2), .val (.int i3), .val (.int i4), .val (.int x5), .val (.int x14), .val (.int x23), .val (.int v36), .unset, .unset, .unset, .unset, .unset, .unset, .unset, .unset]) rfl k) ?_
  show Go p e below Φ s₁ (mkF m 38 #[.val (.int i0), .val (.int i1), .val (.int i2), .val (.int i3), .val (.int i4), .val (.int x5), .val (.int x14), .val (.int x23), .val (.int v36), .unset, .unset, .unset, .unset, .unset, .unset, .unset, .unset] [])
  refine Go.of (fun t k => XS.iloadN X0.here hx rfl (hb hby at_38) rfl  k) ?_
  show Go p e below Φ s₁ (mkF m 39 #[.val (.int i0), .val (.int i1), .val (.int i2), .val (.int i3), .val (.int i4), .val (.int x5), .val (.int x14), .val (.int x23), .val (.int v36), .unset, .unset, .unset, .unset, .unset, .unset, .unset, .unset] [(.int i3)])
  refine Go.of (fun t k => XS.iconst X0.here hx rfl (hb hby at_39) k) ?_
  show Go p e below Φ s₁ (mkF m 40 #[.val (.int i0), .val (.int i1), .val (.int i2), .val (.int i3), .val (.int i4), .val (.int x5), .val (.int x14), .val (.int x23), .val (.int v36), .unset, .unset, .unset, .unset, .unset, .unset, .unset, .unset] [(.int (2 : Int32)), (.int i3)])
  refine Go.of (fun t k => XS.iand X0.here hx rfl (hb hby at_40) rfl k) ?_
  show Go p e below Φ s₁ (mkF m 41 #[.val (.int i0), .val (.int i1), .val (.int i2), .val (.int i3), .val (.int i4), .val (.int x5), .val (.int x14), .val (.int x23), .val (.int v36), .unset, .unset, .unset, .unset, .unset, .unset, .unset, .unset] [(.int (i3 &&& (2 : Int32)))])
  suffices j49_2 :  ∀ v49 : Int32, v49 = (if (i3 &&& (2 : Int32)) = (0 : Int32) then (0 : Int32) else (1 : Int32)) → Go p e below Φ s₁ (mkF m 49 #[.val (.int i0), .val (.int i1), .val (.int i2), .val (.int i3), .val (.int i4), .val (.int x5), .val (.int x14), .val (.int x23), .val (.int v36), .unset, .unset, .unset, .unset, .unset, .unset, .unset, .unset] [(.int v49)]) by
    by_cases hc41 : (i3 &&& (2 : Int32)) = (0 : Int32)
    · refine Go.of (fun t k => XS.ifYes X0.here hx rfl (pc0 := 41) (pc' := 48) rfl (hb hby at_41) rfl (XT.i0_eq_t hc41) (by decide) (by decide) k) ?_
      show Go p e below Φ s₁ (mkF m 48 #[.val (.int i0), .val (.int i1), .val (.int i2), .val (.int i3), .val (.int i4), .val (.int x5), .val (.int x14), .val (.int x23), .val (.int v36), .unset, .unset, .unset, .unset, .unset, .unset, .unset, .unset] [])
      refine Go.of (fun t k => XS.iconst X0.here hx rfl (hb hby at_48) k) ?_
      show Go p e below Φ s₁ (mkF m 49 #[.val (.int i0), .val (.int i1), .val (.int i2), .val (.int i3), .val (.int i4), .val (.int x5), .val (.int x14), .val (.int x23), .val (.int v36), .unset, .unset, .unset, .unset, .unset, .unset, .unset, .unset] [(.int (0 : Int32))])
      exact j49_2 _ (by rw [if_pos hc41])
    · refine Go.of (fun t k => XS.ifNo X0.here hx rfl (hb hby at_41) rfl (XT.i0_eq_f hc41) k) ?_
      show Go p e below Φ s₁ (mkF m 44 #[.val (.int i0), .val (.int i1), .val (.int i2), .val (.int i3), .val (.int i4), .val (.int x5), .val (.int x14), .val (.int x23), .val (.int v36), .unset, .unset, .unset, .unset, .unset, .unset, .unset, .unset] [])
      refine Go.of (fun t k => XS.iconst X0.here hx rfl (hb hby at_44) k) ?_
      show Go p e below Φ s₁ (mkF m 45 #[.val (.int i0), .val (.int i1), .val (.int i2), .val (.int i3), .val (.int i4), .val (.int x5), .val (.int x14), .val (.int x23), .val (.int v36), .unset, .unset, .unset, .unset, .unset, .unset, .unset, .unset] [(.int (1 : Int32))])
      refine Go.of (fun t k => XS.goto X0.here hx rfl (pc0 := 45) (pc' := 49) rfl (hb hby at_45) (by decide) (by decide) k) ?_
      show Go p e below Φ s₁ (mkF m 49 #[.val (.int i0), .val (.int i1), .val (.int i2), .val (.int i3), .val (.int i4), .val (.int x5), .val (.int x14), .val (.int x23), .val (.int v36), .unset, .unset, .unset, .unset, .unset, .unset, .unset, .unset] [(.int (1 : Int32))])
      exact j49_2 _ (by rw [if_neg hc41])
  intro v49 hv49
  show Go p e below Φ s₁ (mkF m 49 #[.val (.int i0), .val (.int i1), .val (.int i2), .val (.int i3), .val (.int i4), .val (.int x5), .val (.int x14), .val (.int x23), .val (.int v36), .unset, .unset, .unset, .unset, .unset, .unset, .unset, .unset] [(.int v49)])
  refine Go.of (fun t k => XS.istore X0.here hx rfl (hb hby at_49) rfl (l' := #[.val (.int i0), .val (.int i1), .val (.int i2), .val (.int i3), .val (.int i4), .val (.int x5), .val (.int x14), .val (.int x23), .val (.int v36), .val (.int v49), .unset, .unset, .unset, .unset, .unset, .unset, .unset]) rfl k) ?_
  show Go p e below Φ s₁ (mkF m 51 #[.val (.int i0), .val (.int i1), .val (.int i2), .val (.int i3), .val (.int i4), .val (.int x5), .val (.int x14), .val (.int x23), .val (.int v36), .val (.int v49), .unset, .unset, .unset, .unset, .unset, .unset, .unset] [])
  refine Go.of (fun t k => XS.iloadN X0.here hx rfl (hb hby at_51) rfl  k) ?_
  show Go p e below Φ s₁ (mkF m 52 #[.val (.int i0), .val (.int i1), .val (.int i2), .val (.int i3), .val (.int i4), .val (.int x5), .val (.int x14), .val (.int x23), .val (.int v36), .val (.int v49), .unset, .unset, .unset, .unset, .unset, .unset, .unset] [(.int i3)])
  refine Go.of (fun t k => XS.iconst X0.here hx rfl (hb hby at_52) k) ?_
  show Go p e below Φ s₁ (mkF m 53 #[.val (.int i0), .val (.int i1), .val (.int i2), .val (.int i3), .val (.int i4), .val (.int x5), .val (.int x14), .val (.int x23), .val (.int v36), .val (.int v49), .unset, .unset, .unset, .unset, .unset, .unset, .unset] [(.int (4 : Int32)), (.int i3)])
  refine Go.of (fun t k => XS.iand X0.here hx rfl (hb hby at_53) rfl k) ?_
  show Go p e below Φ s₁ (mkF m 54 #[.val (.int i0), .val (.int i1), .val (.int i2), .val (.int i3), .val (.int i4), .val (.int x5), .val (.int x14), .val (.int x23), .val (.int v36), .val (.int v49), .unset, .unset, .unset, .unset, .unset, .unset, .unset] [(.int (i3 &&& (4 : Int32)))])
  suffices j62_3 :  ∀ v62 : Int32, v62 = (if (i3 &&& (4 : Int32)) = (0 : Int32) then (0 : Int32) else (1 : Int32)) → Go p e below Φ s₁ (mkF m 62 #[.val (.int i0), .val (.int i1), .val (.int i2), .val (.int i3), .val (.int i4), .val (.int x5), .val (.int x14), .val (.int x23), .val (.int v36), .val (.int v49), .unset, .unset, .unset, .unset, .unset, .unset, .unset] [(.int v62)]) by
    by_cases hc54 : (i3 &&& (4 : Int32)) = (0 : Int32)
    · refine Go.of (fun t k => XS.ifYes X0.here hx rfl (pc0 := 54) (pc' := 61) rfl (hb hby at_54) rfl (XT.i0_eq_t hc54) (by decide) (by decide) k) ?_
      show Go p e below Φ s₁ (mkF m 61 #[.val (.int i0), .val (.int i1), .val (.int i2), .val (.int i3), .val (.int i4), .val (.int x5), .val (.int x14), .val (.int x23), .val (.int v36), .val (.int v49), .unset, .unset, .unset, .unset, .unset, .unset, .unset] [])
      refine Go.of (fun t k => XS.iconst X0.here hx rfl (hb hby at_61) k) ?_
      show Go p e below Φ s₁ (mkF m 62 #[.val (.int i0), .val (.int i1), .val (.int i2), .val (.int i3), .val (.int i4), .val (.int x5), .val (.int x14), .val (.int x23), .val (.int v36), .val (.int v49), .unset, .unset, .unset, .unset, .unset, .unset, .unset] [(.int (0 : Int32))])
      exact j62_3 _ (by rw [if_pos hc54])
    · refine Go.of (fun t k => XS.ifNo X0.here hx rfl (hb hby at_54) rfl (XT.i0_eq_f hc54) k) ?_
      show Go p e below Φ s₁ (mkF m 57 #[.val (.int i0), .val (.int i1), .val (.int i2), .val (.int i3), .val (.int i4), .val (.int x5), .val (.int x14), .val (.int x23), .val (.int v36), .val (.int v49), .unset, .unset, .unset, .unset, .unset, .unset, .unset] [])
      refine Go.of (fun t k => XS.iconst X0.here hx rfl (hb hby at_57) k) ?_
      show Go p e below Φ s₁ (mkF m 58 #[.val (.int i0), .val (.int i1), .val (.int i2), .val (.int i3), .val (.int i4), .val (.int x5), .val (.int x14), .val (.int x23), .val (.int v36), .val (.int v49), .unset, .unset, .unset, .unset, .unset, .unset, .unset] [(.int (1 : Int32))])
      refine Go.of (fun t k => XS.goto X0.here hx rfl (pc0 := 58) (pc' := 62) rfl (hb hby at_58) (by decide) (by decide) k) ?_
      show Go p e below Φ s₁ (mkF m 62 #[.val (.int i0), .val (.int i1), .val (.int i2), .val (.int i3), .val (.int i4), .val (.int x5), .val (.int x14), .val (.int x23), .val (.int v36), .val (.int v49), .unset, .unset, .unset, .unset, .unset, .unset, .unset] [(.int (1 : Int32))])
      exact j62_3 _ (by rw [if_neg hc54])
  intro v62 hv62
  show Go p e below Φ s₁ (mkF m 62 #[.val (.int i0), .val (.int i1), .val (.int i2), .val (.int i3), .val (.int i4), .val (.int x5), .val (.int x14), .val (.int x23), .val (.int v36), .val (.int v49), .unset, .unset, .unset, .unset, .unset, .unset, .unset] [(.int v62)])
  refine Go.of (fun t k => XS.istore X0.here hx rfl (hb hby at_62) rfl (l' := #[.val (.int i0), .val (.int i1), .val (.int i2), .val (.int i3), .val (.int i4), .val (.int x5), .val (.int x14), .val (.int x23), .val (.int v36), .val (.int v49), .val (.int v62), .unset, .unset, .unset, .unset, .unset, .unset]) rfl k) ?_
  show Go p e below Φ s₁ (mkF m 64 #[.val (.int i0), .val (.int i1), .val (.int i2), .val (.int i3), .val (.int i4), .val (.int x5), .val (.int x14), .val (.int x23), .val (.int v36), .val (.int v49), .val (.int v62), .unset, .unset, .unset, .unset, .unset, .unset] [])
  refine Go.of (fun t k => XS.iconst X0.here hx rfl (hb hby at_64) k) ?_
  show Go p e below Φ s₁ (mkF m 65 #[.val (.int i0), .val (.int i1), .val (.int i2), .val (.int i3), .val (.int i4), .val (.int x5), .val (.int x14), .val (.int x23), .val (.int v36), .val (.int v49), .val (.int v62), .unset, .unset, .unset, .unset, .unset, .unset] [(.int (1 : Int32))])
  obtain ⟨T4, h4, k4, X4, e4, E4, A4, st4⟩ := newP X0 hx hZ (hw _ (List.mem_of_getElem? (i := 1) rfl)) e0 (g := (mkF m 65 #[.val (.int i0), .val (.int i1), .val (.int i2), .val (.int i3), .val (.int i4), .val (.int x5), .val (.int x14), .val (.int x23), .val (.int v36), .val (.int v49), .val (.int v62), .unset, .unset, .unset, .unset, .unset, .unset] [(.int (1 : Int32))])) rfl (hb hby at_65) rfl (by decide) (cap := 1) (by decide) (by decide) (by decide) (by decide)
  obtain ⟨b4, g4⟩ : ∃ z, z = h0.size := ⟨_, rfl⟩
  rw [← g4] at A4 st4
  have g_b4 : n0 ≤ b4 := Nat.le_trans Z0 (Nat.le_of_eq g4.symm)
  have Z4 := Nat.le_trans Z0 E4.1
  have O4 := O0.ext E4
  have V_b4 : Arv Z h4 b4 k4 .byte (1 : Int32) [(.int (0 : Int32))] (.int (0 : Int32)) := (Arv.new A4 (by decide)).pad (pad_rep [] (.int (0 : Int32)) 1)
  refine Go.of st4 ?_
  show Go p e below Φ T4 (mkF m 67 #[.val (.int i0), .val (.int i1), .val (.int i2), .val (.int i3), .val (.int i4), .val (.int x5), .val (.int x14), .val (.int x23), .val (.int v36), .val (.int v49), .val (.int v62), .unset, .unset, .unset, .unset, .unset, .unset] [(.ref b4)])
  refine Go.of (fun t k => XS.dup X4.here hx rfl (hb hby at_67) rfl rfl k) ?_
  show Go p e below Φ T4 (mkF m 68 #[.val (.int i0), .val (.int i1), .val (.int i2), .val (.int i3), .val (.int i4), .val (.int x5), .val (.int x14), .val (.int x23), .val (.int v36), .val (.int v49), .val (.int v62), .unset, .unset, .unset, .unset, .unset, .unset] [(.ref b4), (.ref b4)])
  refine Go.of (fun t k => XS.iconst X4.here hx rfl (hb hby at_68) k) ?_
  show Go p e below Φ T4 (mkF m 69 #[.val (.int i0), .val (.int i1), .val (.int i2), .val (.int i3), .val (.int i4), .val (.int x5), .val (.int x14), .val (.int x23), .val (.int v36), .val (.int v49), .val (.int v62), .unset, .unset, .unset, .unset, .unset, .unset] [(.int (0 : Int32)), (.ref b4), (.ref b4)])
  refine Go.of (fun t k => XS.iload X4.here hx rfl (hb hby at_69) rfl  k) ?_
  show Go p e below Φ T4 (mkF m 71 #[.val (.int i0), .val (.int i1), .val (.int i2), .val (.int i3), .val (.int i4), .val (.int x5), .val (.int x14), .val (.int x23), .val (.int v36), .val (.int v49), .val (.int v62), .unset, .unset, .unset, .unset, .unset, .unset] [(.int i4), (.int (0 : Int32)), (.ref b4), (.ref b4)])
  refine Go.of (fun t k => XS.i2b X4.here hx rfl (hb hby at_71) rfl k) ?_
  show Go p e below Φ T4 (mkF m 72 #[.val (.int i0), .val (.int i1), .val (.int i2), .val (.int i3), .val (.int i4), .val (.int x5), .val (.int x14), .val (.int x23), .val (.int v36), .val (.int v49), .val (.int v62), .unset, .unset, .unset, .unset, .unset, .unset] [(.int (i4.toInt8.toInt32)), (.int (0 : Int32)), (.ref b4), (.ref b4)])
  obtain ⟨cl72, Ar72, q72, S72, N72, H72, G72⟩ := id V_b4
  have hin72 : ¬ ((0 : Int32) < 0 ∨ cl72.slots.size ≤ ((0 : Int32)).toNatClampNeg) := inb_of S72 ⟨by decide, by decide⟩
  obtain ⟨T5, h5, X5, e5, W5, st5⟩ := stB X4 hx hZ e4 Ar72 (j := (0 : Int32)) hin72 (g := (mkF m 72 #[.val (.int i0), .val (.int i1), .val (.int i2), .val (.int i3), .val (.int i4), .val (.int x5), .val (.int x14), .val (.int x23), .val (.int v36), .val (.int v49), .val (.int v62), .unset, .unset, .unset, .unset, .unset, .unset] [(.int (i4.toInt8.toInt32)), (.int (0 : Int32)), (.ref b4), (.ref b4)])) rfl rfl (hb hby at_72)
  have V_b4 : Arv Z h5 b4 k4 .byte (1 : Int32) [(.int (nar .byte (i4.toInt8.toInt32)))] (.int (0 : Int32)) := Arv.set Ar72 q72 S72 N72 H72 G72 (fits_nar_byte _) W5 0 rfl (Nat.le_of_ble_eq_true rfl)
  have N5 := Fr.snoc X5 N0 g_b4
  have Z5 := Nat.le_trans Z4 (Keep.of_wr W5).1
  have O5 := O4.wr W5 g_b4
  obtain ⟨lc5, X5, N5⟩ : ∃ lc, Stand p l e room_1 s m #[(.int i0), (.int i1), (.int i2), (.int i3), (.int i4)] below meth c T5 lc 1 1 ∧ Fr n0 lc := ⟨_, X5, N5⟩
  refine Go.of st5 ?_
  show Go p e below Φ T5 (mkF m 73 #[.val (.int i0), .val (.int i1), .val (.int i2), .val (.int i3), .val (.int i4), .val (.int x5), .val (.int x14), .val (.int x23), .val (.int v36), .val (.int v49), .val (.int v62), .unset, .unset, .unset, .unset, .unset, .unset] [(.ref b4)])
  obtain ⟨_, _, ⟨T6, L6, k6, n6⟩, -, X6, ⟨Lc6, hQ6, l6, y6, z6⟩, st6⟩ := Jvm.LawKit.callS X5 hx (y := (⟨"java/util/Optional", "of", "(Ljava/lang/Object;)Ljava/util/Optional;"⟩ : MethodName)) hown (mvT hZ (hw _ (List.mem_of_getElem? (i := 2) rfl))) (mvT hZ (hw _ (List.mem_of_getElem? (i := 3) rfl))) (mvT hZ (hw _ (List.mem_of_getElem? (i := 4) rfl))) (mvT hZ (hw _ (List.mem_of_getElem? (i := 5) rfl))) (by decide) (backOf (W := 0) (rm1 l Z a0 hw [] b4 h5 n0 Z5 ) hZ (hw _ (List.mem_of_getElem? (i := 5) rfl)) (hw _ (List.mem_of_getElem? (i := 4) rfl)) (by decide) (by decide)) (g := (mkF m 73 #[.val (.int i0), .val (.int i1), .val (.int i2), .val (.int i3), .val (.int i4), .val (.int x5), .val (.int x14), .val (.int x23), .val (.int v36), .val (.int v49), .val (.int v62), .unset, .unset, .unset, .unset, .unset, .unset] [(.ref b4)])) rfl (by rw [hml]; rfl) (argsL := [(.ref b4)]) (rest := []) (lenOf own_pd2 rfl) rfl (by show 2 * 0 + _ ≤ _; exact Nat.le_of_eq rfl) (hb hby at_73) (fun _ _ => ⟨rfl, e5, (by decide : 1 + 1 ≤ _), (by decide : 1 + 1 ≤ _)⟩)
  dsimp only [Pt.U, Pt.locs, Pt.cells, Pt.slots] at X6 l6 y6 z6 st6 hQ6
  subst l6 y6 z6
  obtain ⟨b6, rfl, N6q, K6q, s6q, c6_0⟩ := hQ6
  have N6 := Fr.app N5 N6q
  obtain ⟨lc6, X6, N6⟩ : ∃ lc, Stand p l e room_1 s m #[(.int i0), (.int i1), (.int i2), (.int i3), (.int i4)] below meth c T6 lc 2 2 ∧ Fr n0 lc := ⟨_, X6, N6⟩
  have ne_b4_b6 : b4 ≠ b6 := Nat.ne_of_lt (Nat.lt_of_lt_of_le V_b4.lt s6q)
  have g_b6 : n0 ≤ b6 := Nat.le_trans Z5 s6q
  have V_b4 := V_b4.keep K6q nin0
  have E_b6 := c6_0
  have Z6 := Nat.le_trans Z5 K6q.1
  have O6 := O5.keep K6q all0
  refine Go.of st6 ?_
  show Go p e below Φ T6 (mkF m 76 #[.val (.int i0), .val (.int i1), .val (.int i2), .val (.int i3), .val (.int i4), .val (.int x5), .val (.int x14), .val (.int x23), .val (.int v36), .val (.int v49), .val (.int v62), .unset, .unset, .unset, .unset, .unset, .unset] [(.ref b6)])
  refine Go.of (fun t k => XS.astore X6.here hx rfl (hb hby at_76) rfl rfl (l' := #[.val (.int i0), .val (.int i1), .val (.int i2), .val (.int i3), .val (.int i4), .val (.int x5), .val (.int x14), .val (.int x23), .val (.int v36), .val (.int v49), .val (.int v62), .val (.ref b6), .unset, .unset, .unset, .unset, .unset]) rfl k) ?_
  show Go p e below Φ T6 (mkF m 78 #[.val (.int i0), .val (.int i1), .val (.int i2), .val (.int i3), .val (.int i4), .val (.int x5), .val (.int x14), .val (.int x23), .val (.int v36), .val (.int v49), .val (.int v62), .val (.ref b6), .unset, .unset, .unset, .unset, .unset] [])
  refine Go.of (fun t k => XS.iload X6.here hx rfl (hb hby at_78) rfl  k) ?_
  show Go p e below Φ T6 (mkF m 80 #[.val (.int i0), .val (.int i1), .val (.int i2), .val (.int i3), .val (.int i4), .val (.int x5), .val (.int x14), .val (.int x23), .val (.int v36), .val (.int v49), .val (.int v62), .val (.ref b6), .unset, .unset, .unset, .unset, .unset] [(.int v62)])
  by_cases hc80 : v62 = (0 : Int32)
  · refine Go.of (fun t k => XS.ifYes X6.here hx rfl (pc0 := 80) (pc' := 91) rfl (hb hby at_80) rfl (XT.i0_eq_t hc80) (by decide) (by decide) k) ?_
    show Go p e below Φ T6 (mkF m 91 #[.val (.int i0), .val (.int i1), .val (.int i2), .val (.int i3), .val (.int i4), .val (.int x5), .val (.int x14), .val (.int x23), .val (.int v36), .val (.int v49), .val (.int v62), .val (.ref b6), .unset, .unset, .unset, .unset, .unset] [])
    refine Go.of (fun t k => XS.iconst X6.here hx rfl (hb hby at_91) k) ?_
    show Go p e below Φ T6 (mkF m 92 #[.val (.int i0), .val (.int i1), .val (.int i2), .val (.int i3), .val (.int i4), .val (.int x5), .val (.int x14), .val (.int x23), .val (.int v36), .val (.int v49), .val (.int v62), .val (.ref b6), .unset, .unset, .unset, .unset, .unset] [(.int (1 : Int32))])
    obtain ⟨T7, h7, k7, X7, e7, E7, A7, st7⟩ := newP X6 hx hZ (hw _ (List.mem_of_getElem? (i := 1) rfl)) rfl (g := (mkF m 92 #[.val (.int i0), .val (.int i1), .val (.int i2), .val (.int i3), .val (.int i4), .val (.int x5), .val (.int x14), .val (.int x23), .val (.int v36), .val (.int v49), .val (.int v62), .val (.ref b6), .unset, .unset, .unset, .unset, .unset] [(.int (1 : Int32))])) rfl (hb hby at_92) rfl (by decide) (cap := 1) (by decide) (by decide) (by decide) (by decide)
    obtain ⟨b7, g7⟩ : ∃ z, z = T6.heap.size := ⟨_, rfl⟩
    rw [← g7] at A7 st7
    have ne_b4_b7 : b4 ≠ b7 := Nat.ne_of_lt (Nat.lt_of_lt_of_le V_b4.lt (Nat.le_of_eq g7.symm))
    have ne_b6_b7 : b6 ≠ b7 := Nat.ne_of_lt (Nat.lt_of_lt_of_le E_b6.lt (Nat.le_of_eq g7.symm))
    have g_b7 : n0 ≤ b7 := Nat.le_trans Z6 (Nat.le_of_eq g7.symm)
    have Z7 := Nat.le_trans Z6 E7.1
    have O7 := O6.ext E7
    have V_b4 := V_b4.ext E7
    have E_b6 := E_b6.ext E7
    have V_b7 : Arv Z h7 b7 k7 .byte (1 : Int32) [(.int (0 : Int32))] (.int (0 : Int32)) := (Arv.new A7 (by decide)).pad (pad_rep [] (.int (0 : Int32)) 1)
    refine Go.of st7 ?_
    show Go p e below Φ T7 (mkF m 94 #[.val (.int i0), .val (.int i1), .val (.int i2), .val (.int i3), .val (.int i4), .val (.int x5), .val (.int x14), .val (.int x23), .val (.int v36), .val (.int v49), .val (.int v62), .val (.ref b6), .unset, .unset, .unset, .unset, .unset] [(.ref b7)])
    refine Go.of (fun t k => XS.dup X7.here hx rfl (hb hby at_94) rfl rfl k) ?_
    show Go p e below Φ T7 (mkF m 95 #[.val (.int i0), .val (.int i1), .val (.int i2), .val (.int i3), .val (.int i4), .val (.int x5), .val (.int x14), .val (.int x23), .val (.int v36), .val (.int v49), .val (.int v62), .val (.ref b6), .unset, .unset, .unset, .unset, .unset] [(.ref b7), (.ref b7)])
    refine Go.of (fun t k => XS.iconst X7.here hx rfl (hb hby at_95) k) ?_
    show Go p e below Φ T7 (mkF m 96 #[.val (.int i0), .val (.int i1), .val (.int i2), .val (.int i3), .val (.int i4), .val (.int x5), .val (.int x14), .val (.int x23), .val (.int v36), .val (.int v49), .val (.int v62), .val (.ref b6), .unset, .unset, .unset, .unset, .unset] [(.int (0 : Int32)), (.ref b7), (.ref b7)])
    refine Go.of (fun t k => XS.iload X7.here hx rfl (hb hby at_96) rfl  k) ?_
    show Go p e below Φ T7 (mkF m 98 #[.val (.int i0), .val (.int i1), .val (.int i2), .val (.int i3), .val (.int i4), .val (.int x5), .val (.int x14), .val (.int x23), .val (.int v36), .val (.int v49), .val (.int v62), .val (.ref b6), .unset, .unset, .unset, .unset, .unset] [(.int i4), (.int (0 : Int32)), (.ref b7), (.ref b7)])
    refine Go.of (fun t k => XS.bipush X7.here hx rfl (hb hby at_98) k) ?_
    show Go p e below Φ T7 (mkF m 100 #[.val (.int i0), .val (.int i1), .val (.int i2), .val (.int i3), .val (.int i4), .val (.int x5), .val (.int x14), .val (.int x23), .val (.int v36), .val (.int v49), .val (.int v62), .val (.ref b6), .unset, .unset, .unset, .unset, .unset] [(.int (8 : Int32)), (.int i4), (.int (0 : Int32)), (.ref b7), (.ref b7)])
    refine Go.of (fun t k => XS.ishr X7.here hx rfl (hb hby at_100) rfl k) ?_
    show Go p e below Φ T7 (mkF m 101 #[.val (.int i0), .val (.int i1), .val (.int i2), .val (.int i3), .val (.int i4), .val (.int x5), .val (.int x14), .val (.int x23), .val (.int v36), .val (.int v49), .val (.int v62), .val (.ref b6), .unset, .unset, .unset, .unset, .unset] [(.int (i4 >>> ((8 : Int32) &&& 31))), (.int (0 : Int32)), (.ref b7), (.ref b7)])
    refine Go.of (fun t k => XS.i2b X7.here hx rfl (hb hby at_101) rfl k) ?_
    show Go p e below Φ T7 (mkF m 102 #[.val (.int i0), .val (.int i1), .val (.int i2), .val (.int i3), .val (.int i4), .val (.int x5), .val (.int x14), .val (.int x23), .val (.int v36), .val (.int v49), .val (.int v62), .val (.ref b6), .unset, .unset, .unset, .unset, .unset] [(.int ((i4 >>> ((8 : Int32) &&& 31)).toInt8.toInt32)), (.int (0 : Int32)), (.ref b7), (.ref b7)])
    obtain ⟨cl102, Ar102, q102, S102, N102, H102, G102⟩ := id V_b7
    have hin102 : ¬ ((0 : Int32) < 0 ∨ cl102.slots.size ≤ ((0 : Int32)).toNatClampNeg) := inb_of S102 ⟨by decide, by decide⟩
    obtain ⟨T8, h8, X8, e8, W8, st8⟩ := stB X7 hx hZ e7 Ar102 (j := (0 : Int32)) hin102 (g := (mkF m 102 #[.val (.int i0), .val (.int i1), .val (.int i2), .val (.int i3), .val (.int i4), .val (.int x5), .val (.int x14), .val (.int x23), .val (.int v36), .val (.int v49), .val (.int v62), .val (.ref b6), .unset, .unset, .unset, .unset, .unset] [(.int ((i4 >>> ((8 : Int32) &&& 31)).toInt8.toInt32)), (.int (0 : Int32)), (.ref b7), (.ref b7)])) rfl rfl (hb hby at_102)
    have V_b7 : Arv Z h8 b7 k7 .byte (1 : Int32) [(.int (nar .byte ((i4 >>> ((8 : Int32) &&& 31)).toInt8.toInt32)))] (.int (0 : Int32)) := Arv.set Ar102 q102 S102 N102 H102 G102 (fits_nar_byte _) W8 0 rfl (Nat.le_of_ble_eq_true rfl)
    have V_b4 := V_b4.other W8 ne_b4_b7
    have E_b6 := E_b6.wr W8
    have N8 := Fr.snoc X8 N6 g_b7
    have Z8 := Nat.le_trans Z7 (Keep.of_wr W8).1
    have O8 := O7.wr W8 g_b7
    obtain ⟨lc8, X8, N8⟩ : ∃ lc, Stand p l e room_1 s m #[(.int i0), (.int i1), (.int i2), (.int i3), (.int i4)] below meth c T8 lc 3 3 ∧ Fr n0 lc := ⟨_, X8, N8⟩
    refine Go.of st8 ?_
    show Go p e below Φ T8 (mkF m 103 #[.val (.int i0), .val (.int i1), .val (.int i2), .val (.int i3), .val (.int i4), .val (.int x5), .val (.int x14), .val (.int x23), .val (.int v36), .val (.int v49), .val (.int v62), .val (.ref b6), .unset, .unset, .unset, .unset, .unset] [(.ref b7)])
    obtain ⟨_, _, ⟨T9, L9, k9, n9⟩, -, X9, ⟨Lc9, hQ9, l9, y9, z9⟩, st9⟩ := Jvm.LawKit.callS X8 hx (y := (⟨"java/util/Optional", "of", "(Ljava/lang/Object;)Ljava/util/Optional;"⟩ : MethodName)) hown (mvT hZ (hw _ (List.mem_of_getElem? (i := 2) rfl))) (mvT hZ (hw _ (List.mem_of_getElem? (i := 3) rfl))) (mvT hZ (hw _ (List.mem_of_getElem? (i := 4) rfl))) (mvT hZ (hw _ (List.mem_of_getElem? (i := 5) rfl))) (by decide) (backOf (W := 0) (rm1 l Z a0 hw [] b7 h8 n0 Z8 ) hZ (hw _ (List.mem_of_getElem? (i := 5) rfl)) (hw _ (List.mem_of_getElem? (i := 4) rfl)) (by decide) (by decide)) (g := (mkF m 103 #[.val (.int i0), .val (.int i1), .val (.int i2), .val (.int i3), .val (.int i4), .val (.int x5), .val (.int x14), .val (.int x23), .val (.int v36), .val (.int v49), .val (.int v62), .val (.ref b6), .unset, .unset, .unset, .unset, .unset] [(.ref b7)])) rfl (by rw [hml]; rfl) (argsL := [(.ref b7)]) (rest := []) (lenOf own_pd2 rfl) rfl (by show 2 * 0 + _ ≤ _; exact Nat.le_of_eq rfl) (hb hby at_103) (fun _ _ => ⟨rfl, e8, (by decide : 3 + 1 ≤ _), (by decide : 3 + 1 ≤ _)⟩)
    dsimp only [Pt.U, Pt.locs, Pt.cells, Pt.slots] at X9 l9 y9 z9 st9 hQ9
    subst l9 y9 z9
    obtain ⟨b9, rfl, N9q, K9q, s9q, c9_0⟩ := hQ9
    have N9 := Fr.app N8 N9q
    obtain ⟨lc9, X9, N9⟩ : ∃ lc, Stand p l e room_1 s m #[(.int i0), (.int i1), (.int i2), (.int i3), (.int i4)] below meth c T9 lc 4 4 ∧ Fr n0 lc := ⟨_, X9, N9⟩
    have ne_b4_b9 : b4 ≠ b9 := Nat.ne_of_lt (Nat.lt_of_lt_of_le V_b4.lt s9q)
    have ne_b6_b9 : b6 ≠ b9 := Nat.ne_of_lt (Nat.lt_of_lt_of_le E_b6.lt s9q)
    have ne_b7_b9 : b7 ≠ b9 := Nat.ne_of_lt (Nat.lt_of_lt_of_le V_b7.lt s9q)
    have g_b9 : n0 ≤ b9 := Nat.le_trans Z8 s9q
    have V_b4 := V_b4.keep K9q nin0
    have E_b6 := E_b6.keep K9q
    have V_b7 := V_b7.keep K9q nin0
    have E_b9 := c9_0
    have Z9 := Nat.le_trans Z8 K9q.1
    have O9 := O8.keep K9q all0
    refine Go.of st9 ?_
    show Go p e below Φ T9 (mkF m 106 #[.val (.int i0), .val (.int i1), .val (.int i2), .val (.int i3), .val (.int i4), .val (.int x5), .val (.int x14), .val (.int x23), .val (.int v36), .val (.int v49), .val (.int v62), .val (.ref b6), .unset, .unset, .unset, .unset, .unset] [(.ref b9)])
    refine Go.of (fun t k => XS.astore X9.here hx rfl (hb hby at_106) rfl rfl (l' := #[.val (.int i0), .val (.int i1), .val (.int i2), .val (.int i3), .val (.int i4), .val (.int x5), .val (.int x14), .val (.int x23), .val (.int v36), .val (.int v49), .val (.int v62), .val (.ref b6), .val (.ref b9), .unset, .unset, .unset, .unset]) rfl k) ?_
    show Go p e below Φ T9 (mkF m 108 #[.val (.int i0), .val (.int i1), .val (.int i2), .val (.int i3), .val (.int i4), .val (.int x5), .val (.int x14), .val (.int x23), .val (.int v36), .val (.int v49), .val (.int v62), .val (.ref b6), .val (.ref b9), .unset, .unset, .unset, .unset] [])
    obtain ⟨T10, h10, X10, e10, E10, A10, D10, -, st10⟩ := newO X9 hx hZ hown (hw _ (List.mem_of_getElem? (i := 21) rfl)) (hw _ (List.mem_of_getElem? (i := 22) rfl)) (hw _ (List.mem_of_getElem? (i := 23) rfl)) rfl (g := (mkF m 108 #[.val (.int i0), .val (.int i1), .val (.int i2), .val (.int i3), .val (.int i4), .val (.int x5), .val (.int x14), .val (.int x23), .val (.int v36), .val (.int v49), .val (.int v62), .val (.ref b6), .val (.ref b9), .unset, .unset, .unset, .unset] [])) rfl (hb hby at_108) (by decide) (by decide)
    obtain ⟨b10, g10⟩ : ∃ z, z = T9.heap.size := ⟨_, rfl⟩
    rw [← g10] at A10 D10 st10
    have ne_b4_b10 : b4 ≠ b10 := Nat.ne_of_lt (Nat.lt_of_lt_of_le V_b4.lt (Nat.le_of_eq g10.symm))
    have ne_b6_b10 : b6 ≠ b10 := Nat.ne_of_lt (Nat.lt_of_lt_of_le E_b6.lt (Nat.le_of_eq g10.symm))
    have ne_b7_b10 : b7 ≠ b10 := Nat.ne_of_lt (Nat.lt_of_lt_of_le V_b7.lt (Nat.le_of_eq g10.symm))
    have ne_b9_b10 : b9 ≠ b10 := Nat.ne_of_lt (Nat.lt_of_lt_of_le E_b9.lt (Nat.le_of_eq g10.symm))
    have g_b10 : n0 ≤ b10 := Nat.le_trans Z9 (Nat.le_of_eq g10.symm)
    have Z10 := Nat.le_trans Z9 E10.1
    have O10 := O9.ext E10
    have V_b4 := V_b4.ext E10
    have E_b6 := E_b6.ext E10
    have V_b7 := V_b7.ext E10
    have E_b9 := E_b9.ext E10
    have E_b10 := A10
    have F_b10_numbers : Fld Z h10 b10 "com/example/compact_commits/compactcommits/transactions/VersionsFound" "numbers" "[I" .null := D10 (Or.inr (hw _ (List.mem_of_getElem? (i := 30) rfl))) (ty := (.array .int)) (by decide)
    have F_b10_keys : Fld Z h10 b10 "com/example/compact_commits/compactcommits/transactions/VersionsFound" "keys" "[[B" .null := D10 (Or.inr (hw _ (List.mem_of_getElem? (i := 34) rfl))) (ty := (.array (.array .byte))) (by decide)
    have F_b10_cellKeyLengths : Fld Z h10 b10 "com/example/compact_commits/compactcommits/transactions/VersionsFound" "cellKeyLengths" "[I" .null := D10 (Or.inr (hw _ (List.mem_of_getElem? (i := 36) rfl))) (ty := (.array .int)) (by decide)
    have F_b10_values : Fld Z h10 b10 "com/example/compact_commits/compactcommits/transactions/VersionsFound" "values" "[Ljava/util/Optional;" .null := D10 (Or.inr (hw _ (List.mem_of_getElem? (i := 40) rfl))) (ty := (.array (.object "java/util/Optional"))) (by decide)
    have F_b10_undecoded : Fld Z h10 b10 "com/example/compact_commits/compactcommits/transactions/VersionsFound" "undecoded" "[Lcom/example/compact_commits/compactcommits/StoreException;" .null := D10 (Or.inr (hw _ (List.mem_of_getElem? (i := 44) rfl))) (ty := (.array (.object "com/example/compact_commits/compactcommits/StoreException"))) (by decide)
    have F_b10_writerOf : Fld Z h10 b10 "com/example/compact_commits/compactcommits/transactions/VersionsFound" "writerOf" "[I" .null := D10 (Or.inr (hw _ (List.mem_of_getElem? (i := 46) rfl))) (ty := (.array .int)) (by decide)
    have F_b10_writers : Fld Z h10 b10 "com/example/compact_commits/compactcommits/transactions/VersionsFound" "writers" "[J" .null := D10 (Or.inr (hw _ (List.mem_of_getElem? (i := 49) rfl))) (ty := (.array .long)) (by decide)
    have F_b10_answers : Fld Z h10 b10 "com/example/compact_commits/compactcommits/transactions/VersionsFound" "answers" "[Ljava/util/Optional;" .null := D10 (Or.inr (hw _ (List.mem_of_getElem? (i := 51) rfl))) (ty := (.array (.object "java/util/Optional"))) (by decide)
    have F_b10_failures : Fld Z h10 b10 "com/example/compact_commits/compactcommits/transactions/VersionsFound" "failures" "[Lcom/example/compact_commits/compactcommits/StoreException;" .null := D10 (Or.inr (hw _ (List.mem_of_getElem? (i := 53) rfl))) (ty := (.array (.object "com/example/compact_commits/compactcommits/StoreException"))) (by decide)
    refine Go.of st10 ?_
    show Go p e below Φ T10 (mkF m 111 #[.val (.int i0), .val (.int i1), .val (.int i2), .val (.int i3), .val (.int i4), .val (.int x5), .val (.int x14), .val (.int x23), .val (.int v36), .val (.int v49), .val (.int v62), .val (.ref b6), .val (.ref b9), .unset, .unset, .unset, .unset] [(.ref b10)])
    refine Go.of (fun t k => XS.dup X10.here hx rfl (hb hby at_111) rfl rfl k) ?_
    show Go p e below Φ T10 (mkF m 112 #[.val (.int i0), .val (.int i1), .val (.int i2), .val (.int i3), .val (.int i4), .val (.int x5), .val (.int x14), .val (.int x23), .val (.int v36), .val (.int v49), .val (.int v62), .val (.ref b6), .val (.ref b9), .unset, .unset, .unset, .unset] [(.ref b10), (.ref b10)])
    refine Go.of (fun t k => XS.iload X10.here hx rfl (hb hby at_112) rfl  k) ?_
    show Go p e below Φ T10 (mkF m 114 #[.val (.int i0), .val (.int i1), .val (.int i2), .val (.int i3), .val (.int i4), .val (.int x5), .val (.int x14), .val (.int x23), .val (.int v36), .val (.int v49), .val (.int v62), .val (.ref b6), .val (.ref b9), .unset, .unset, .unset, .unset] [(.int x5), (.ref b10), (.ref b10)])
    obtain ⟨_, _, ⟨T11, L11, k11, n11⟩, -, X11, ⟨Lc11, hQ11, l11, y11, z11⟩, st11⟩ := X10.specialBack hx (y := (⟨"com/example/compact_commits/compactcommits/transactions/VersionsFound", "<init>", "(I)V"⟩ : MethodName)) rfl hown (mvT hZ (hw _ (List.mem_of_getElem? (i := 24) rfl))) (mvT hZ (hw _ (List.mem_of_getElem? (i := 25) rfl))) (mvT hZ (hw _ (List.mem_of_getElem? (i := 26) rfl))) (by decide) (backOf (W := 1) (rm5 l Z a0 hw [] b10 x5 .null .null .null .null .null .null .null .null .null h10 n0 Z10 F_b10_numbers F_b10_keys F_b10_cellKeyLengths F_b10_values F_b10_undecoded F_b10_writerOf F_b10_writers F_b10_answers F_b10_failures E_b10 g_b10 (own_cap i0 x5 hx5).1 (own_cap i0 x5 hx5).2.1) hZ (hw _ (List.mem_of_getElem? (i := 26) rfl)) (hw _ (List.mem_of_getElem? (i := 23) rfl)) (by decide) (by decide)) (g := (mkF m 114 #[.val (.int i0), .val (.int i1), .val (.int i2), .val (.int i3), .val (.int i4), .val (.int x5), .val (.int x14), .val (.int x23), .val (.int v36), .val (.int v49), .val (.int v62), .val (.ref b6), .val (.ref b9), .unset, .unset, .unset, .unset] [(.int x5), (.ref b10), (.ref b10)])) rfl (by rw [hml]; rfl) (Steps.refl _) (a := b10) (argsL := [(.int x5)]) (rest := [(.ref b10)]) (lenOf own_pd3 rfl) rfl (by show 2 * 0 + _ ≤ _; exact Nat.le_of_eq rfl) (hb hby at_114) (fun _ _ => ⟨rfl, e10, (by decide : 5 + 9 ≤ _), (by decide : 16 + 36 ≤ _)⟩)
    dsimp only [Pt.U, Pt.locs, Pt.cells, Pt.slots] at X11 l11 y11 z11 st11 hQ11
    subst l11 y11 z11
    obtain ⟨b11a, b11f, k11a, k11f, rfl, N11q, K11q, cE11, cA11, cF11, cV11, Ov11, cW11, s11a, s11f, ne11⟩ := hQ11
    have N11 := Fr.app N9 N11q
    obtain ⟨lc11, X11, N11⟩ : ∃ lc, Stand p l e room_1 s m #[(.int i0), (.int i1), (.int i2), (.int i3), (.int i4)] below meth c T11 lc 14 52 ∧ Fr n0 lc := ⟨_, X11, N11⟩
    have ne_b4_b11a : b4 ≠ b11a := Nat.ne_of_lt (Nat.lt_of_lt_of_le V_b4.lt s11a)
    have ne_b6_b11a : b6 ≠ b11a := Nat.ne_of_lt (Nat.lt_of_lt_of_le E_b6.lt s11a)
    have ne_b7_b11a : b7 ≠ b11a := Nat.ne_of_lt (Nat.lt_of_lt_of_le V_b7.lt s11a)
    have ne_b9_b11a : b9 ≠ b11a := Nat.ne_of_lt (Nat.lt_of_lt_of_le E_b9.lt s11a)
    have ne_b10_b11a : b10 ≠ b11a := Nat.ne_of_lt (Nat.lt_of_lt_of_le E_b10.lt s11a)
    have g_b11a : n0 ≤ b11a := Nat.le_trans Z10 s11a
    have ne_b4_b11f : b4 ≠ b11f := Nat.ne_of_lt (Nat.lt_of_lt_of_le V_b4.lt s11f)
    have ne_b6_b11f : b6 ≠ b11f := Nat.ne_of_lt (Nat.lt_of_lt_of_le E_b6.lt s11f)
    have ne_b7_b11f : b7 ≠ b11f := Nat.ne_of_lt (Nat.lt_of_lt_of_le V_b7.lt s11f)
    have ne_b9_b11f : b9 ≠ b11f := Nat.ne_of_lt (Nat.lt_of_lt_of_le E_b9.lt s11f)
    have ne_b10_b11f : b10 ≠ b11f := Nat.ne_of_lt (Nat.lt_of_lt_of_le E_b10.lt s11f)
    have g_b11f : n0 ≤ b11f := Nat.le_trans Z10 s11f
    have V_b4 := V_b4.keep K11q (ninS ne_b4_b10 nin0)
    have E_b6 := E_b6.keep K11q
    have V_b7 := V_b7.keep K11q (ninS ne_b7_b10 nin0)
    have E_b9 := E_b9.keep K11q
    have E_b10 := cE11
    have F_b10_answers := cA11
    have F_b10_failures := cF11
    have V_b11a := cV11
    have V_b11f := cW11
    have Z11 := Nat.le_trans Z10 K11q.1
    have O11 := O10.keep K11q (allS g_b10 all0)
    refine Go.tr st11 ?_
    show Go p e below Φ T11 (mkF m 117 #[.val (.int i0), .val (.int i1), .val (.int i2), .val (.int i3), .val (.int i4), .val (.int x5), .val (.int x14), .val (.int x23), .val (.int v36), .val (.int v49), .val (.int v62), .val (.ref b6), .val (.ref b9), .unset, .unset, .unset, .unset] [(.ref b10)])
    refine Go.of (fun t k => XS.astore X11.here hx rfl (hb hby at_117) rfl rfl (l' := #[.val (.int i0), .val (.int i1), .val (.int i2), .val (.int i3), .val (.int i4), .val (.int x5), .val (.int x14), .val (.int x23), .val (.int v36), .val (.int v49), .val (.int v62), .val (.ref b6), .val (.ref b9), .val (.ref b10), .unset, .unset, .unset]) rfl k) ?_
    show Go p e below Φ T11 (mkF m 119 #[.val (.int i0), .val (.int i1), .val (.int i2), .val (.int i3), .val (.int i4), .val (.int x5), .val (.int x14), .val (.int x23), .val (.int v36), .val (.int v49), .val (.int v62), .val (.ref b6), .val (.ref b9), .val (.ref b10), .unset, .unset, .unset] [])
    refine Go.of (fun t k => XS.iload X11.here hx rfl (hb hby at_119) rfl  k) ?_
    show Go p e below Φ T11 (mkF m 121 #[.val (.int i0), .val (.int i1), .val (.int i2), .val (.int i3), .val (.int i4), .val (.int x5), .val (.int x14), .val (.int x23), .val (.int v36), .val (.int v49), .val (.int v62), .val (.ref b6), .val (.ref b9), .val (.ref b10), .unset, .unset, .unset] [(.int v36)])
    suffices j133_12 : ∀ (T12 : State) (h12 : Heap) (lc12 : List Loc), Stand p l e room_1 s m #[(.int i0), (.int i1), (.int i2), (.int i3), (.int i4)] below meth c T12 lc12 14 52 → T12.heap = h12 → Fr n0 lc12 → n0 ≤ h12.size → Old Z n0 h12 → ∀ u133_b11a : List (Int32 × Value), u133_b11a = (if v36 = (0 : Int32) then [] else ((x14, .ref b6) :: [])) → (Arv Z h12 b4 k4 .byte (1 : Int32) [(.int (nar .byte (i4.toInt8.toInt32)))] (.int (0 : Int32))) → (Exa Z h12 b6 "java/util/Optional") → (Arv Z h12 b7 k7 .byte (1 : Int32) [(.int (nar .byte ((i4 >>> ((8 : Int32) &&& 31)).toInt8.toInt32)))] (.int (0 : Int32))) → (Exa Z h12 b9 "java/util/Optional") → (Exa Z h12 b10 "com/example/compact_commits/compactcommits/transactions/VersionsFound") → (Fld Z h12 b10 "com/example/compact_commits/compactcommits/transactions/VersionsFound" "answers" "[Ljava/util/Optional;" (.ref b11a)) → (Fld Z h12 b10 "com/example/compact_commits/compactcommits/transactions/VersionsFound" "failures" "[Lcom/example/compact_commits/compactcommits/StoreException;" (.ref b11f)) → (Arh Z h12 b11a k11a (.object "java/util/Optional") x5 u133_b11a [] .null) → (Arh Z h12 b11f k11f (.object "com/example/compact_commits/compactcommits/StoreException") x5 [] [] .null) → Go p e below Φ T12 (mkF m 133 #[.val (.int i0), .val (.int i1), .val (.int i2), .val (.int i3), .val (.int i4), .val (.int x5), .val (.int x14), .val (.int x23), .val (.int v36), .val (.int v49), .val (.int v62), .val (.ref b6), .val (.ref b9), .val (.ref b10), .unset, .unset, .unset] []) by
      by_cases hc121 : v36 = (0 : Int32)
      · refine Go.of (fun t k => XS.ifYes X11.here hx rfl (pc0 := 121) (pc' := 133) rfl (hb hby at_121) rfl (XT.i0_eq_t hc121) (by decide) (by decide) k) ?_
        show Go p e below Φ T11 (mkF m 133 #[.val (.int i0), .val (.int i1), .val (.int i2), .val (.int i3), .val (.int i4), .val (.int x5), .val (.int x14), .val (.int x23), .val (.int v36), .val (.int v49), .val (.int v62), .val (.ref b6), .val (.ref b9), .val (.ref b10), .unset, .unset, .unset] [])
        exact j133_12 _ _ _ (X11.more (by decide) (by decide)) rfl N11 Z11 O11 _ (by rw [if_pos hc121]) V_b4 E_b6 V_b7 E_b9 E_b10 F_b10_answers F_b10_failures V_b11a V_b11f
      · refine Go.of (fun t k => XS.ifNo X11.here hx rfl (hb hby at_121) rfl (XT.i0_eq_f hc121) k) ?_
        show Go p e below Φ T11 (mkF m 124 #[.val (.int i0), .val (.int i1), .val (.int i2), .val (.int i3), .val (.int i4), .val (.int x5), .val (.int x14), .val (.int x23), .val (.int v36), .val (.int v49), .val (.int v62), .val (.ref b6), .val (.ref b9), .val (.ref b10), .unset, .unset, .unset] [])
        refine Go.of (fun t k => XS.aload X11.here hx rfl (hb hby at_124) rfl rfl  k) ?_
        show Go p e below Φ T11 (mkF m 126 #[.val (.int i0), .val (.int i1), .val (.int i2), .val (.int i3), .val (.int i4), .val (.int x5), .val (.int x14), .val (.int x23), .val (.int v36), .val (.int v49), .val (.int v62), .val (.ref b6), .val (.ref b9), .val (.ref b10), .unset, .unset, .unset] [(.ref b10)])
        refine Go.of (fun t k => XS.iload X11.here hx rfl (hb hby at_126) rfl  k) ?_
        show Go p e below Φ T11 (mkF m 128 #[.val (.int i0), .val (.int i1), .val (.int i2), .val (.int i3), .val (.int i4), .val (.int x5), .val (.int x14), .val (.int x23), .val (.int v36), .val (.int v49), .val (.int v62), .val (.ref b6), .val (.ref b9), .val (.ref b10), .unset, .unset, .unset] [(.int x14), (.ref b10)])
        refine Go.of (fun t k => XS.aload X11.here hx rfl (hb hby at_128) rfl rfl  k) ?_
        show Go p e below Φ T11 (mkF m 130 #[.val (.int i0), .val (.int i1), .val (.int i2), .val (.int i3), .val (.int i4), .val (.int x5), .val (.int x14), .val (.int x23), .val (.int v36), .val (.int v49), .val (.int v62), .val (.ref b6), .val (.ref b9), .val (.ref b10), .unset, .unset, .unset] [(.ref b6), (.int x14), (.ref b10)])
        obtain ⟨cq13, kq13, q13a, q13b, q13c⟩ := isOf hZ rfl E_b10
        obtain ⟨_, _, ⟨T13, L13, k13, n13⟩, -, X13, ⟨Lc13, hQ13, l13, y13, z13⟩, st13⟩ := X11.virtualBack hx (y := (⟨"com/example/compact_commits/compactcommits/transactions/VersionsFound", "answer", "(ILjava/util/Optional;)V"⟩ : MethodName)) (z := (⟨"com/example/compact_commits/compactcommits/transactions/VersionsFound", "answer", "(ILjava/util/Optional;)V"⟩ : MethodName)) hown (mvT hZ (hw _ (List.mem_of_getElem? (i := 54) rfl))) (mvT hZ (hw _ (List.mem_of_getElem? (i := 55) rfl))) (notFace_of_selects (args := #[]) (mvT hZ (hw _ (List.mem_of_getElem? (i := 57) rfl)))) (mvT hZ (hw _ (List.mem_of_getElem? (i := 57) rfl))) (mvT hZ (hw _ (List.mem_of_getElem? (i := 56) rfl))) (by decide) (backOf (W := 0) (rm6 l Z a0 hw [] b10 x14 b6 b11a k11a x5 [] T11.heap n0 Z11 F_b10_answers V_b11a Ov11 (own_idx i0 i1 x5 x14 hx5 hx14) E_b6 g_b11a ne_b10_b11a) hZ (hw _ (List.mem_of_getElem? (i := 58) rfl)) (hw _ (List.mem_of_getElem? (i := 23) rfl)) (by decide) (by decide)) q13a q13c (g := (mkF m 130 #[.val (.int i0), .val (.int i1), .val (.int i2), .val (.int i3), .val (.int i4), .val (.int x5), .val (.int x14), .val (.int x23), .val (.int v36), .val (.int v49), .val (.int v62), .val (.ref b6), .val (.ref b9), .val (.ref b10), .unset, .unset, .unset] [(.ref b6), (.int x14), (.ref b10)])) rfl (by rw [hml]; rfl) (Steps.refl _) (argsL := [(.int x14), (.ref b6)]) (rest := []) (lenOf own_pd4 rfl) rfl (by show 2 * 0 + _ ≤ _; exact Nat.le_of_eq rfl) (hb hby at_130) (fun _ _ => ⟨rfl, rfl, (by decide : 14 + 0 ≤ _), (by decide : 52 + 0 ≤ _)⟩)
        dsimp only [Pt.U, Pt.locs, Pt.cells, Pt.slots] at X13 l13 y13 z13 st13 hQ13
        subst l13 y13 z13
        obtain ⟨rfl, N13q, K13q, cV13⟩ := hQ13
        have N13 := Fr.app N11 N13q
        obtain ⟨lc13, X13, N13⟩ : ∃ lc, Stand p l e room_1 s m #[(.int i0), (.int i1), (.int i2), (.int i3), (.int i4)] below meth c T13 lc 14 52 ∧ Fr n0 lc := ⟨_, X13, N13⟩
        have V_b4 := V_b4.keep K13q (ninS ne_b4_b11a nin0)
        have E_b6 := E_b6.keep K13q
        have V_b7 := V_b7.keep K13q (ninS ne_b7_b11a nin0)
        have E_b9 := E_b9.keep K13q
        have E_b10 := E_b10.keep K13q
        have F_b10_answers := F_b10_answers.keep K13q (ninS ne_b10_b11a nin0)
        have F_b10_failures := F_b10_failures.keep K13q (ninS ne_b10_b11a nin0)
        have V_b11f := V_b11f.keep K13q (ninS (Ne.symm ne11) nin0)
        have Z13 := Nat.le_trans Z11 K13q.1
        have O13 := O11.keep K13q (allS g_b11a all0)
        have V_b11a := cV13
        refine Go.tr st13 ?_
        show Go p e below Φ T13 (mkF m 133 #[.val (.int i0), .val (.int i1), .val (.int i2), .val (.int i3), .val (.int i4), .val (.int x5), .val (.int x14), .val (.int x23), .val (.int v36), .val (.int v49), .val (.int v62), .val (.ref b6), .val (.ref b9), .val (.ref b10), .unset, .unset, .unset] [])
        exact j133_12 _ _ _ (X13.more (by decide) (by decide)) rfl N13 Z13 O13 _ (by rw [if_neg hc121]) V_b4 E_b6 V_b7 E_b9 E_b10 F_b10_answers F_b10_failures V_b11a V_b11f
    intro T12 h12 lc12 X12 e12 N12 Z12 O12 u133_b11a hu133_b11a V_b4 E_b6 V_b7 E_b9 E_b10 F_b10_answers F_b10_failures V_b11a V_b11f
    show Go p e below Φ T12 (mkF m 133 #[.val (.int i0), .val (.int i1), .val (.int i2), .val (.int i3), .val (.int i4), .val (.int x5), .val (.int x14), .val (.int x23), .val (.int v36), .val (.int v49), .val (.int v62), .val (.ref b6), .val (.ref b9), .val (.ref b10), .unset, .unset, .unset] [])
    refine Go.of (fun t k => XS.iload X12.here hx rfl (hb hby at_133) rfl  k) ?_
    show Go p e below Φ T12 (mkF m 135 #[.val (.int i0), .val (.int i1), .val (.int i2), .val (.int i3), .val (.int i4), .val (.int x5), .val (.int x14), .val (.int x23), .val (.int v36), .val (.int v49), .val (.int v62), .val (.ref b6), .val (.ref b9), .val (.ref b10), .unset, .unset, .unset] [(.int v49)])
    suffices j147_14 : ∀ (T14 : State) (h14 : Heap) (lc14 : List Loc), Stand p l e room_1 s m #[(.int i0), (.int i1), (.int i2), (.int i3), (.int i4)] below meth c T14 lc14 14 52 → T14.heap = h14 → Fr n0 lc14 → n0 ≤ h14.size → Old Z n0 h14 → ∀ u147_b11a : List (Int32 × Value), u147_b11a = (if v49 = (0 : Int32) then u133_b11a else ((x23, .ref b9) :: u133_b11a)) → (Arv Z h14 b4 k4 .byte (1 : Int32) [(.int (nar .byte (i4.toInt8.toInt32)))] (.int (0 : Int32))) → (Exa Z h14 b6 "java/util/Optional") → (Arv Z h14 b7 k7 .byte (1 : Int32) [(.int (nar .byte ((i4 >>> ((8 : Int32) &&& 31)).toInt8.toInt32)))] (.int (0 : Int32))) → (Exa Z h14 b9 "java/util/Optional") → (Exa Z h14 b10 "com/example/compact_commits/compactcommits/transactions/VersionsFound") → (Fld Z h14 b10 "com/example/compact_commits/compactcommits/transactions/VersionsFound" "answers" "[Ljava/util/Optional;" (.ref b11a)) → (Fld Z h14 b10 "com/example/compact_commits/compactcommits/transactions/VersionsFound" "failures" "[Lcom/example/compact_commits/compactcommits/StoreException;" (.ref b11f)) → (Arh Z h14 b11a k11a (.object "java/util/Optional") x5 u147_b11a [] .null) → (Arh Z h14 b11f k11f (.object "com/example/compact_commits/compactcommits/StoreException") x5 [] [] .null) → Go p e below Φ T14 (mkF m 147 #[.val (.int i0), .val (.int i1), .val (.int i2), .val (.int i3), .val (.int i4), .val (.int x5), .val (.int x14), .val (.int x23), .val (.int v36), .val (.int v49), .val (.int v62), .val (.ref b6), .val (.ref b9), .val (.ref b10), .unset, .unset, .unset] []) by
      by_cases hc135 : v49 = (0 : Int32)
      · refine Go.of (fun t k => XS.ifYes X12.here hx rfl (pc0 := 135) (pc' := 147) rfl (hb hby at_135) rfl (XT.i0_eq_t hc135) (by decide) (by decide) k) ?_
        show Go p e below Φ T12 (mkF m 147 #[.val (.int i0), .val (.int i1), .val (.int i2), .val (.int i3), .val (.int i4), .val (.int x5), .val (.int x14), .val (.int x23), .val (.int v36), .val (.int v49), .val (.int v62), .val (.ref b6), .val (.ref b9), .val (.ref b10), .unset, .unset, .unset] [])
        exact j147_14 _ _ _ (X12.more (by decide) (by decide)) e12 N12 Z12 O12 _ (by rw [if_pos hc135]) V_b4 E_b6 V_b7 E_b9 E_b10 F_b10_answers F_b10_failures V_b11a V_b11f
      · refine Go.of (fun t k => XS.ifNo X12.here hx rfl (hb hby at_135) rfl (XT.i0_eq_f hc135) k) ?_
        show Go p e below Φ T12 (mkF m 138 #[.val (.int i0), .val (.int i1), .val (.int i2), .val (.int i3), .val (.int i4), .val (.int x5), .val (.int x14), .val (.int x23), .val (.int v36), .val (.int v49), .val (.int v62), .val (.ref b6), .val (.ref b9), .val (.ref b10), .unset, .unset, .unset] [])
        refine Go.of (fun t k => XS.aload X12.here hx rfl (hb hby at_138) rfl rfl  k) ?_
        show Go p e below Φ T12 (mkF m 140 #[.val (.int i0), .val (.int i1), .val (.int i2), .val (.int i3), .val (.int i4), .val (.int x5), .val (.int x14), .val (.int x23), .val (.int v36), .val (.int v49), .val (.int v62), .val (.ref b6), .val (.ref b9), .val (.ref b10), .unset, .unset, .unset] [(.ref b10)])
        refine Go.of (fun t k => XS.iload X12.here hx rfl (hb hby at_140) rfl  k) ?_
        show Go p e below Φ T12 (mkF m 142 #[.val (.int i0), .val (.int i1), .val (.int i2), .val (.int i3), .val (.int i4), .val (.int x5), .val (.int x14), .val (.int x23), .val (.int v36), .val (.int v49), .val (.int v62), .val (.ref b6), .val (.ref b9), .val (.ref b10), .unset, .unset, .unset] [(.int x23), (.ref b10)])
        refine Go.of (fun t k => XS.aload X12.here hx rfl (hb hby at_142) rfl rfl  k) ?_
        show Go p e below Φ T12 (mkF m 144 #[.val (.int i0), .val (.int i1), .val (.int i2), .val (.int i3), .val (.int i4), .val (.int x5), .val (.int x14), .val (.int x23), .val (.int v36), .val (.int v49), .val (.int v62), .val (.ref b6), .val (.ref b9), .val (.ref b10), .unset, .unset, .unset] [(.ref b9), (.int x23), (.ref b10)])
        obtain ⟨cq15, kq15, q15a, q15b, q15c⟩ := isOf hZ e12 E_b10
        obtain ⟨_, _, ⟨T15, L15, k15, n15⟩, -, X15, ⟨Lc15, hQ15, l15, y15, z15⟩, st15⟩ := X12.virtualBack hx (y := (⟨"com/example/compact_commits/compactcommits/transactions/VersionsFound", "answer", "(ILjava/util/Optional;)V"⟩ : MethodName)) (z := (⟨"com/example/compact_commits/compactcommits/transactions/VersionsFound", "answer", "(ILjava/util/Optional;)V"⟩ : MethodName)) hown (mvT hZ (hw _ (List.mem_of_getElem? (i := 54) rfl))) (mvT hZ (hw _ (List.mem_of_getElem? (i := 55) rfl))) (notFace_of_selects (args := #[]) (mvT hZ (hw _ (List.mem_of_getElem? (i := 57) rfl)))) (mvT hZ (hw _ (List.mem_of_getElem? (i := 57) rfl))) (mvT hZ (hw _ (List.mem_of_getElem? (i := 56) rfl))) (by decide) (backOf (W := 0) (rm6 l Z a0 hw [] b10 x23 b9 b11a k11a x5 u133_b11a h12 n0 Z12 F_b10_answers V_b11a Ov11 (own_idx i0 i2 x5 x23 hx5 hx23) E_b9 g_b11a ne_b10_b11a) hZ (hw _ (List.mem_of_getElem? (i := 58) rfl)) (hw _ (List.mem_of_getElem? (i := 23) rfl)) (by decide) (by decide)) q15a q15c (g := (mkF m 144 #[.val (.int i0), .val (.int i1), .val (.int i2), .val (.int i3), .val (.int i4), .val (.int x5), .val (.int x14), .val (.int x23), .val (.int v36), .val (.int v49), .val (.int v62), .val (.ref b6), .val (.ref b9), .val (.ref b10), .unset, .unset, .unset] [(.ref b9), (.int x23), (.ref b10)])) rfl (by rw [hml]; rfl) (Steps.refl _) (argsL := [(.int x23), (.ref b9)]) (rest := []) (lenOf own_pd4 rfl) rfl (by show 2 * 0 + _ ≤ _; exact Nat.le_of_eq rfl) (hb hby at_144) (fun _ _ => ⟨rfl, e12, (by decide : 14 + 0 ≤ _), (by decide : 52 + 0 ≤ _)⟩)
        dsimp only [Pt.U, Pt.locs, Pt.cells, Pt.slots] at X15 l15 y15 z15 st15 hQ15
        subst l15 y15 z15
        obtain ⟨rfl, N15q, K15q, cV15⟩ := hQ15
        have N15 := Fr.app N12 N15q
        obtain ⟨lc15, X15, N15⟩ : ∃ lc, Stand p l e room_1 s m #[(.int i0), (.int i1), (.int i2), (.int i3), (.int i4)] below meth c T15 lc 14 52 ∧ Fr n0 lc := ⟨_, X15, N15⟩
        have V_b4 := V_b4.keep K15q (ninS ne_b4_b11a nin0)
        have E_b6 := E_b6.keep K15q
        have V_b7 := V_b7.keep K15q (ninS ne_b7_b11a nin0)
        have E_b9 := E_b9.keep K15q
        have E_b10 := E_b10.keep K15q
        have F_b10_answers := F_b10_answers.keep K15q (ninS ne_b10_b11a nin0)
        have F_b10_failures := F_b10_failures.keep K15q (ninS ne_b10_b11a nin0)
        have V_b11f := V_b11f.keep K15q (ninS (Ne.symm ne11) nin0)
        have Z15 := Nat.le_trans Z12 K15q.1
        have O15 := O12.keep K15q (allS g_b11a all0)
        have V_b11a := cV15
        refine Go.tr st15 ?_
        show Go p e below Φ T15 (mkF m 147 #[.val (.int i0), .val (.int i1), .val (.int i2), .val (.int i3), .val (.int i4), .val (.int x5), .val (.int x14), .val (.int x23), .val (.int v36), .val (.int v49), .val (.int v62), .val (.ref b6), .val (.ref b9), .val (.ref b10), .unset, .unset, .unset] [])
        exact j147_14 _ _ _ (X15.more (by decide) (by decide)) rfl N15 Z15 O15 _ (by rw [if_neg hc135]) V_b4 E_b6 V_b7 E_b9 E_b10 F_b10_answers F_b10_failures V_b11a V_b11f
    intro T14 h14 lc14 X14 e14 N14 Z14 O14 u147_b11a hu147_b11a V_b4 E_b6 V_b7 E_b9 E_b10 F_b10_answers F_b10_failures V_b11a V_b11f
    show Go p e below Φ T14 (mkF m 147 #[.val (.int i0), .val (.int i1), .val (.int i2), .val (.int i3), .val (.int i4), .val (.int x5), .val (.int x14), .val (.int x23), .val (.int v36), .val (.int v49), .val (.int v62), .val (.ref b6), .val (.ref b9), .val (.ref b10), .unset, .unset, .unset] [])
    refine Go.of (fun t k => XS.iload X14.here hx rfl (hb hby at_147) rfl  k) ?_
    show Go p e below Φ T14 (mkF m 149 #[.val (.int i0), .val (.int i1), .val (.int i2), .val (.int i3), .val (.int i4), .val (.int x5), .val (.int x14), .val (.int x23), .val (.int v36), .val (.int v49), .val (.int v62), .val (.ref b6), .val (.ref b9), .val (.ref b10), .unset, .unset, .unset] [(.int x14)])
    refine Go.of (fun t k => XS.iload X14.here hx rfl (hb hby at_149) rfl  k) ?_
    show Go p e below Φ T14 (mkF m 151 #[.val (.int i0), .val (.int i1), .val (.int i2), .val (.int i3), .val (.int i4), .val (.int x5), .val (.int x14), .val (.int x23), .val (.int v36), .val (.int v49), .val (.int v62), .val (.ref b6), .val (.ref b9), .val (.ref b10), .unset, .unset, .unset] [(.int x23), (.int x14)])
    suffices j159_16 :  ∀ v159 : Int32, v159 = (if x14 = x23 then (1 : Int32) else (0 : Int32)) → Go p e below Φ T14 (mkF m 159 #[.val (.int i0), .val (.int i1), .val (.int i2), .val (.int i3), .val (.int i4), .val (.int x5), .val (.int x14), .val (.int x23), .val (.int v36), .val (.int v49), .val (.int v62), .val (.ref b6), .val (.ref b9), .val (.ref b10), .unset, .unset, .unset] [(.int v159)]) by
      by_cases hc151 : x14 = x23
      · refine Go.of (fun t k => XS.icmpNo X14.here hx rfl (hb hby at_151) rfl (XT.ii_ne_f hc151) k) ?_
        show Go p e below Φ T14 (mkF m 154 #[.val (.int i0), .val (.int i1), .val (.int i2), .val (.int i3), .val (.int i4), .val (.int x5), .val (.int x14), .val (.int x23), .val (.int v36), .val (.int v49), .val (.int v62), .val (.ref b6), .val (.ref b9), .val (.ref b10), .unset, .unset, .unset] [])
        refine Go.of (fun t k => XS.iconst X14.here hx rfl (hb hby at_154) k) ?_
        show Go p e below Φ T14 (mkF m 155 #[.val (.int i0), .val (.int i1), .val (.int i2), .val (.int i3), .val (.int i4), .val (.int x5), .val (.int x14), .val (.int x23), .val (.int v36), .val (.int v49), .val (.int v62), .val (.ref b6), .val (.ref b9), .val (.ref b10), .unset, .unset, .unset] [(.int (1 : Int32))])
        refine Go.of (fun t k => XS.goto X14.here hx rfl (pc0 := 155) (pc' := 159) rfl (hb hby at_155) (by decide) (by decide) k) ?_
        show Go p e below Φ T14 (mkF m 159 #[.val (.int i0), .val (.int i1), .val (.int i2), .val (.int i3), .val (.int i4), .val (.int x5), .val (.int x14), .val (.int x23), .val (.int v36), .val (.int v49), .val (.int v62), .val (.ref b6), .val (.ref b9), .val (.ref b10), .unset, .unset, .unset] [(.int (1 : Int32))])
        exact j159_16 _ (by rw [if_pos hc151])
      · refine Go.of (fun t k => XS.icmpYes X14.here hx rfl (pc0 := 151) (pc' := 158) rfl (hb hby at_151) rfl (XT.ii_ne_t hc151) (by decide) (by decide) k) ?_
        show Go p e below Φ T14 (mkF m 158 #[.val (.int i0), .val (.int i1), .val (.int i2), .val (.int i3), .val (.int i4), .val (.int x5), .val (.int x14), .val (.int x23), .val (.int v36), .val (.int v49), .val (.int v62), .val (.ref b6), .val (.ref b9), .val (.ref b10), .unset, .unset, .unset] [])
        refine Go.of (fun t k => XS.iconst X14.here hx rfl (hb hby at_158) k) ?_
        show Go p e below Φ T14 (mkF m 159 #[.val (.int i0), .val (.int i1), .val (.int i2), .val (.int i3), .val (.int i4), .val (.int x5), .val (.int x14), .val (.int x23), .val (.int v36), .val (.int v49), .val (.int v62), .val (.ref b6), .val (.ref b9), .val (.ref b10), .unset, .unset, .unset] [(.int (0 : Int32))])
        exact j159_16 _ (by rw [if_neg hc151])
    intro v159 hv159
    show Go p e below Φ T14 (mkF m 159 #[.val (.int i0), .val (.int i1), .val (.int i2), .val (.int i3), .val (.int i4), .val (.int x5), .val (.int x14), .val (.int x23), .val (.int v36), .val (.int v49), .val (.int v62), .val (.ref b6), .val (.ref b9), .val (.ref b10), .unset, .unset, .unset] [(.int v159)])
    refine Go.of (fun t k => XS.istore X14.here hx rfl (hb hby at_159) rfl (l' := #[.val (.int i0), .val (.int i1), .val (.int i2), .val (.int i3), .val (.int i4), .val (.int x5), .val (.int x14), .val (.int x23), .val (.int v36), .val (.int v49), .val (.int v62), .val (.ref b6), .val (.ref b9), .val (.ref b10), .val (.int v159), .unset, .unset]) rfl k) ?_
    show Go p e below Φ T14 (mkF m 161 #[.val (.int i0), .val (.int i1), .val (.int i2), .val (.int i3), .val (.int i4), .val (.int x5), .val (.int x14), .val (.int x23), .val (.int v36), .val (.int v49), .val (.int v62), .val (.ref b6), .val (.ref b9), .val (.ref b10), .val (.int v159), .unset, .unset] [])
    refine Go.of (fun t k => XS.aload X14.here hx rfl (hb hby at_161) rfl rfl  k) ?_
    show Go p e below Φ T14 (mkF m 163 #[.val (.int i0), .val (.int i1), .val (.int i2), .val (.int i3), .val (.int i4), .val (.int x5), .val (.int x14), .val (.int x23), .val (.int v36), .val (.int v49), .val (.int v62), .val (.ref b6), .val (.ref b9), .val (.ref b10), .val (.int v159), .unset, .unset] [(.ref b10)])
    refine Go.of (fun t k => XS.iload X14.here hx rfl (hb hby at_163) rfl  k) ?_
    show Go p e below Φ T14 (mkF m 165 #[.val (.int i0), .val (.int i1), .val (.int i2), .val (.int i3), .val (.int i4), .val (.int x5), .val (.int x14), .val (.int x23), .val (.int v36), .val (.int v49), .val (.int v62), .val (.ref b6), .val (.ref b9), .val (.ref b10), .val (.int v159), .unset, .unset] [(.int x14), (.ref b10)])
    obtain ⟨cq17, kq17, q17a, q17b, q17c⟩ := isOf hZ e14 E_b10
    obtain ⟨_, _, ⟨T17, L17, k17, n17⟩, -, X17, ⟨Lc17, hQ17, l17, y17, z17⟩, st17⟩ := X14.virtualBack hx (y := (⟨"com/example/compact_commits/compactcommits/transactions/VersionsFound", "answer", "(I)Ljava/util/Optional;"⟩ : MethodName)) (z := (⟨"com/example/compact_commits/compactcommits/transactions/VersionsFound", "answer", "(I)Ljava/util/Optional;"⟩ : MethodName)) hown (mvT hZ (hw _ (List.mem_of_getElem? (i := 59) rfl))) (mvT hZ (hw _ (List.mem_of_getElem? (i := 60) rfl))) (notFace_of_selects (args := #[]) (mvT hZ (hw _ (List.mem_of_getElem? (i := 62) rfl)))) (mvT hZ (hw _ (List.mem_of_getElem? (i := 62) rfl))) (mvT hZ (hw _ (List.mem_of_getElem? (i := 61) rfl))) (by decide) (backOf (W := 0) (rm7 l Z a0 hw [] b10 x14 b11a b11f k11a k11f x5 u147_b11a h14 n0 Z14 F_b10_answers F_b10_failures V_b11a V_b11f (own_idx i0 i1 x5 x14 hx5 hx14)) hZ (hw _ (List.mem_of_getElem? (i := 63) rfl)) (hw _ (List.mem_of_getElem? (i := 23) rfl)) (by decide) (by decide)) q17a q17c (g := (mkF m 165 #[.val (.int i0), .val (.int i1), .val (.int i2), .val (.int i3), .val (.int i4), .val (.int x5), .val (.int x14), .val (.int x23), .val (.int v36), .val (.int v49), .val (.int v62), .val (.ref b6), .val (.ref b9), .val (.ref b10), .val (.int v159), .unset, .unset] [(.int x14), (.ref b10)])) rfl (by rw [hml]; rfl) (Steps.refl _) (argsL := [(.int x14)]) (rest := []) (lenOf own_pd5 rfl) rfl (by show 2 * 0 + _ ≤ _; exact Nat.le_of_eq rfl) (hb hby at_165) (fun _ _ => ⟨rfl, e14, (by decide : 14 + 0 ≤ _), (by decide : 52 + 0 ≤ _)⟩)
    dsimp only [Pt.U, Pt.locs, Pt.cells, Pt.slots] at X17 l17 y17 z17 st17 hQ17
    subst l17 y17 z17
    obtain ⟨rfl, N17q, e17q, r17q⟩ := hQ17
    have N17 := Fr.app N14 N17q
    obtain ⟨lc17, X17, N17⟩ : ∃ lc, Stand p l e room_1 s m #[(.int i0), (.int i1), (.int i2), (.int i3), (.int i4)] below meth c T17 lc 14 52 ∧ Fr n0 lc := ⟨_, X17, N17⟩
    refine Go.tr st17 ?_
    show Go p e below Φ T17 (mkF m 168 #[.val (.int i0), .val (.int i1), .val (.int i2), .val (.int i3), .val (.int i4), .val (.int x5), .val (.int x14), .val (.int x23), .val (.int v36), .val (.int v49), .val (.int v62), .val (.ref b6), .val (.ref b9), .val (.ref b10), .val (.int v159), .unset, .unset] [(getH u147_b11a [] .null (x14).toNatClampNeg)])
    refine Go.of (fun t k => XS.astore X17.here hx rfl (hb hby at_168) rfl r17q (l' := #[.val (.int i0), .val (.int i1), .val (.int i2), .val (.int i3), .val (.int i4), .val (.int x5), .val (.int x14), .val (.int x23), .val (.int v36), .val (.int v49), .val (.int v62), .val (.ref b6), .val (.ref b9), .val (.ref b10), .val (.int v159), .val (getH u147_b11a [] .null (x14).toNatClampNeg), .unset]) (XS.store1 rfl (Or.inl rfl) (XT.cat1 r17q)) k) ?_
    show Go p e below Φ T17 (mkF m 170 #[.val (.int i0), .val (.int i1), .val (.int i2), .val (.int i3), .val (.int i4), .val (.int x5), .val (.int x14), .val (.int x23), .val (.int v36), .val (.int v49), .val (.int v62), .val (.ref b6), .val (.ref b9), .val (.ref b10), .val (.int v159), .val (getH u147_b11a [] .null (x14).toNatClampNeg), .unset] [])
    refine Go.of (fun t k => XS.aload X17.here hx rfl (hb hby at_170) rfl rfl  k) ?_
    show Go p e below Φ T17 (mkF m 172 #[.val (.int i0), .val (.int i1), .val (.int i2), .val (.int i3), .val (.int i4), .val (.int x5), .val (.int x14), .val (.int x23), .val (.int v36), .val (.int v49), .val (.int v62), .val (.ref b6), .val (.ref b9), .val (.ref b10), .val (.int v159), .val (getH u147_b11a [] .null (x14).toNatClampNeg), .unset] [(.ref b10)])
    refine Go.of (fun t k => XS.iload X17.here hx rfl (hb hby at_172) rfl  k) ?_
    show Go p e below Φ T17 (mkF m 174 #[.val (.int i0), .val (.int i1), .val (.int i2), .val (.int i3), .val (.int i4), .val (.int x5), .val (.int x14), .val (.int x23), .val (.int v36), .val (.int v49), .val (.int v62), .val (.ref b6), .val (.ref b9), .val (.ref b10), .val (.int v159), .val (getH u147_b11a [] .null (x14).toNatClampNeg), .unset] [(.int x23), (.ref b10)])
    obtain ⟨cq18, kq18, q18a, q18b, q18c⟩ := isOf hZ (e17q) E_b10
    obtain ⟨_, _, ⟨T18, L18, k18, n18⟩, -, X18, ⟨Lc18, hQ18, l18, y18, z18⟩, st18⟩ := X17.virtualBack hx (y := (⟨"com/example/compact_commits/compactcommits/transactions/VersionsFound", "answer", "(I)Ljava/util/Optional;"⟩ : MethodName)) (z := (⟨"com/example/compact_commits/compactcommits/transactions/VersionsFound", "answer", "(I)Ljava/util/Optional;"⟩ : MethodName)) hown (mvT hZ (hw _ (List.mem_of_getElem? (i := 59) rfl))) (mvT hZ (hw _ (List.mem_of_getElem? (i := 60) rfl))) (notFace_of_selects (args := #[]) (mvT hZ (hw _ (List.mem_of_getElem? (i := 62) rfl)))) (mvT hZ (hw _ (List.mem_of_getElem? (i := 62) rfl))) (mvT hZ (hw _ (List.mem_of_getElem? (i := 61) rfl))) (by decide) (backOf (W := 0) (rm7 l Z a0 hw [] b10 x23 b11a b11f k11a k11f x5 u147_b11a h14 n0 Z14 F_b10_answers F_b10_failures V_b11a V_b11f (own_idx i0 i2 x5 x23 hx5 hx23)) hZ (hw _ (List.mem_of_getElem? (i := 63) rfl)) (hw _ (List.mem_of_getElem? (i := 23) rfl)) (by decide) (by decide)) q18a q18c (g := (mkF m 174 #[.val (.int i0), .val (.int i1), .val (.int i2), .val (.int i3), .val (.int i4), .val (.int x5), .val (.int x14), .val (.int x23), .val (.int v36), .val (.int v49), .val (.int v62), .val (.ref b6), .val (.ref b9), .val (.ref b10), .val (.int v159), .val (getH u147_b11a [] .null (x14).toNatClampNeg), .unset] [(.int x23), (.ref b10)])) rfl (by rw [hml]; rfl) (Steps.refl _) (argsL := [(.int x23)]) (rest := []) (lenOf own_pd5 rfl) rfl (by show 2 * 0 + _ ≤ _; exact Nat.le_of_eq rfl) (hb hby at_174) (fun _ _ => ⟨rfl, (e17q), (by decide : 14 + 0 ≤ _), (by decide : 52 + 0 ≤ _)⟩)
    dsimp only [Pt.U, Pt.locs, Pt.cells, Pt.slots] at X18 l18 y18 z18 st18 hQ18
    subst l18 y18 z18
    obtain ⟨rfl, N18q, e18q, r18q⟩ := hQ18
    have N18 := Fr.app N17 N18q
    obtain ⟨lc18, X18, N18⟩ : ∃ lc, Stand p l e room_1 s m #[(.int i0), (.int i1), (.int i2), (.int i3), (.int i4)] below meth c T18 lc 14 52 ∧ Fr n0 lc := ⟨_, X18, N18⟩
    refine Go.tr st18 ?_
    show Go p e below Φ T18 (mkF m 177 #[.val (.int i0), .val (.int i1), .val (.int i2), .val (.int i3), .val (.int i4), .val (.int x5), .val (.int x14), .val (.int x23), .val (.int v36), .val (.int v49), .val (.int v62), .val (.ref b6), .val (.ref b9), .val (.ref b10), .val (.int v159), .val (getH u147_b11a [] .null (x14).toNatClampNeg), .unset] [(getH u147_b11a [] .null (x23).toNatClampNeg)])
    refine Go.of (fun t k => XS.astore X18.here hx rfl (hb hby at_177) rfl r18q (l' := #[.val (.int i0), .val (.int i1), .val (.int i2), .val (.int i3), .val (.int i4), .val (.int x5), .val (.int x14), .val (.int x23), .val (.int v36), .val (.int v49), .val (.int v62), .val (.ref b6), .val (.ref b9), .val (.ref b10), .val (.int v159), .val (getH u147_b11a [] .null (x14).toNatClampNeg), .val (getH u147_b11a [] .null (x23).toNatClampNeg)]) (XS.store1 rfl (Or.inl rfl) (XT.cat1 r18q)) k) ?_
    show Go p e below Φ T18 (mkF m 179 #[.val (.int i0), .val (.int i1), .val (.int i2), .val (.int i3), .val (.int i4), .val (.int x5), .val (.int x14), .val (.int x23), .val (.int v36), .val (.int v49), .val (.int v62), .val (.ref b6), .val (.ref b9), .val (.ref b10), .val (.int v159), .val (getH u147_b11a [] .null (x14).toNatClampNeg), .val (getH u147_b11a [] .null (x23).toNatClampNeg)] [])
    refine Go.of (fun t k => XS.aload X18.here hx rfl (hb hby at_179) rfl r17q  k) ?_
    show Go p e below Φ T18 (mkF m 181 #[.val (.int i0), .val (.int i1), .val (.int i2), .val (.int i3), .val (.int i4), .val (.int x5), .val (.int x14), .val (.int x23), .val (.int v36), .val (.int v49), .val (.int v62), .val (.ref b6), .val (.ref b9), .val (.ref b10), .val (.int v159), .val (getH u147_b11a [] .null (x14).toNatClampNeg), .val (getH u147_b11a [] .null (x23).toNatClampNeg)] [(getH u147_b11a [] .null (x14).toNatClampNeg)])
    refine Go.of (fun t k => XS.iload X18.here hx rfl (hb hby at_181) rfl  k) ?_
    show Go p e below Φ T18 (mkF m 183 #[.val (.int i0), .val (.int i1), .val (.int i2), .val (.int i3), .val (.int i4), .val (.int x5), .val (.int x14), .val (.int x23), .val (.int v36), .val (.int v49), .val (.int v62), .val (.ref b6), .val (.ref b9), .val (.ref b10), .val (.int v159), .val (getH u147_b11a [] .null (x14).toNatClampNeg), .val (getH u147_b11a [] .null (x23).toNatClampNeg)] [(.int v36), (getH u147_b11a [] .null (x14).toNatClampNeg)])
    refine Go.of (fun t k => XS.iload X18.here hx rfl (hb hby at_183) rfl  k) ?_
    show Go p e below Φ T18 (mkF m 185 #[.val (.int i0), .val (.int i1), .val (.int i2), .val (.int i3), .val (.int i4), .val (.int x5), .val (.int x14), .val (.int x23), .val (.int v36), .val (.int v49), .val (.int v62), .val (.ref b6), .val (.ref b9), .val (.ref b10), .val (.int v159), .val (getH u147_b11a [] .null (x14).toNatClampNeg), .val (getH u147_b11a [] .null (x23).toNatClampNeg)] [(.int v49), (.int v36), (getH u147_b11a [] .null (x14).toNatClampNeg)])
    refine Go.of (fun t k => XS.iload X18.here hx rfl (hb hby at_185) rfl  k) ?_
    show Go p e below Φ T18 (mkF m 187 #[.val (.int i0), .val (.int i1), .val (.int i2), .val (.int i3), .val (.int i4), .val (.int x5), .val (.int x14), .val (.int x23), .val (.int v36), .val (.int v49), .val (.int v62), .val (.ref b6), .val (.ref b9), .val (.ref b10), .val (.int v159), .val (getH u147_b11a [] .null (x14).toNatClampNeg), .val (getH u147_b11a [] .null (x23).toNatClampNeg)] [(.int v159), (.int v49), (.int v36), (getH u147_b11a [] .null (x14).toNatClampNeg)])
    refine Go.of (fun t k => XS.iconst X18.here hx rfl (hb hby at_187) k) ?_
    show Go p e below Φ T18 (mkF m 188 #[.val (.int i0), .val (.int i1), .val (.int i2), .val (.int i3), .val (.int i4), .val (.int x5), .val (.int x14), .val (.int x23), .val (.int v36), .val (.int v49), .val (.int v62), .val (.ref b6), .val (.ref b9), .val (.ref b10), .val (.int v159), .val (getH u147_b11a [] .null (x14).toNatClampNeg), .val (getH u147_b11a [] .null (x23).toNatClampNeg)] [(.int (1 : Int32)), (.int v159), (.int v49), (.int v36), (getH u147_b11a [] .null (x14).toNatClampNeg)])
    refine Go.of (fun t k => XS.aload X18.here hx rfl (hb hby at_188) rfl rfl  k) ?_
    show Go p e below Φ T18 (mkF m 190 #[.val (.int i0), .val (.int i1), .val (.int i2), .val (.int i3), .val (.int i4), .val (.int x5), .val (.int x14), .val (.int x23), .val (.int v36), .val (.int v49), .val (.int v62), .val (.ref b6), .val (.ref b9), .val (.ref b10), .val (.int v159), .val (getH u147_b11a [] .null (x14).toNatClampNeg), .val (getH u147_b11a [] .null (x23).toNatClampNeg)] [(.ref b6), (.int (1 : Int32)), (.int v159), (.int v49), (.int v36), (getH u147_b11a [] .null (x14).toNatClampNeg)])
    refine Go.of (fun t k => XS.aload X18.here hx rfl (hb hby at_190) rfl rfl  k) ?_
    show Go p e below Φ T18 (mkF m 192 #[.val (.int i0), .val (.int i1), .val (.int i2), .val (.int i3), .val (.int i4), .val (.int x5), .val (.int x14), .val (.int x23), .val (.int v36), .val (.int v49), .val (.int v62), .val (.ref b6), .val (.ref b9), .val (.ref b10), .val (.int v159), .val (getH u147_b11a [] .null (x14).toNatClampNeg), .val (getH u147_b11a [] .null (x23).toNatClampNeg)] [(.ref b9), (.ref b6), (.int (1 : Int32)), (.int v159), (.int v49), (.int v36), (getH u147_b11a [] .null (x14).toNatClampNeg)])
    obtain ⟨_, _, ⟨T19, L19, k19, n19⟩, -, X19, ⟨Lc19, hQ19, l19, y19, z19⟩, st19⟩ := Jvm.LawKit.callS X18 hx (y := (⟨"com/example/compact_commits/compactcommits/transactions/VersionsFoundAnswerPinLaw", "expected", "(ZZZZLjava/util/Optional;Ljava/util/Optional;)Ljava/util/Optional;"⟩ : MethodName)) hown (mvT hZ (hw _ (List.mem_of_getElem? (i := 64) rfl))) (mvT hZ (hw _ (List.mem_of_getElem? (i := 65) rfl))) (mvT hZ (hw _ (List.mem_of_getElem? (i := 66) rfl))) (mvT hZ (hw _ (List.mem_of_getElem? (i := 67) rfl))) (by decide) (backOf (W := 1) (rm8 l Z a0 hw [] v36 v49 v159 (1 : Int32) b6 b9 h14 n0 Z14 ) hZ (hw _ (List.mem_of_getElem? (i := 67) rfl)) (hw _ (List.mem_of_getElem? (i := 66) rfl)) (by decide) (by decide)) (g := (mkF m 192 #[.val (.int i0), .val (.int i1), .val (.int i2), .val (.int i3), .val (.int i4), .val (.int x5), .val (.int x14), .val (.int x23), .val (.int v36), .val (.int v49), .val (.int v62), .val (.ref b6), .val (.ref b9), .val (.ref b10), .val (.int v159), .val (getH u147_b11a [] .null (x14).toNatClampNeg), .val (getH u147_b11a [] .null (x23).toNatClampNeg)] [(.ref b9), (.ref b6), (.int (1 : Int32)), (.int v159), (.int v49), (.int v36), (getH u147_b11a [] .null (x14).toNatClampNeg)])) rfl (by rw [hml]; rfl) (argsL := [(.int v36), (.int v49), (.int v159), (.int (1 : Int32)), (.ref b6), (.ref b9)]) (rest := [(getH u147_b11a [] .null (x14).toNatClampNeg)]) (lenOf own_pd6 rfl) rfl (own_w1 r17q) (hb hby at_192) (fun _ _ => ⟨rfl, (e18q), (by decide : 14 + 0 ≤ _), (by decide : 52 + 0 ≤ _)⟩)
    dsimp only [Pt.U, Pt.locs, Pt.cells, Pt.slots] at X19 l19 y19 z19 st19 hQ19
    subst l19 y19 z19
    obtain ⟨rfl, N19q, e19q⟩ := hQ19
    have N19 := Fr.app N18 N19q
    obtain ⟨lc19, X19, N19⟩ : ∃ lc, Stand p l e room_1 s m #[(.int i0), (.int i1), (.int i2), (.int i3), (.int i4)] below meth c T19 lc 14 52 ∧ Fr n0 lc := ⟨_, X19, N19⟩
    refine Go.of st19 ?_
    show Go p e below Φ T19 (mkF m 195 #[.val (.int i0), .val (.int i1), .val (.int i2), .val (.int i3), .val (.int i4), .val (.int x5), .val (.int x14), .val (.int x23), .val (.int v36), .val (.int v49), .val (.int v62), .val (.ref b6), .val (.ref b9), .val (.ref b10), .val (.int v159), .val (getH u147_b11a [] .null (x14).toNatClampNeg), .val (getH u147_b11a [] .null (x23).toNatClampNeg)] [(own_exp v36 v49 v159 (1 : Int32) b6 b9), (getH u147_b11a [] .null (x14).toNatClampNeg)])
    refine Go.of (fun t k => Jvm.RoadKit.acmp (g := (mkF m 195 #[.val (.int i0), .val (.int i1), .val (.int i2), .val (.int i3), .val (.int i4), .val (.int x5), .val (.int x14), .val (.int x23), .val (.int v36), .val (.int v49), .val (.int v62), .val (.ref b6), .val (.ref b9), .val (.ref b10), .val (.int v159), .val (getH u147_b11a [] .null (x14).toNatClampNeg), .val (getH u147_b11a [] .null (x23).toNatClampNeg)] [(own_exp v36 v49 v159 (1 : Int32) b6 b9), (getH u147_b11a [] .null (x14).toNatClampNeg)])) X19 hx rfl r17q (own_expr v36 v49 v159 (1 : Int32) b6 b9) (pc0 := 195) (pc' := 198) (same := true) rfl (hb hby at_195) rfl (decide_eq_true (own_eqI x14 x23 v36 v49 v159 _ _ u133_b11a u147_b11a hu133_b11a hu147_b11a hv159 (own_idx i0 i1 x5 x14 hx5 hx14).1 (own_idx i0 i2 x5 x23 hx5 hx23).1)) (by decide) (by decide) k) ?_
    show Go p e below Φ T19 (mkF m 198 #[.val (.int i0), .val (.int i1), .val (.int i2), .val (.int i3), .val (.int i4), .val (.int x5), .val (.int x14), .val (.int x23), .val (.int v36), .val (.int v49), .val (.int v62), .val (.ref b6), .val (.ref b9), .val (.ref b10), .val (.int v159), .val (getH u147_b11a [] .null (x14).toNatClampNeg), .val (getH u147_b11a [] .null (x23).toNatClampNeg)] [])
    refine Go.of (fun t k => XS.aload X19.here hx rfl (hb hby at_198) rfl r18q  k) ?_
    show Go p e below Φ T19 (mkF m 200 #[.val (.int i0), .val (.int i1), .val (.int i2), .val (.int i3), .val (.int i4), .val (.int x5), .val (.int x14), .val (.int x23), .val (.int v36), .val (.int v49), .val (.int v62), .val (.ref b6), .val (.ref b9), .val (.ref b10), .val (.int v159), .val (getH u147_b11a [] .null (x14).toNatClampNeg), .val (getH u147_b11a [] .null (x23).toNatClampNeg)] [(getH u147_b11a [] .null (x23).toNatClampNeg)])
    refine Go.of (fun t k => XS.iload X19.here hx rfl (hb hby at_200) rfl  k) ?_
    show Go p e below Φ T19 (mkF m 202 #[.val (.int i0), .val (.int i1), .val (.int i2), .val (.int i3), .val (.int i4), .val (.int x5), .val (.int x14), .val (.int x23), .val (.int v36), .val (.int v49), .val (.int v62), .val (.ref b6), .val (.ref b9), .val (.ref b10), .val (.int v159), .val (getH u147_b11a [] .null (x14).toNatClampNeg), .val (getH u147_b11a [] .null (x23).toNatClampNeg)] [(.int v36), (getH u147_b11a [] .null (x23).toNatClampNeg)])
    refine Go.of (fun t k => XS.iload X19.here hx rfl (hb hby at_202) rfl  k) ?_
    show Go p e below Φ T19 (mkF m 204 #[.val (.int i0), .val (.int i1), .val (.int i2), .val (.int i3), .val (.int i4), .val (.int x5), .val (.int x14), .val (.int x23), .val (.int v36), .val (.int v49), .val (.int v62), .val (.ref b6), .val (.ref b9), .val (.ref b10), .val (.int v159), .val (getH u147_b11a [] .null (x14).toNatClampNeg), .val (getH u147_b11a [] .null (x23).toNatClampNeg)] [(.int v49), (.int v36), (getH u147_b11a [] .null (x23).toNatClampNeg)])
    refine Go.of (fun t k => XS.iload X19.here hx rfl (hb hby at_204) rfl  k) ?_
    show Go p e below Φ T19 (mkF m 206 #[.val (.int i0), .val (.int i1), .val (.int i2), .val (.int i3), .val (.int i4), .val (.int x5), .val (.int x14), .val (.int x23), .val (.int v36), .val (.int v49), .val (.int v62), .val (.ref b6), .val (.ref b9), .val (.ref b10), .val (.int v159), .val (getH u147_b11a [] .null (x14).toNatClampNeg), .val (getH u147_b11a [] .null (x23).toNatClampNeg)] [(.int v159), (.int v49), (.int v36), (getH u147_b11a [] .null (x23).toNatClampNeg)])
    refine Go.of (fun t k => XS.iconst X19.here hx rfl (hb hby at_206) k) ?_
    show Go p e below Φ T19 (mkF m 207 #[.val (.int i0), .val (.int i1), .val (.int i2), .val (.int i3), .val (.int i4), .val (.int x5), .val (.int x14), .val (.int x23), .val (.int v36), .val (.int v49), .val (.int v62), .val (.ref b6), .val (.ref b9), .val (.ref b10), .val (.int v159), .val (getH u147_b11a [] .null (x14).toNatClampNeg), .val (getH u147_b11a [] .null (x23).toNatClampNeg)] [(.int (0 : Int32)), (.int v159), (.int v49), (.int v36), (getH u147_b11a [] .null (x23).toNatClampNeg)])
    refine Go.of (fun t k => XS.aload X19.here hx rfl (hb hby at_207) rfl rfl  k) ?_
    show Go p e below Φ T19 (mkF m 209 #[.val (.int i0), .val (.int i1), .val (.int i2), .val (.int i3), .val (.int i4), .val (.int x5), .val (.int x14), .val (.int x23), .val (.int v36), .val (.int v49), .val (.int v62), .val (.ref b6), .val (.ref b9), .val (.ref b10), .val (.int v159), .val (getH u147_b11a [] .null (x14).toNatClampNeg), .val (getH u147_b11a [] .null (x23).toNatClampNeg)] [(.ref b6), (.int (0 : Int32)), (.int v159), (.int v49), (.int v36), (getH u147_b11a [] .null (x23).toNatClampNeg)])
    refine Go.of (fun t k => XS.aload X19.here hx rfl (hb hby at_209) rfl rfl  k) ?_
    show Go p e below Φ T19 (mkF m 211 #[.val (.int i0), .val (.int i1), .val (.int i2), .val (.int i3), .val (.int i4), .val (.int x5), .val (.int x14), .val (.int x23), .val (.int v36), .val (.int v49), .val (.int v62), .val (.ref b6), .val (.ref b9), .val (.ref b10), .val (.int v159), .val (getH u147_b11a [] .null (x14).toNatClampNeg), .val (getH u147_b11a [] .null (x23).toNatClampNeg)] [(.ref b9), (.ref b6), (.int (0 : Int32)), (.int v159), (.int v49), (.int v36), (getH u147_b11a [] .null (x23).toNatClampNeg)])
    obtain ⟨_, _, ⟨T20, L20, k20, n20⟩, -, X20, ⟨Lc20, hQ20, l20, y20, z20⟩, st20⟩ := Jvm.LawKit.callS X19 hx (y := (⟨"com/example/compact_commits/compactcommits/transactions/VersionsFoundAnswerPinLaw", "expected", "(ZZZZLjava/util/Optional;Ljava/util/Optional;)Ljava/util/Optional;"⟩ : MethodName)) hown (mvT hZ (hw _ (List.mem_of_getElem? (i := 64) rfl))) (mvT hZ (hw _ (List.mem_of_getElem? (i := 65) rfl))) (mvT hZ (hw _ (List.mem_of_getElem? (i := 66) rfl))) (mvT hZ (hw _ (List.mem_of_getElem? (i := 67) rfl))) (by decide) (backOf (W := 1) (rm8 l Z a0 hw [] v36 v49 v159 (0 : Int32) b6 b9 h14 n0 Z14 ) hZ (hw _ (List.mem_of_getElem? (i := 67) rfl)) (hw _ (List.mem_of_getElem? (i := 66) rfl)) (by decide) (by decide)) (g := (mkF m 211 #[.val (.int i0), .val (.int i1), .val (.int i2), .val (.int i3), .val (.int i4), .val (.int x5), .val (.int x14), .val (.int x23), .val (.int v36), .val (.int v49), .val (.int v62), .val (.ref b6), .val (.ref b9), .val (.ref b10), .val (.int v159), .val (getH u147_b11a [] .null (x14).toNatClampNeg), .val (getH u147_b11a [] .null (x23).toNatClampNeg)] [(.ref b9), (.ref b6), (.int (0 : Int32)), (.int v159), (.int v49), (.int v36), (getH u147_b11a [] .null (x23).toNatClampNeg)])) rfl (by rw [hml]; rfl) (argsL := [(.int v36), (.int v49), (.int v159), (.int (0 : Int32)), (.ref b6), (.ref b9)]) (rest := [(getH u147_b11a [] .null (x23).toNatClampNeg)]) (lenOf own_pd6 rfl) rfl (own_w1 r18q) (hb hby at_211) (fun _ _ => ⟨rfl, (e19q), (by decide : 14 + 0 ≤ _), (by decide : 52 + 0 ≤ _)⟩)
    dsimp only [Pt.U, Pt.locs, Pt.cells, Pt.slots] at X20 l20 y20 z20 st20 hQ20
    subst l20 y20 z20
    obtain ⟨rfl, N20q, e20q⟩ := hQ20
    have N20 := Fr.app N19 N20q
    obtain ⟨lc20, X20, N20⟩ : ∃ lc, Stand p l e room_1 s m #[(.int i0), (.int i1), (.int i2), (.int i3), (.int i4)] below meth c T20 lc 14 52 ∧ Fr n0 lc := ⟨_, X20, N20⟩
    refine Go.of st20 ?_
    show Go p e below Φ T20 (mkF m 214 #[.val (.int i0), .val (.int i1), .val (.int i2), .val (.int i3), .val (.int i4), .val (.int x5), .val (.int x14), .val (.int x23), .val (.int v36), .val (.int v49), .val (.int v62), .val (.ref b6), .val (.ref b9), .val (.ref b10), .val (.int v159), .val (getH u147_b11a [] .null (x14).toNatClampNeg), .val (getH u147_b11a [] .null (x23).toNatClampNeg)] [(own_exp v36 v49 v159 (0 : Int32) b6 b9), (getH u147_b11a [] .null (x23).toNatClampNeg)])
    refine Go.of (fun t k => Jvm.RoadKit.acmp (g := (mkF m 214 #[.val (.int i0), .val (.int i1), .val (.int i2), .val (.int i3), .val (.int i4), .val (.int x5), .val (.int x14), .val (.int x23), .val (.int v36), .val (.int v49), .val (.int v62), .val (.ref b6), .val (.ref b9), .val (.ref b10), .val (.int v159), .val (getH u147_b11a [] .null (x14).toNatClampNeg), .val (getH u147_b11a [] .null (x23).toNatClampNeg)] [(own_exp v36 v49 v159 (0 : Int32) b6 b9), (getH u147_b11a [] .null (x23).toNatClampNeg)])) X20 hx rfl r18q (own_expr v36 v49 v159 (0 : Int32) b6 b9) (pc0 := 214) (pc' := 217) (same := true) rfl (hb hby at_214) rfl (decide_eq_true (own_eqJ x14 x23 v36 v49 v159 _ _ u133_b11a u147_b11a hu133_b11a hu147_b11a hv159 (own_idx i0 i1 x5 x14 hx5 hx14).1 (own_idx i0 i2 x5 x23 hx5 hx23).1)) (by decide) (by decide) k) ?_
    show Go p e below Φ T20 (mkF m 217 #[.val (.int i0), .val (.int i1), .val (.int i2), .val (.int i3), .val (.int i4), .val (.int x5), .val (.int x14), .val (.int x23), .val (.int v36), .val (.int v49), .val (.int v62), .val (.ref b6), .val (.ref b9), .val (.ref b10), .val (.int v159), .val (getH u147_b11a [] .null (x14).toNatClampNeg), .val (getH u147_b11a [] .null (x23).toNatClampNeg)] [])
    refine Go.of (fun t k => XS.iconst X20.here hx rfl (hb hby at_217) k) ?_
    show Go p e below Φ T20 (mkF m 218 #[.val (.int i0), .val (.int i1), .val (.int i2), .val (.int i3), .val (.int i4), .val (.int x5), .val (.int x14), .val (.int x23), .val (.int v36), .val (.int v49), .val (.int v62), .val (.ref b6), .val (.ref b9), .val (.ref b10), .val (.int v159), .val (getH u147_b11a [] .null (x14).toNatClampNeg), .val (getH u147_b11a [] .null (x23).toNatClampNeg)] [(.int (1 : Int32))])
    refine Go.of (fun t k => XS.goto X20.here hx rfl (pc0 := 218) (pc' := 222) rfl (hb hby at_218) (by decide) (by decide) k) ?_
    show Go p e below Φ T20 (mkF m 222 #[.val (.int i0), .val (.int i1), .val (.int i2), .val (.int i3), .val (.int i4), .val (.int x5), .val (.int x14), .val (.int x23), .val (.int v36), .val (.int v49), .val (.int v62), .val (.ref b6), .val (.ref b9), .val (.ref b10), .val (.int v159), .val (getH u147_b11a [] .null (x14).toNatClampNeg), .val (getH u147_b11a [] .null (x23).toNatClampNeg)] [(.int (1 : Int32))])
    rw [hΦ]
    refine Go.ret X20 hx Bd.notSynchronized Bd.returns rfl (Or.inl ⟨rfl, Or.inr (Or.inl rfl), _, rfl⟩) (hb hby at_222) (by decide) (by decide) ?_
    rw [(e20q)]
    exact ⟨rfl, N20⟩
  · refine Go.of (fun t k => XS.ifNo X6.here hx rfl (hb hby at_80) rfl (XT.i0_eq_f hc80) k) ?_
    show Go p e below Φ T6 (mkF m 83 #[.val (.int i0), .val (.int i1), .val (.int i2), .val (.int i3), .val (.int i4), .val (.int x5), .val (.int x14), .val (.int x23), .val (.int v36), .val (.int v49), .val (.int v62), .val (.ref b6), .unset, .unset, .unset, .unset, .unset] [])
    obtain ⟨_, _, ⟨T21, L21, k21, n21⟩, -, X21, ⟨Lc21, hQ21, l21, y21, z21⟩, st21⟩ := Jvm.LawKit.callS X6 hx (y := (⟨"java/util/Optional", "empty", "()Ljava/util/Optional;"⟩ : MethodName)) hown (mvT hZ (hw _ (List.mem_of_getElem? (i := 68) rfl))) (mvT hZ (hw _ (List.mem_of_getElem? (i := 69) rfl))) (mvT hZ (hw _ (List.mem_of_getElem? (i := 4) rfl))) (mvT hZ (hw _ (List.mem_of_getElem? (i := 70) rfl))) (by decide) (backOf (W := 0) (rm9 l Z a0 hw [] sE T6.heap n0 Z6 (S_EMPTY.ext O6.2)) hZ (hw _ (List.mem_of_getElem? (i := 70) rfl)) (hw _ (List.mem_of_getElem? (i := 4) rfl)) (by decide) (by decide)) (g := (mkF m 83 #[.val (.int i0), .val (.int i1), .val (.int i2), .val (.int i3), .val (.int i4), .val (.int x5), .val (.int x14), .val (.int x23), .val (.int v36), .val (.int v49), .val (.int v62), .val (.ref b6), .unset, .unset, .unset, .unset, .unset] [])) rfl (by rw [hml]; rfl) (argsL := []) (rest := []) (lenOf own_pd7 rfl) rfl (by show 2 * 0 + _ ≤ _; exact Nat.le_of_eq rfl) (hb hby at_83) (fun _ _ => ⟨rfl, rfl, (by decide : 2 + 0 ≤ _), (by decide : 2 + 0 ≤ _)⟩)
    dsimp only [Pt.U, Pt.locs, Pt.cells, Pt.slots] at X21 l21 y21 z21 st21 hQ21
    subst l21 y21 z21
    obtain ⟨rfl, N21q, e21q⟩ := hQ21
    have N21 := Fr.app N6 N21q
    obtain ⟨lc21, X21, N21⟩ : ∃ lc, Stand p l e room_1 s m #[(.int i0), (.int i1), (.int i2), (.int i3), (.int i4)] below meth c T21 lc 2 2 ∧ Fr n0 lc := ⟨_, X21, N21⟩
    refine Go.of st21 ?_
    show Go p e below Φ T21 (mkF m 86 #[.val (.int i0), .val (.int i1), .val (.int i2), .val (.int i3), .val (.int i4), .val (.int x5), .val (.int x14), .val (.int x23), .val (.int v36), .val (.int v49), .val (.int v62), .val (.ref b6), .unset, .unset, .unset, .unset, .unset] [(.ref sE)])
    refine Go.of (fun t k => XS.astore X21.here hx rfl (hb hby at_86) rfl rfl (l' := #[.val (.int i0), .val (.int i1), .val (.int i2), .val (.int i3), .val (.int i4), .val (.int x5), .val (.int x14), .val (.int x23), .val (.int v36), .val (.int v49), .val (.int v62), .val (.ref b6), .val (.ref sE), .unset, .unset, .unset, .unset]) rfl k) ?_
    show Go p e below Φ T21 (mkF m 88 #[.val (.int i0), .val (.int i1), .val (.int i2), .val (.int i3), .val (.int i4), .val (.int x5), .val (.int x14), .val (.int x23), .val (.int v36), .val (.int v49), .val (.int v62), .val (.ref b6), .val (.ref sE), .unset, .unset, .unset, .unset] [])
    refine Go.of (fun t k => XS.goto X21.here hx rfl (pc0 := 88) (pc' := 108) rfl (hb hby at_88) (by decide) (by decide) k) ?_
    show Go p e below Φ T21 (mkF m 108 #[.val (.int i0), .val (.int i1), .val (.int i2), .val (.int i3), .val (.int i4), .val (.int x5), .val (.int x14), .val (.int x23), .val (.int v36), .val (.int v49), .val (.int v62), .val (.ref b6), .val (.ref sE), .unset, .unset, .unset, .unset] [])
    obtain ⟨T22, h22, X22, e22, E22, A22, D22, -, st22⟩ := newO X21 hx hZ hown (hw _ (List.mem_of_getElem? (i := 21) rfl)) (hw _ (List.mem_of_getElem? (i := 22) rfl)) (hw _ (List.mem_of_getElem? (i := 23) rfl)) (e21q) (g := (mkF m 108 #[.val (.int i0), .val (.int i1), .val (.int i2), .val (.int i3), .val (.int i4), .val (.int x5), .val (.int x14), .val (.int x23), .val (.int v36), .val (.int v49), .val (.int v62), .val (.ref b6), .val (.ref sE), .unset, .unset, .unset, .unset] [])) rfl (hb hby at_108) (by decide) (by decide)
    obtain ⟨b22, g22⟩ : ∃ z, z = T6.heap.size := ⟨_, rfl⟩
    rw [← g22] at A22 D22 st22
    have ne_b4_b22 : b4 ≠ b22 := Nat.ne_of_lt (Nat.lt_of_lt_of_le V_b4.lt (Nat.le_of_eq g22.symm))
    have ne_b6_b22 : b6 ≠ b22 := Nat.ne_of_lt (Nat.lt_of_lt_of_le E_b6.lt (Nat.le_of_eq g22.symm))
    have g_b22 : n0 ≤ b22 := Nat.le_trans Z6 (Nat.le_of_eq g22.symm)
    have Z22 := Nat.le_trans Z6 E22.1
    have O22 := O6.ext E22
    have V_b4 := V_b4.ext E22
    have E_b6 := E_b6.ext E22
    have E_b22 := A22
    have F_b22_numbers : Fld Z h22 b22 "com/example/compact_commits/compactcommits/transactions/VersionsFound" "numbers" "[I" .null := D22 (Or.inr (hw _ (List.mem_of_getElem? (i := 30) rfl))) (ty := (.array .int)) (by decide)
    have F_b22_keys : Fld Z h22 b22 "com/example/compact_commits/compactcommits/transactions/VersionsFound" "keys" "[[B" .null := D22 (Or.inr (hw _ (List.mem_of_getElem? (i := 34) rfl))) (ty := (.array (.array .byte))) (by decide)
    have F_b22_cellKeyLengths : Fld Z h22 b22 "com/example/compact_commits/compactcommits/transactions/VersionsFound" "cellKeyLengths" "[I" .null := D22 (Or.inr (hw _ (List.mem_of_getElem? (i := 36) rfl))) (ty := (.array .int)) (by decide)
    have F_b22_values : Fld Z h22 b22 "com/example/compact_commits/compactcommits/transactions/VersionsFound" "values" "[Ljava/util/Optional;" .null := D22 (Or.inr (hw _ (List.mem_of_getElem? (i := 40) rfl))) (ty := (.array (.object "java/util/Optional"))) (by decide)
    have F_b22_undecoded : Fld Z h22 b22 "com/example/compact_commits/compactcommits/transactions/VersionsFound" "undecoded" "[Lcom/example/compact_commits/compactcommits/StoreException;" .null := D22 (Or.inr (hw _ (List.mem_of_getElem? (i := 44) rfl))) (ty := (.array (.object "com/example/compact_commits/compactcommits/StoreException"))) (by decide)
    have F_b22_writerOf : Fld Z h22 b22 "com/example/compact_commits/compactcommits/transactions/VersionsFound" "writerOf" "[I" .null := D22 (Or.inr (hw _ (List.mem_of_getElem? (i := 46) rfl))) (ty := (.array .int)) (by decide)
    have F_b22_writers : Fld Z h22 b22 "com/example/compact_commits/compactcommits/transactions/VersionsFound" "writers" "[J" .null := D22 (Or.inr (hw _ (List.mem_of_getElem? (i := 49) rfl))) (ty := (.array .long)) (by decide)
    have F_b22_answers : Fld Z h22 b22 "com/example/compact_commits/compactcommits/transactions/VersionsFound" "answers" "[Ljava/util/Optional;" .null := D22 (Or.inr (hw _ (List.mem_of_getElem? (i := 51) rfl))) (ty := (.array (.object "java/util/Optional"))) (by decide)
    have F_b22_failures : Fld Z h22 b22 "com/example/compact_commits/compactcommits/transactions/VersionsFound" "failures" "[Lcom/example/compact_commits/compactcommits/StoreException;" .null := D22 (Or.inr (hw _ (List.mem_of_getElem? (i := 53) rfl))) (ty := (.array (.object "com/example/compact_commits/compactcommits/StoreException"))) (by decide)
    refine Go.of st22 ?_
    show Go p e below Φ T22 (mkF m 111 #[.val (.int i0), .val (.int i1), .val (.int i2), .val (.int i3), .val (.int i4), .val (.int x5), .val (.int x14), .val (.int x23), .val (.int v36), .val (.int v49), .val (.int v62), .val (.ref b6), .val (.ref sE), .unset, .unset, .unset, .unset] [(.ref b22)])
    refine Go.of (fun t k => XS.dup X22.here hx rfl (hb hby at_111) rfl rfl k) ?_
    show Go p e below Φ T22 (mkF m 112 #[.val (.int i0), .val (.int i1), .val (.int i2), .val (.int i3), .val (.int i4), .val (.int x5), .val (.int x14), .val (.int x23), .val (.int v36), .val (.int v49), .val (.int v62), .val (.ref b6), .val (.ref sE), .unset, .unset, .unset, .unset] [(.ref b22), (.ref b22)])
    refine Go.of (fun t k => XS.iload X22.here hx rfl (hb hby at_112) rfl  k) ?_
    show Go p e below Φ T22 (mkF m 114 #[.val (.int i0), .val (.int i1), .val (.int i2), .val (.int i3), .val (.int i4), .val (.int x5), .val (.int x14), .val (.int x23), .val (.int v36), .val (.int v49), .val (.int v62), .val (.ref b6), .val (.ref sE), .unset, .unset, .unset, .unset] [(.int x5), (.ref b22), (.ref b22)])
    obtain ⟨_, _, ⟨T23, L23, k23, n23⟩, -, X23, ⟨Lc23, hQ23, l23, y23, z23⟩, st23⟩ := X22.specialBack hx (y := (⟨"com/example/compact_commits/compactcommits/transactions/VersionsFound", "<init>", "(I)V"⟩ : MethodName)) rfl hown (mvT hZ (hw _ (List.mem_of_getElem? (i := 24) rfl))) (mvT hZ (hw _ (List.mem_of_getElem? (i := 25) rfl))) (mvT hZ (hw _ (List.mem_of_getElem? (i := 26) rfl))) (by decide) (backOf (W := 1) (rm5 l Z a0 hw [] b22 x5 .null .null .null .null .null .null .null .null .null h22 n0 Z22 F_b22_numbers F_b22_keys F_b22_cellKeyLengths F_b22_values F_b22_undecoded F_b22_writerOf F_b22_writers F_b22_answers F_b22_failures E_b22 g_b22 (own_cap i0 x5 hx5).1 (own_cap i0 x5 hx5).2.1) hZ (hw _ (List.mem_of_getElem? (i := 26) rfl)) (hw _ (List.mem_of_getElem? (i := 23) rfl)) (by decide) (by decide)) (g := (mkF m 114 #[.val (.int i0), .val (.int i1), .val (.int i2), .val (.int i3), .val (.int i4), .val (.int x5), .val (.int x14), .val (.int x23), .val (.int v36), .val (.int v49), .val (.int v62), .val (.ref b6), .val (.ref sE), .unset, .unset, .unset, .unset] [(.int x5), (.ref b22), (.ref b22)])) rfl (by rw [hml]; rfl) (Steps.refl _) (a := b22) (argsL := [(.int x5)]) (rest := [(.ref b22)]) (lenOf own_pd3 rfl) rfl (by show 2 * 0 + _ ≤ _; exact Nat.le_of_eq rfl) (hb hby at_114) (fun _ _ => ⟨rfl, e22, (by decide : 3 + 9 ≤ _), (by decide : 14 + 36 ≤ _)⟩)
    dsimp only [Pt.U, Pt.locs, Pt.cells, Pt.slots] at X23 l23 y23 z23 st23 hQ23
    subst l23 y23 z23
    obtain ⟨b23a, b23f, k23a, k23f, rfl, N23q, K23q, cE23, cA23, cF23, cV23, Ov23, cW23, s23a, s23f, ne23⟩ := hQ23
    have N23 := Fr.app N21 N23q
    obtain ⟨lc23, X23, N23⟩ : ∃ lc, Stand p l e room_1 s m #[(.int i0), (.int i1), (.int i2), (.int i3), (.int i4)] below meth c T23 lc 12 50 ∧ Fr n0 lc := ⟨_, X23, N23⟩
    have ne_b4_b23a : b4 ≠ b23a := Nat.ne_of_lt (Nat.lt_of_lt_of_le V_b4.lt s23a)
    have ne_b6_b23a : b6 ≠ b23a := Nat.ne_of_lt (Nat.lt_of_lt_of_le E_b6.lt s23a)
    have ne_b22_b23a : b22 ≠ b23a := Nat.ne_of_lt (Nat.lt_of_lt_of_le E_b22.lt s23a)
    have g_b23a : n0 ≤ b23a := Nat.le_trans Z22 s23a
    have ne_b4_b23f : b4 ≠ b23f := Nat.ne_of_lt (Nat.lt_of_lt_of_le V_b4.lt s23f)
    have ne_b6_b23f : b6 ≠ b23f := Nat.ne_of_lt (Nat.lt_of_lt_of_le E_b6.lt s23f)
    have ne_b22_b23f : b22 ≠ b23f := Nat.ne_of_lt (Nat.lt_of_lt_of_le E_b22.lt s23f)
    have g_b23f : n0 ≤ b23f := Nat.le_trans Z22 s23f
    have V_b4 := V_b4.keep K23q (ninS ne_b4_b22 nin0)
    have E_b6 := E_b6.keep K23q
    have E_b22 := cE23
    have F_b22_answers := cA23
    have F_b22_failures := cF23
    have V_b23a := cV23
    have V_b23f := cW23
    have Z23 := Nat.le_trans Z22 K23q.1
    have O23 := O22.keep K23q (allS g_b22 all0)
    refine Go.tr st23 ?_
    show Go p e below Φ T23 (mkF m 117 #[.val (.int i0), .val (.int i1), .val (.int i2), .val (.int i3), .val (.int i4), .val (.int x5), .val (.int x14), .val (.int x23), .val (.int v36), .val (.int v49), .val (.int v62), .val (.ref b6), .val (.ref sE), .unset, .unset, .unset, .unset] [(.ref b22)])
    refine Go.of (fun t k => XS.astore X23.here hx rfl (hb hby at_117) rfl rfl (l' := #[.val (.int i0), .val (.int i1), .val (.int i2), .val (.int i3), .val (.int i4), .val (.int x5), .val (.int x14), .val (.int x23), .val (.int v36), .val (.int v49), .val (.int v62), .val (.ref b6), .val (.ref sE), .val (.ref b22), .unset, .unset, .unset]) rfl k) ?_
    show Go p e below Φ T23 (mkF m 119 #[.val (.int i0), .val (.int i1), .val (.int i2), .val (.int i3), .val (.int i4), .val (.int x5), .val (.int x14), .val (.int x23), .val (.int v36), .val (.int v49), .val (.int v62), .val (.ref b6), .val (.ref sE), .val (.ref b22), .unset, .unset, .unset] [])
    refine Go.of (fun t k => XS.iload X23.here hx rfl (hb hby at_119) rfl  k) ?_
    show Go p e below Φ T23 (mkF m 121 #[.val (.int i0), .val (.int i1), .val (.int i2), .val (.int i3), .val (.int i4), .val (.int x5), .val (.int x14), .val (.int x23), .val (.int v36), .val (.int v49), .val (.int v62), .val (.ref b6), .val (.ref sE), .val (.ref b22), .unset, .unset, .unset] [(.int v36)])
    suffices j133_24 : ∀ (T24 : State) (h24 : Heap) (lc24 : List Loc), Stand p l e room_1 s m #[(.int i0), (.int i1), (.int i2), (.int i3), (.int i4)] below meth c T24 lc24 12 50 → T24.heap = h24 → Fr n0 lc24 → n0 ≤ h24.size → Old Z n0 h24 → ∀ u133_b23a : List (Int32 × Value), u133_b23a = (if v36 = (0 : Int32) then [] else ((x14, .ref b6) :: [])) → (Arv Z h24 b4 k4 .byte (1 : Int32) [(.int (nar .byte (i4.toInt8.toInt32)))] (.int (0 : Int32))) → (Exa Z h24 b6 "java/util/Optional") → (Exa Z h24 b22 "com/example/compact_commits/compactcommits/transactions/VersionsFound") → (Fld Z h24 b22 "com/example/compact_commits/compactcommits/transactions/VersionsFound" "answers" "[Ljava/util/Optional;" (.ref b23a)) → (Fld Z h24 b22 "com/example/compact_commits/compactcommits/transactions/VersionsFound" "failures" "[Lcom/example/compact_commits/compactcommits/StoreException;" (.ref b23f)) → (Arh Z h24 b23a k23a (.object "java/util/Optional") x5 u133_b23a [] .null) → (Arh Z h24 b23f k23f (.object "com/example/compact_commits/compactcommits/StoreException") x5 [] [] .null) → Go p e below Φ T24 (mkF m 133 #[.val (.int i0), .val (.int i1), .val (.int i2), .val (.int i3), .val (.int i4), .val (.int x5), .val (.int x14), .val (.int x23), .val (.int v36), .val (.int v49), .val (.int v62), .val (.ref b6), .val (.ref sE), .val (.ref b22), .unset, .unset, .unset] []) by
      by_cases hc121 : v36 = (0 : Int32)
      · refine Go.of (fun t k => XS.ifYes X23.here hx rfl (pc0 := 121) (pc' := 133) rfl (hb hby at_121) rfl (XT.i0_eq_t hc121) (by decide) (by decide) k) ?_
        show Go p e below Φ T23 (mkF m 133 #[.val (.int i0), .val (.int i1), .val (.int i2), .val (.int i3), .val (.int i4), .val (.int x5), .val (.int x14), .val (.int x23), .val (.int v36), .val (.int v49), .val (.int v62), .val (.ref b6), .val (.ref sE), .val (.ref b22), .unset, .unset, .unset] [])
        exact j133_24 _ _ _ (X23.more (by decide) (by decide)) rfl N23 Z23 O23 _ (by rw [if_pos hc121]) V_b4 E_b6 E_b22 F_b22_answers F_b22_failures V_b23a V_b23f
      · refine Go.of (fun t k => XS.ifNo X23.here hx rfl (hb hby at_121) rfl (XT.i0_eq_f hc121) k) ?_
        show Go p e below Φ T23 (mkF m 124 #[.val (.int i0), .val (.int i1), .val (.int i2), .val (.int i3), .val (.int i4), .val (.int x5), .val (.int x14), .val (.int x23), .val (.int v36), .val (.int v49), .val (.int v62), .val (.ref b6), .val (.ref sE), .val (.ref b22), .unset, .unset, .unset] [])
        refine Go.of (fun t k => XS.aload X23.here hx rfl (hb hby at_124) rfl rfl  k) ?_
        show Go p e below Φ T23 (mkF m 126 #[.val (.int i0), .val (.int i1), .val (.int i2), .val (.int i3), .val (.int i4), .val (.int x5), .val (.int x14), .val (.int x23), .val (.int v36), .val (.int v49), .val (.int v62), .val (.ref b6), .val (.ref sE), .val (.ref b22), .unset, .unset, .unset] [(.ref b22)])
        refine Go.of (fun t k => XS.iload X23.here hx rfl (hb hby at_126) rfl  k) ?_
        show Go p e below Φ T23 (mkF m 128 #[.val (.int i0), .val (.int i1), .val (.int i2), .val (.int i3), .val (.int i4), .val (.int x5), .val (.int x14), .val (.int x23), .val (.int v36), .val (.int v49), .val (.int v62), .val (.ref b6), .val (.ref sE), .val (.ref b22), .unset, .unset, .unset] [(.int x14), (.ref b22)])
        refine Go.of (fun t k => XS.aload X23.here hx rfl (hb hby at_128) rfl rfl  k) ?_
        show Go p e below Φ T23 (mkF m 130 #[.val (.int i0), .val (.int i1), .val (.int i2), .val (.int i3), .val (.int i4), .val (.int x5), .val (.int x14), .val (.int x23), .val (.int v36), .val (.int v49), .val (.int v62), .val (.ref b6), .val (.ref sE), .val (.ref b22), .unset, .unset, .unset] [(.ref b6), (.int x14), (.ref b22)])
        obtain ⟨cq25, kq25, q25a, q25b, q25c⟩ := isOf hZ rfl E_b22
        obtain ⟨_, _, ⟨T25, L25, k25, n25⟩, -, X25, ⟨Lc25, hQ25, l25, y25, z25⟩, st25⟩ := X23.virtualBack hx (y := (⟨"com/example/compact_commits/compactcommits/transactions/VersionsFound", "answer", "(ILjava/util/Optional;)V"⟩ : MethodName)) (z := (⟨"com/example/compact_commits/compactcommits/transactions/VersionsFound", "answer", "(ILjava/util/Optional;)V"⟩ : MethodName)) hown (mvT hZ (hw _ (List.mem_of_getElem? (i := 54) rfl))) (mvT hZ (hw _ (List.mem_of_getElem? (i := 55) rfl))) (notFace_of_selects (args := #[]) (mvT hZ (hw _ (List.mem_of_getElem? (i := 57) rfl)))) (mvT hZ (hw _ (List.mem_of_getElem? (i := 57) rfl))) (mvT hZ (hw _ (List.mem_of_getElem? (i := 56) rfl))) (by decide) (backOf (W := 0) (rm6 l Z a0 hw [] b22 x14 b6 b23a k23a x5 [] T23.heap n0 Z23 F_b22_answers V_b23a Ov23 (own_idx i0 i1 x5 x14 hx5 hx14) E_b6 g_b23a ne_b22_b23a) hZ (hw _ (List.mem_of_getElem? (i := 58) rfl)) (hw _ (List.mem_of_getElem? (i := 23) rfl)) (by decide) (by decide)) q25a q25c (g := (mkF m 130 #[.val (.int i0), .val (.int i1), .val (.int i2), .val (.int i3), .val (.int i4), .val (.int x5), .val (.int x14), .val (.int x23), .val (.int v36), .val (.int v49), .val (.int v62), .val (.ref b6), .val (.ref sE), .val (.ref b22), .unset, .unset, .unset] [(.ref b6), (.int x14), (.ref b22)])) rfl (by rw [hml]; rfl) (Steps.refl _) (argsL := [(.int x14), (.ref b6)]) (rest := []) (lenOf own_pd4 rfl) rfl (by show 2 * 0 + _ ≤ _; exact Nat.le_of_eq rfl) (hb hby at_130) (fun _ _ => ⟨rfl, rfl, (by decide : 12 + 0 ≤ _), (by decide : 50 + 0 ≤ _)⟩)
        dsimp only [Pt.U, Pt.locs, Pt.cells, Pt.slots] at X25 l25 y25 z25 st25 hQ25
        subst l25 y25 z25
        obtain ⟨rfl, N25q, K25q, cV25⟩ := hQ25
        have N25 := Fr.app N23 N25q
        obtain ⟨lc25, X25, N25⟩ : ∃ lc, Stand p l e room_1 s m #[(.int i0), (.int i1), (.int i2), (.int i3), (.int i4)] below meth c T25 lc 12 50 ∧ Fr n0 lc := ⟨_, X25, N25⟩
        have V_b4 := V_b4.keep K25q (ninS ne_b4_b23a nin0)
        have E_b6 := E_b6.keep K25q
        have E_b22 := E_b22.keep K25q
        have F_b22_answers := F_b22_answers.keep K25q (ninS ne_b22_b23a nin0)
        have F_b22_failures := F_b22_failures.keep K25q (ninS ne_b22_b23a nin0)
        have V_b23f := V_b23f.keep K25q (ninS (Ne.symm ne23) nin0)
        have Z25 := Nat.le_trans Z23 K25q.1
        have O25 := O23.keep K25q (allS g_b23a all0)
        have V_b23a := cV25
        refine Go.tr st25 ?_
        show Go p e below Φ T25 (mkF m 133 #[.val (.int i0), .val (.int i1), .val (.int i2), .val (.int i3), .val (.int i4), .val (.int x5), .val (.int x14), .val (.int x23), .val (.int v36), .val (.int v49), .val (.int v62), .val (.ref b6), .val (.ref sE), .val (.ref b22), .unset, .unset, .unset] [])
        exact j133_24 _ _ _ (X25.more (by decide) (by decide)) rfl N25 Z25 O25 _ (by rw [if_neg hc121]) V_b4 E_b6 E_b22 F_b22_answers F_b22_failures V_b23a V_b23f
    intro T24 h24 lc24 X24 e24 N24 Z24 O24 u133_b23a hu133_b23a V_b4 E_b6 E_b22 F_b22_answers F_b22_failures V_b23a V_b23f
    show Go p e below Φ T24 (mkF m 133 #[.val (.int i0), .val (.int i1), .val (.int i2), .val (.int i3), .val (.int i4), .val (.int x5), .val (.int x14), .val (.int x23), .val (.int v36), .val (.int v49), .val (.int v62), .val (.ref b6), .val (.ref sE), .val (.ref b22), .unset, .unset, .unset] [])
    refine Go.of (fun t k => XS.iload X24.here hx rfl (hb hby at_133) rfl  k) ?_
    show Go p e below Φ T24 (mkF m 135 #[.val (.int i0), .val (.int i1), .val (.int i2), .val (.int i3), .val (.int i4), .val (.int x5), .val (.int x14), .val (.int x23), .val (.int v36), .val (.int v49), .val (.int v62), .val (.ref b6), .val (.ref sE), .val (.ref b22), .unset, .unset, .unset] [(.int v49)])
    suffices j147_26 : ∀ (T26 : State) (h26 : Heap) (lc26 : List Loc), Stand p l e room_1 s m #[(.int i0), (.int i1), (.int i2), (.int i3), (.int i4)] below meth c T26 lc26 12 50 → T26.heap = h26 → Fr n0 lc26 → n0 ≤ h26.size → Old Z n0 h26 → ∀ u147_b23a : List (Int32 × Value), u147_b23a = (if v49 = (0 : Int32) then u133_b23a else ((x23, .ref sE) :: u133_b23a)) → (Arv Z h26 b4 k4 .byte (1 : Int32) [(.int (nar .byte (i4.toInt8.toInt32)))] (.int (0 : Int32))) → (Exa Z h26 b6 "java/util/Optional") → (Exa Z h26 b22 "com/example/compact_commits/compactcommits/transactions/VersionsFound") → (Fld Z h26 b22 "com/example/compact_commits/compactcommits/transactions/VersionsFound" "answers" "[Ljava/util/Optional;" (.ref b23a)) → (Fld Z h26 b22 "com/example/compact_commits/compactcommits/transactions/VersionsFound" "failures" "[Lcom/example/compact_commits/compactcommits/StoreException;" (.ref b23f)) → (Arh Z h26 b23a k23a (.object "java/util/Optional") x5 u147_b23a [] .null) → (Arh Z h26 b23f k23f (.object "com/example/compact_commits/compactcommits/StoreException") x5 [] [] .null) → Go p e below Φ T26 (mkF m 147 #[.val (.int i0), .val (.int i1), .val (.int i2), .val (.int i3), .val (.int i4), .val (.int x5), .val (.int x14), .val (.int x23), .val (.int v36), .val (.int v49), .val (.int v62), .val (.ref b6), .val (.ref sE), .val (.ref b22), .unset, .unset, .unset] []) by
      by_cases hc135 : v49 = (0 : Int32)
      · refine Go.of (fun t k => XS.ifYes X24.here hx rfl (pc0 := 135) (pc' := 147) rfl (hb hby at_135) rfl (XT.i0_eq_t hc135) (by decide) (by decide) k) ?_
        show Go p e below Φ T24 (mkF m 147 #[.val (.int i0), .val (.int i1), .val (.int i2), .val (.int i3), .val (.int i4), .val (.int x5), .val (.int x14), .val (.int x23), .val (.int v36), .val (.int v49), .val (.int v62), .val (.ref b6), .val (.ref sE), .val (.ref b22), .unset, .unset, .unset] [])
        exact j147_26 _ _ _ (X24.more (by decide) (by decide)) e24 N24 Z24 O24 _ (by rw [if_pos hc135]) V_b4 E_b6 E_b22 F_b22_answers F_b22_failures V_b23a V_b23f
      · refine Go.of (fun t k => XS.ifNo X24.here hx rfl (hb hby at_135) rfl (XT.i0_eq_f hc135) k) ?_
        show Go p e below Φ T24 (mkF m 138 #[.val (.int i0), .val (.int i1), .val (.int i2), .val (.int i3), .val (.int i4), .val (.int x5), .val (.int x14), .val (.int x23), .val (.int v36), .val (.int v49), .val (.int v62), .val (.ref b6), .val (.ref sE), .val (.ref b22), .unset, .unset, .unset] [])
        refine Go.of (fun t k => XS.aload X24.here hx rfl (hb hby at_138) rfl rfl  k) ?_
        show Go p e below Φ T24 (mkF m 140 #[.val (.int i0), .val (.int i1), .val (.int i2), .val (.int i3), .val (.int i4), .val (.int x5), .val (.int x14), .val (.int x23), .val (.int v36), .val (.int v49), .val (.int v62), .val (.ref b6), .val (.ref sE), .val (.ref b22), .unset, .unset, .unset] [(.ref b22)])
        refine Go.of (fun t k => XS.iload X24.here hx rfl (hb hby at_140) rfl  k) ?_
        show Go p e below Φ T24 (mkF m 142 #[.val (.int i0), .val (.int i1), .val (.int i2), .val (.int i3), .val (.int i4), .val (.int x5), .val (.int x14), .val (.int x23), .val (.int v36), .val (.int v49), .val (.int v62), .val (.ref b6), .val (.ref sE), .val (.ref b22), .unset, .unset, .unset] [(.int x23), (.ref b22)])
        refine Go.of (fun t k => XS.aload X24.here hx rfl (hb hby at_142) rfl rfl  k) ?_
        show Go p e below Φ T24 (mkF m 144 #[.val (.int i0), .val (.int i1), .val (.int i2), .val (.int i3), .val (.int i4), .val (.int x5), .val (.int x14), .val (.int x23), .val (.int v36), .val (.int v49), .val (.int v62), .val (.ref b6), .val (.ref sE), .val (.ref b22), .unset, .unset, .unset] [(.ref sE), (.int x23), (.ref b22)])
        obtain ⟨cq27, kq27, q27a, q27b, q27c⟩ := isOf hZ e24 E_b22
        obtain ⟨_, _, ⟨T27, L27, k27, n27⟩, -, X27, ⟨Lc27, hQ27, l27, y27, z27⟩, st27⟩ := X24.virtualBack hx (y := (⟨"com/example/compact_commits/compactcommits/transactions/VersionsFound", "answer", "(ILjava/util/Optional;)V"⟩ : MethodName)) (z := (⟨"com/example/compact_commits/compactcommits/transactions/VersionsFound", "answer", "(ILjava/util/Optional;)V"⟩ : MethodName)) hown (mvT hZ (hw _ (List.mem_of_getElem? (i := 54) rfl))) (mvT hZ (hw _ (List.mem_of_getElem? (i := 55) rfl))) (notFace_of_selects (args := #[]) (mvT hZ (hw _ (List.mem_of_getElem? (i := 57) rfl)))) (mvT hZ (hw _ (List.mem_of_getElem? (i := 57) rfl))) (mvT hZ (hw _ (List.mem_of_getElem? (i := 56) rfl))) (by decide) (backOf (W := 0) (rm6 l Z a0 hw [] b22 x23 sE b23a k23a x5 u133_b23a h24 n0 Z24 F_b22_answers V_b23a Ov23 (own_idx i0 i2 x5 x23 hx5 hx23) (E_sE.ext O24.2) g_b23a ne_b22_b23a) hZ (hw _ (List.mem_of_getElem? (i := 58) rfl)) (hw _ (List.mem_of_getElem? (i := 23) rfl)) (by decide) (by decide)) q27a q27c (g := (mkF m 144 #[.val (.int i0), .val (.int i1), .val (.int i2), .val (.int i3), .val (.int i4), .val (.int x5), .val (.int x14), .val (.int x23), .val (.int v36), .val (.int v49), .val (.int v62), .val (.ref b6), .val (.ref sE), .val (.ref b22), .unset, .unset, .unset] [(.ref sE), (.int x23), (.ref b22)])) rfl (by rw [hml]; rfl) (Steps.refl _) (argsL := [(.int x23), (.ref sE)]) (rest := []) (lenOf own_pd4 rfl) rfl (by show 2 * 0 + _ ≤ _; exact Nat.le_of_eq rfl) (hb hby at_144) (fun _ _ => ⟨rfl, e24, (by decide : 12 + 0 ≤ _), (by decide : 50 + 0 ≤ _)⟩)
        dsimp only [Pt.U, Pt.locs, Pt.cells, Pt.slots] at X27 l27 y27 z27 st27 hQ27
        subst l27 y27 z27
        obtain ⟨rfl, N27q, K27q, cV27⟩ := hQ27
        have N27 := Fr.app N24 N27q
        obtain ⟨lc27, X27, N27⟩ : ∃ lc, Stand p l e room_1 s m #[(.int i0), (.int i1), (.int i2), (.int i3), (.int i4)] below meth c T27 lc 12 50 ∧ Fr n0 lc := ⟨_, X27, N27⟩
        have V_b4 := V_b4.keep K27q (ninS ne_b4_b23a nin0)
        have E_b6 := E_b6.keep K27q
        have E_b22 := E_b22.keep K27q
        have F_b22_answers := F_b22_answers.keep K27q (ninS ne_b22_b23a nin0)
        have F_b22_failures := F_b22_failures.keep K27q (ninS ne_b22_b23a nin0)
        have V_b23f := V_b23f.keep K27q (ninS (Ne.symm ne23) nin0)
        have Z27 := Nat.le_trans Z24 K27q.1
        have O27 := O24.keep K27q (allS g_b23a all0)
        have V_b23a := cV27
        refine Go.tr st27 ?_
        show Go p e below Φ T27 (mkF m 147 #[.val (.int i0), .val (.int i1), .val (.int i2), .val (.int i3), .val (.int i4), .val (.int x5), .val (.int x14), .val (.int x23), .val (.int v36), .val (.int v49), .val (.int v62), .val (.ref b6), .val (.ref sE), .val (.ref b22), .unset, .unset, .unset] [])
        exact j147_26 _ _ _ (X27.more (by decide) (by decide)) rfl N27 Z27 O27 _ (by rw [if_neg hc135]) V_b4 E_b6 E_b22 F_b22_answers F_b22_failures V_b23a V_b23f
    intro T26 h26 lc26 X26 e26 N26 Z26 O26 u147_b23a hu147_b23a V_b4 E_b6 E_b22 F_b22_answers F_b22_failures V_b23a V_b23f
    show Go p e below Φ T26 (mkF m 147 #[.val (.int i0), .val (.int i1), .val (.int i2), .val (.int i3), .val (.int i4), .val (.int x5), .val (.int x14), .val (.int x23), .val (.int v36), .val (.int v49), .val (.int v62), .val (.ref b6), .val (.ref sE), .val (.ref b22), .unset, .unset, .unset] [])
    refine Go.of (fun t k => XS.iload X26.here hx rfl (hb hby at_147) rfl  k) ?_
    show Go p e below Φ T26 (mkF m 149 #[.val (.int i0), .val (.int i1), .val (.int i2), .val (.int i3), .val (.int i4), .val (.int x5), .val (.int x14), .val (.int x23), .val (.int v36), .val (.int v49), .val (.int v62), .val (.ref b6), .val (.ref sE), .val (.ref b22), .unset, .unset, .unset] [(.int x14)])
    refine Go.of (fun t k => XS.iload X26.here hx rfl (hb hby at_149) rfl  k) ?_
    show Go p e below Φ T26 (mkF m 151 #[.val (.int i0), .val (.int i1), .val (.int i2), .val (.int i3), .val (.int i4), .val (.int x5), .val (.int x14), .val (.int x23), .val (.int v36), .val (.int v49), .val (.int v62), .val (.ref b6), .val (.ref sE), .val (.ref b22), .unset, .unset, .unset] [(.int x23), (.int x14)])
    suffices j159_28 :  ∀ v159 : Int32, v159 = (if x14 = x23 then (1 : Int32) else (0 : Int32)) → Go p e below Φ T26 (mkF m 159 #[.val (.int i0), .val (.int i1), .val (.int i2), .val (.int i3), .val (.int i4), .val (.int x5), .val (.int x14), .val (.int x23), .val (.int v36), .val (.int v49), .val (.int v62), .val (.ref b6), .val (.ref sE), .val (.ref b22), .unset, .unset, .unset] [(.int v159)]) by
      by_cases hc151 : x14 = x23
      · refine Go.of (fun t k => XS.icmpNo X26.here hx rfl (hb hby at_151) rfl (XT.ii_ne_f hc151) k) ?_
        show Go p e below Φ T26 (mkF m 154 #[.val (.int i0), .val (.int i1), .val (.int i2), .val (.int i3), .val (.int i4), .val (.int x5), .val (.int x14), .val (.int x23), .val (.int v36), .val (.int v49), .val (.int v62), .val (.ref b6), .val (.ref sE), .val (.ref b22), .unset, .unset, .unset] [])
        refine Go.of (fun t k => XS.iconst X26.here hx rfl (hb hby at_154) k) ?_
        show Go p e below Φ T26 (mkF m 155 #[.val (.int i0), .val (.int i1), .val (.int i2), .val (.int i3), .val (.int i4), .val (.int x5), .val (.int x14), .val (.int x23), .val (.int v36), .val (.int v49), .val (.int v62), .val (.ref b6), .val (.ref sE), .val (.ref b22), .unset, .unset, .unset] [(.int (1 : Int32))])
        refine Go.of (fun t k => XS.goto X26.here hx rfl (pc0 := 155) (pc' := 159) rfl (hb hby at_155) (by decide) (by decide) k) ?_
        show Go p e below Φ T26 (mkF m 159 #[.val (.int i0), .val (.int i1), .val (.int i2), .val (.int i3), .val (.int i4), .val (.int x5), .val (.int x14), .val (.int x23), .val (.int v36), .val (.int v49), .val (.int v62), .val (.ref b6), .val (.ref sE), .val (.ref b22), .unset, .unset, .unset] [(.int (1 : Int32))])
        exact j159_28 _ (by rw [if_pos hc151])
      · refine Go.of (fun t k => XS.icmpYes X26.here hx rfl (pc0 := 151) (pc' := 158) rfl (hb hby at_151) rfl (XT.ii_ne_t hc151) (by decide) (by decide) k) ?_
        show Go p e below Φ T26 (mkF m 158 #[.val (.int i0), .val (.int i1), .val (.int i2), .val (.int i3), .val (.int i4), .val (.int x5), .val (.int x14), .val (.int x23), .val (.int v36), .val (.int v49), .val (.int v62), .val (.ref b6), .val (.ref sE), .val (.ref b22), .unset, .unset, .unset] [])
        refine Go.of (fun t k => XS.iconst X26.here hx rfl (hb hby at_158) k) ?_
        show Go p e below Φ T26 (mkF m 159 #[.val (.int i0), .val (.int i1), .val (.int i2), .val (.int i3), .val (.int i4), .val (.int x5), .val (.int x14), .val (.int x23), .val (.int v36), .val (.int v49), .val (.int v62), .val (.ref b6), .val (.ref sE), .val (.ref b22), .unset, .unset, .unset] [(.int (0 : Int32))])
        exact j159_28 _ (by rw [if_neg hc151])
    intro v159 hv159
    show Go p e below Φ T26 (mkF m 159 #[.val (.int i0), .val (.int i1), .val (.int i2), .val (.int i3), .val (.int i4), .val (.int x5), .val (.int x14), .val (.int x23), .val (.int v36), .val (.int v49), .val (.int v62), .val (.ref b6), .val (.ref sE), .val (.ref b22), .unset, .unset, .unset] [(.int v159)])
    refine Go.of (fun t k => XS.istore X26.here hx rfl (hb hby at_159) rfl (l' := #[.val (.int i0), .val (.int i1), .val (.int i2), .val (.int i3), .val (.int i4), .val (.int x5), .val (.int x14), .val (.int x23), .val (.int v36), .val (.int v49), .val (.int v62), .val (.ref b6), .val (.ref sE), .val (.ref b22), .val (.int v159), .unset, .unset]) rfl k) ?_
    show Go p e below Φ T26 (mkF m 161 #[.val (.int i0), .val (.int i1), .val (.int i2), .val (.int i3), .val (.int i4), .val (.int x5), .val (.int x14), .val (.int x23), .val (.int v36), .val (.int v49), .val (.int v62), .val (.ref b6), .val (.ref sE), .val (.ref b22), .val (.int v159), .unset, .unset] [])
    refine Go.of (fun t k => XS.aload X26.here hx rfl (hb hby at_161) rfl rfl  k) ?_
    show Go p e below Φ T26 (mkF m 163 #[.val (.int i0), .val (.int i1), .val (.int i2), .val (.int i3), .val (.int i4), .val (.int x5), .val (.int x14), .val (.int x23), .val (.int v36), .val (.int v49), .val (.int v62), .val (.ref b6), .val (.ref sE), .val (.ref b22), .val (.int v159), .unset, .unset] [(.ref b22)])
    refine Go.of (fun t k => XS.iload X26.here hx rfl (hb hby at_163) rfl  k) ?_
    show Go p e below Φ T26 (mkF m 165 #[.val (.int i0), .val (.int i1), .val (.int i2), .val (.int i3), .val (.int i4), .val (.int x5), .val (.int x14), .val (.int x23), .val (.int v36), .val (.int v49), .val (.int v62), .val (.ref b6), .val (.ref sE), .val (.ref b22), .val (.int v159), .unset, .unset] [(.int x14), (.ref b22)])
    obtain ⟨cq29, kq29, q29a, q29b, q29c⟩ := isOf hZ e26 E_b22
    obtain ⟨_, _, ⟨T29, L29, k29, n29⟩, -, X29, ⟨Lc29, hQ29, l29, y29, z29⟩, st29⟩ := X26.virtualBack hx (y := (⟨"com/example/compact_commits/compactcommits/transactions/VersionsFound", "answer", "(I)Ljava/util/Optional;"⟩ : MethodName)) (z := (⟨"com/example/compact_commits/compactcommits/transactions/VersionsFound", "answer", "(I)Ljava/util/Optional;"⟩ : MethodName)) hown (mvT hZ (hw _ (List.mem_of_getElem? (i := 59) rfl))) (mvT hZ (hw _ (List.mem_of_getElem? (i := 60) rfl))) (notFace_of_selects (args := #[]) (mvT hZ (hw _ (List.mem_of_getElem? (i := 62) rfl)))) (mvT hZ (hw _ (List.mem_of_getElem? (i := 62) rfl))) (mvT hZ (hw _ (List.mem_of_getElem? (i := 61) rfl))) (by decide) (backOf (W := 0) (rm7 l Z a0 hw [] b22 x14 b23a b23f k23a k23f x5 u147_b23a h26 n0 Z26 F_b22_answers F_b22_failures V_b23a V_b23f (own_idx i0 i1 x5 x14 hx5 hx14)) hZ (hw _ (List.mem_of_getElem? (i := 63) rfl)) (hw _ (List.mem_of_getElem? (i := 23) rfl)) (by decide) (by decide)) q29a q29c (g := (mkF m 165 #[.val (.int i0), .val (.int i1), .val (.int i2), .val (.int i3), .val (.int i4), .val (.int x5), .val (.int x14), .val (.int x23), .val (.int v36), .val (.int v49), .val (.int v62), .val (.ref b6), .val (.ref sE), .val (.ref b22), .val (.int v159), .unset, .unset] [(.int x14), (.ref b22)])) rfl (by rw [hml]; rfl) (Steps.refl _) (argsL := [(.int x14)]) (rest := []) (lenOf own_pd5 rfl) rfl (by show 2 * 0 + _ ≤ _; exact Nat.le_of_eq rfl) (hb hby at_165) (fun _ _ => ⟨rfl, e26, (by decide : 12 + 0 ≤ _), (by decide : 50 + 0 ≤ _)⟩)
    dsimp only [Pt.U, Pt.locs, Pt.cells, Pt.slots] at X29 l29 y29 z29 st29 hQ29
    subst l29 y29 z29
    obtain ⟨rfl, N29q, e29q, r29q⟩ := hQ29
    have N29 := Fr.app N26 N29q
    obtain ⟨lc29, X29, N29⟩ : ∃ lc, Stand p l e room_1 s m #[(.int i0), (.int i1), (.int i2), (.int i3), (.int i4)] below meth c T29 lc 12 50 ∧ Fr n0 lc := ⟨_, X29, N29⟩
    refine Go.tr st29 ?_
    show Go p e below Φ T29 (mkF m 168 #[.val (.int i0), .val (.int i1), .val (.int i2), .val (.int i3), .val (.int i4), .val (.int x5), .val (.int x14), .val (.int x23), .val (.int v36), .val (.int v49), .val (.int v62), .val (.ref b6), .val (.ref sE), .val (.ref b22), .val (.int v159), .unset, .unset] [(getH u147_b23a [] .null (x14).toNatClampNeg)])
    refine Go.of (fun t k => XS.astore X29.here hx rfl (hb hby at_168) rfl r29q (l' := #[.val (.int i0), .val (.int i1), .val (.int i2), .val (.int i3), .val (.int i4), .val (.int x5), .val (.int x14), .val (.int x23), .val (.int v36), .val (.int v49), .val (.int v62), .val (.ref b6), .val (.ref sE), .val (.ref b22), .val (.int v159), .val (getH u147_b23a [] .null (x14).toNatClampNeg), .unset]) (XS.store1 rfl (Or.inl rfl) (XT.cat1 r29q)) k) ?_
    show Go p e below Φ T29 (mkF m 170 #[.val (.int i0), .val (.int i1), .val (.int i2), .val (.int i3), .val (.int i4), .val (.int x5), .val (.int x14), .val (.int x23), .val (.int v36), .val (.int v49), .val (.int v62), .val (.ref b6), .val (.ref sE), .val (.ref b22), .val (.int v159), .val (getH u147_b23a [] .null (x14).toNatClampNeg), .unset] [])
    refine Go.of (fun t k => XS.aload X29.here hx rfl (hb hby at_170) rfl rfl  k) ?_
    show Go p e below Φ T29 (mkF m 172 #[.val (.int i0), .val (.int i1), .val (.int i2), .val (.int i3), .val (.int i4), .val (.int x5), .val (.int x14), .val (.int x23), .val (.int v36), .val (.int v49), .val (.int v62), .val (.ref b6), .val (.ref sE), .val (.ref b22), .val (.int v159), .val (getH u147_b23a [] .null (x14).toNatClampNeg), .unset] [(.ref b22)])
    refine Go.of (fun t k => XS.iload X29.here hx rfl (hb hby at_172) rfl  k) ?_
    show Go p e below Φ T29 (mkF m 174 #[.val (.int i0), .val (.int i1), .val (.int i2), .val (.int i3), .val (.int i4), .val (.int x5), .val (.int x14), .val (.int x23), .val (.int v36), .val (.int v49), .val (.int v62), .val (.ref b6), .val (.ref sE), .val (.ref b22), .val (.int v159), .val (getH u147_b23a [] .null (x14).toNatClampNeg), .unset] [(.int x23), (.ref b22)])
    obtain ⟨cq30, kq30, q30a, q30b, q30c⟩ := isOf hZ (e29q) E_b22
    obtain ⟨_, _, ⟨T30, L30, k30, n30⟩, -, X30, ⟨Lc30, hQ30, l30, y30, z30⟩, st30⟩ := X29.virtualBack hx (y := (⟨"com/example/compact_commits/compactcommits/transactions/VersionsFound", "answer", "(I)Ljava/util/Optional;"⟩ : MethodName)) (z := (⟨"com/example/compact_commits/compactcommits/transactions/VersionsFound", "answer", "(I)Ljava/util/Optional;"⟩ : MethodName)) hown (mvT hZ (hw _ (List.mem_of_getElem? (i := 59) rfl))) (mvT hZ (hw _ (List.mem_of_getElem? (i := 60) rfl))) (notFace_of_selects (args := #[]) (mvT hZ (hw _ (List.mem_of_getElem? (i := 62) rfl)))) (mvT hZ (hw _ (List.mem_of_getElem? (i := 62) rfl))) (mvT hZ (hw _ (List.mem_of_getElem? (i := 61) rfl))) (by decide) (backOf (W := 0) (rm7 l Z a0 hw [] b22 x23 b23a b23f k23a k23f x5 u147_b23a h26 n0 Z26 F_b22_answers F_b22_failures V_b23a V_b23f (own_idx i0 i2 x5 x23 hx5 hx23)) hZ (hw _ (List.mem_of_getElem? (i := 63) rfl)) (hw _ (List.mem_of_getElem? (i := 23) rfl)) (by decide) (by decide)) q30a q30c (g := (mkF m 174 #[.val (.int i0), .val (.int i1), .val (.int i2), .val (.int i3), .val (.int i4), .val (.int x5), .val (.int x14), .val (.int x23), .val (.int v36), .val (.int v49), .val (.int v62), .val (.ref b6), .val (.ref sE), .val (.ref b22), .val (.int v159), .val (getH u147_b23a [] .null (x14).toNatClampNeg), .unset] [(.int x23), (.ref b22)])) rfl (by rw [hml]; rfl) (Steps.refl _) (argsL := [(.int x23)]) (rest := []) (lenOf own_pd5 rfl) rfl (by show 2 * 0 + _ ≤ _; exact Nat.le_of_eq rfl) (hb hby at_174) (fun _ _ => ⟨rfl, (e29q), (by decide : 12 + 0 ≤ _), (by decide : 50 + 0 ≤ _)⟩)
    dsimp only [Pt.U, Pt.locs, Pt.cells, Pt.slots] at X30 l30 y30 z30 st30 hQ30
    subst l30 y30 z30
    obtain ⟨rfl, N30q, e30q, r30q⟩ := hQ30
    have N30 := Fr.app N29 N30q
    obtain ⟨lc30, X30, N30⟩ : ∃ lc, Stand p l e room_1 s m #[(.int i0), (.int i1), (.int i2), (.int i3), (.int i4)] below meth c T30 lc 12 50 ∧ Fr n0 lc := ⟨_, X30, N30⟩
    refine Go.tr st30 ?_
    show Go p e below Φ T30 (mkF m 177 #[.val (.int i0), .val (.int i1), .val (.int i2), .val (.int i3), .val (.int i4), .val (.int x5), .val (.int x14), .val (.int x23), .val (.int v36), .val (.int v49), .val (.int v62), .val (.ref b6), .val (.ref sE), .val (.ref b22), .val (.int v159), .val (getH u147_b23a [] .null (x14).toNatClampNeg), .unset] [(getH u147_b23a [] .null (x23).toNatClampNeg)])
    refine Go.of (fun t k => XS.astore X30.here hx rfl (hb hby at_177) rfl r30q (l' := #[.val (.int i0), .val (.int i1), .val (.int i2), .val (.int i3), .val (.int i4), .val (.int x5), .val (.int x14), .val (.int x23), .val (.int v36), .val (.int v49), .val (.int v62), .val (.ref b6), .val (.ref sE), .val (.ref b22), .val (.int v159), .val (getH u147_b23a [] .null (x14).toNatClampNeg), .val (getH u147_b23a [] .null (x23).toNatClampNeg)]) (XS.store1 rfl (Or.inl rfl) (XT.cat1 r30q)) k) ?_
    show Go p e below Φ T30 (mkF m 179 #[.val (.int i0), .val (.int i1), .val (.int i2), .val (.int i3), .val (.int i4), .val (.int x5), .val (.int x14), .val (.int x23), .val (.int v36), .val (.int v49), .val (.int v62), .val (.ref b6), .val (.ref sE), .val (.ref b22), .val (.int v159), .val (getH u147_b23a [] .null (x14).toNatClampNeg), .val (getH u147_b23a [] .null (x23).toNatClampNeg)] [])
    refine Go.of (fun t k => XS.aload X30.here hx rfl (hb hby at_179) rfl r29q  k) ?_
    show Go p e below Φ T30 (mkF m 181 #[.val (.int i0), .val (.int i1), .val (.int i2), .val (.int i3), .val (.int i4), .val (.int x5), .val (.int x14), .val (.int x23), .val (.int v36), .val (.int v49), .val (.int v62), .val (.ref b6), .val (.ref sE), .val (.ref b22), .val (.int v159), .val (getH u147_b23a [] .null (x14).toNatClampNeg), .val (getH u147_b23a [] .null (x23).toNatClampNeg)] [(getH u147_b23a [] .null (x14).toNatClampNeg)])
    refine Go.of (fun t k => XS.iload X30.here hx rfl (hb hby at_181) rfl  k) ?_
    show Go p e below Φ T30 (mkF m 183 #[.val (.int i0), .val (.int i1), .val (.int i2), .val (.int i3), .val (.int i4), .val (.int x5), .val (.int x14), .val (.int x23), .val (.int v36), .val (.int v49), .val (.int v62), .val (.ref b6), .val (.ref sE), .val (.ref b22), .val (.int v159), .val (getH u147_b23a [] .null (x14).toNatClampNeg), .val (getH u147_b23a [] .null (x23).toNatClampNeg)] [(.int v36), (getH u147_b23a [] .null (x14).toNatClampNeg)])
    refine Go.of (fun t k => XS.iload X30.here hx rfl (hb hby at_183) rfl  k) ?_
    show Go p e below Φ T30 (mkF m 185 #[.val (.int i0), .val (.int i1), .val (.int i2), .val (.int i3), .val (.int i4), .val (.int x5), .val (.int x14), .val (.int x23), .val (.int v36), .val (.int v49), .val (.int v62), .val (.ref b6), .val (.ref sE), .val (.ref b22), .val (.int v159), .val (getH u147_b23a [] .null (x14).toNatClampNeg), .val (getH u147_b23a [] .null (x23).toNatClampNeg)] [(.int v49), (.int v36), (getH u147_b23a [] .null (x14).toNatClampNeg)])
    refine Go.of (fun t k => XS.iload X30.here hx rfl (hb hby at_185) rfl  k) ?_
    show Go p e below Φ T30 (mkF m 187 #[.val (.int i0), .val (.int i1), .val (.int i2), .val (.int i3), .val (.int i4), .val (.int x5), .val (.int x14), .val (.int x23), .val (.int v36), .val (.int v49), .val (.int v62), .val (.ref b6), .val (.ref sE), .val (.ref b22), .val (.int v159), .val (getH u147_b23a [] .null (x14).toNatClampNeg), .val (getH u147_b23a [] .null (x23).toNatClampNeg)] [(.int v159), (.int v49), (.int v36), (getH u147_b23a [] .null (x14).toNatClampNeg)])
    refine Go.of (fun t k => XS.iconst X30.here hx rfl (hb hby at_187) k) ?_
    show Go p e below Φ T30 (mkF m 188 #[.val (.int i0), .val (.int i1), .val (.int i2), .val (.int i3), .val (.int i4), .val (.int x5), .val (.int x14), .val (.int x23), .val (.int v36), .val (.int v49), .val (.int v62), .val (.ref b6), .val (.ref sE), .val (.ref b22), .val (.int v159), .val (getH u147_b23a [] .null (x14).toNatClampNeg), .val (getH u147_b23a [] .null (x23).toNatClampNeg)] [(.int (1 : Int32)), (.int v159), (.int v49), (.int v36), (getH u147_b23a [] .null (x14).toNatClampNeg)])
    refine Go.of (fun t k => XS.aload X30.here hx rfl (hb hby at_188) rfl rfl  k) ?_
    show Go p e below Φ T30 (mkF m 190 #[.val (.int i0), .val (.int i1), .val (.int i2), .val (.int i3), .val (.int i4), .val (.int x5), .val (.int x14), .val (.int x23), .val (.int v36), .val (.int v49), .val (.int v62), .val (.ref b6), .val (.ref sE), .val (.ref b22), .val (.int v159), .val (getH u147_b23a [] .null (x14).toNatClampNeg), .val (getH u147_b23a [] .null (x23).toNatClampNeg)] [(.ref b6), (.int (1 : Int32)), (.int v159), (.int v49), (.int v36), (getH u147_b23a [] .null (x14).toNatClampNeg)])
    refine Go.of (fun t k => XS.aload X30.here hx rfl (hb hby at_190) rfl rfl  k) ?_
    show Go p e below Φ T30 (mkF m 192 #[.val (.int i0), .val (.int i1), .val (.int i2), .val (.int i3), .val (.int i4), .val (.int x5), .val (.int x14), .val (.int x23), .val (.int v36), .val (.int v49), .val (.int v62), .val (.ref b6), .val (.ref sE), .val (.ref b22), .val (.int v159), .val (getH u147_b23a [] .null (x14).toNatClampNeg), .val (getH u147_b23a [] .null (x23).toNatClampNeg)] [(.ref sE), (.ref b6), (.int (1 : Int32)), (.int v159), (.int v49), (.int v36), (getH u147_b23a [] .null (x14).toNatClampNeg)])
    obtain ⟨_, _, ⟨T31, L31, k31, n31⟩, -, X31, ⟨Lc31, hQ31, l31, y31, z31⟩, st31⟩ := Jvm.LawKit.callS X30 hx (y := (⟨"com/example/compact_commits/compactcommits/transactions/VersionsFoundAnswerPinLaw", "expected", "(ZZZZLjava/util/Optional;Ljava/util/Optional;)Ljava/util/Optional;"⟩ : MethodName)) hown (mvT hZ (hw _ (List.mem_of_getElem? (i := 64) rfl))) (mvT hZ (hw _ (List.mem_of_getElem? (i := 65) rfl))) (mvT hZ (hw _ (List.mem_of_getElem? (i := 66) rfl))) (mvT hZ (hw _ (List.mem_of_getElem? (i := 67) rfl))) (by decide) (backOf (W := 1) (rm8 l Z a0 hw [] v36 v49 v159 (1 : Int32) b6 sE h26 n0 Z26 ) hZ (hw _ (List.mem_of_getElem? (i := 67) rfl)) (hw _ (List.mem_of_getElem? (i := 66) rfl)) (by decide) (by decide)) (g := (mkF m 192 #[.val (.int i0), .val (.int i1), .val (.int i2), .val (.int i3), .val (.int i4), .val (.int x5), .val (.int x14), .val (.int x23), .val (.int v36), .val (.int v49), .val (.int v62), .val (.ref b6), .val (.ref sE), .val (.ref b22), .val (.int v159), .val (getH u147_b23a [] .null (x14).toNatClampNeg), .val (getH u147_b23a [] .null (x23).toNatClampNeg)] [(.ref sE), (.ref b6), (.int (1 : Int32)), (.int v159), (.int v49), (.int v36), (getH u147_b23a [] .null (x14).toNatClampNeg)])) rfl (by rw [hml]; rfl) (argsL := [(.int v36), (.int v49), (.int v159), (.int (1 : Int32)), (.ref b6), (.ref sE)]) (rest := [(getH u147_b23a [] .null (x14).toNatClampNeg)]) (lenOf own_pd6 rfl) rfl (own_w1 r29q) (hb hby at_192) (fun _ _ => ⟨rfl, (e30q), (by decide : 12 + 0 ≤ _), (by decide : 50 + 0 ≤ _)⟩)
    dsimp only [Pt.U, Pt.locs, Pt.cells, Pt.slots] at X31 l31 y31 z31 st31 hQ31
    subst l31 y31 z31
    obtain ⟨rfl, N31q, e31q⟩ := hQ31
    have N31 := Fr.app N30 N31q
    obtain ⟨lc31, X31, N31⟩ : ∃ lc, Stand p l e room_1 s m #[(.int i0), (.int i1), (.int i2), (.int i3), (.int i4)] below meth c T31 lc 12 50 ∧ Fr n0 lc := ⟨_, X31, N31⟩
    refine Go.of st31 ?_
    show Go p e below Φ T31 (mkF m 195 #[.val (.int i0), .val (.int i1), .val (.int i2), .val (.int i3), .val (.int i4), .val (.int x5), .val (.int x14), .val (.int x23), .val (.int v36), .val (.int v49), .val (.int v62), .val (.ref b6), .val (.ref sE), .val (.ref b22), .val (.int v159), .val (getH u147_b23a [] .null (x14).toNatClampNeg), .val (getH u147_b23a [] .null (x23).toNatClampNeg)] [(own_exp v36 v49 v159 (1 : Int32) b6 sE), (getH u147_b23a [] .null (x14).toNatClampNeg)])
    refine Go.of (fun t k => Jvm.RoadKit.acmp (g := (mkF m 195 #[.val (.int i0), .val (.int i1), .val (.int i2), .val (.int i3), .val (.int i4), .val (.int x5), .val (.int x14), .val (.int x23), .val (.int v36), .val (.int v49), .val (.int v62), .val (.ref b6), .val (.ref sE), .val (.ref b22), .val (.int v159), .val (getH u147_b23a [] .null (x14).toNatClampNeg), .val (getH u147_b23a [] .null (x23).toNatClampNeg)] [(own_exp v36 v49 v159 (1 : Int32) b6 sE), (getH u147_b23a [] .null (x14).toNatClampNeg)])) X31 hx rfl r29q (own_expr v36 v49 v159 (1 : Int32) b6 sE) (pc0 := 195) (pc' := 198) (same := true) rfl (hb hby at_195) rfl (decide_eq_true (own_eqI x14 x23 v36 v49 v159 _ _ u133_b23a u147_b23a hu133_b23a hu147_b23a hv159 (own_idx i0 i1 x5 x14 hx5 hx14).1 (own_idx i0 i2 x5 x23 hx5 hx23).1)) (by decide) (by decide) k) ?_
    show Go p e below Φ T31 (mkF m 198 #[.val (.int i0), .val (.int i1), .val (.int i2), .val (.int i3), .val (.int i4), .val (.int x5), .val (.int x14), .val (.int x23), .val (.int v36), .val (.int v49), .val (.int v62), .val (.ref b6), .val (.ref sE), .val (.ref b22), .val (.int v159), .val (getH u147_b23a [] .null (x14).toNatClampNeg), .val (getH u147_b23a [] .null (x23).toNatClampNeg)] [])
    refine Go.of (fun t k => XS.aload X31.here hx rfl (hb hby at_198) rfl r30q  k) ?_
    show Go p e below Φ T31 (mkF m 200 #[.val (.int i0), .val (.int i1), .val (.int i2), .val (.int i3), .val (.int i4), .val (.int x5), .val (.int x14), .val (.int x23), .val (.int v36), .val (.int v49), .val (.int v62), .val (.ref b6), .val (.ref sE), .val (.ref b22), .val (.int v159), .val (getH u147_b23a [] .null (x14).toNatClampNeg), .val (getH u147_b23a [] .null (x23).toNatClampNeg)] [(getH u147_b23a [] .null (x23).toNatClampNeg)])
    refine Go.of (fun t k => XS.iload X31.here hx rfl (hb hby at_200) rfl  k) ?_
    show Go p e below Φ T31 (mkF m 202 #[.val (.int i0), .val (.int i1), .val (.int i2), .val (.int i3), .val (.int i4), .val (.int x5), .val (.int x14), .val (.int x23), .val (.int v36), .val (.int v49), .val (.int v62), .val (.ref b6), .val (.ref sE), .val (.ref b22), .val (.int v159), .val (getH u147_b23a [] .null (x14).toNatClampNeg), .val (getH u147_b23a [] .null (x23).toNatClampNeg)] [(.int v36), (getH u147_b23a [] .null (x23).toNatClampNeg)])
    refine Go.of (fun t k => XS.iload X31.here hx rfl (hb hby at_202) rfl  k) ?_
    show Go p e below Φ T31 (mkF m 204 #[.val (.int i0), .val (.int i1), .val (.int i2), .val (.int i3), .val (.int i4), .val (.int x5), .val (.int x14), .val (.int x23), .val (.int v36), .val (.int v49), .val (.int v62), .val (.ref b6), .val (.ref sE), .val (.ref b22), .val (.int v159), .val (getH u147_b23a [] .null (x14).toNatClampNeg), .val (getH u147_b23a [] .null (x23).toNatClampNeg)] [(.int v49), (.int v36), (getH u147_b23a [] .null (x23).toNatClampNeg)])
    refine Go.of (fun t k => XS.iload X31.here hx rfl (hb hby at_204) rfl  k) ?_
    show Go p e below Φ T31 (mkF m 206 #[.val (.int i0), .val (.int i1), .val (.int i2), .val (.int i3), .val (.int i4), .val (.int x5), .val (.int x14), .val (.int x23), .val (.int v36), .val (.int v49), .val (.int v62), .val (.ref b6), .val (.ref sE), .val (.ref b22), .val (.int v159), .val (getH u147_b23a [] .null (x14).toNatClampNeg), .val (getH u147_b23a [] .null (x23).toNatClampNeg)] [(.int v159), (.int v49), (.int v36), (getH u147_b23a [] .null (x23).toNatClampNeg)])
    refine Go.of (fun t k => XS.iconst X31.here hx rfl (hb hby at_206) k) ?_
    show Go p e below Φ T31 (mkF m 207 #[.val (.int i0), .val (.int i1), .val (.int i2), .val (.int i3), .val (.int i4), .val (.int x5), .val (.int x14), .val (.int x23), .val (.int v36), .val (.int v49), .val (.int v62), .val (.ref b6), .val (.ref sE), .val (.ref b22), .val (.int v159), .val (getH u147_b23a [] .null (x14).toNatClampNeg), .val (getH u147_b23a [] .null (x23).toNatClampNeg)] [(.int (0 : Int32)), (.int v159), (.int v49), (.int v36), (getH u147_b23a [] .null (x23).toNatClampNeg)])
    refine Go.of (fun t k => XS.aload X31.here hx rfl (hb hby at_207) rfl rfl  k) ?_
    show Go p e below Φ T31 (mkF m 209 #[.val (.int i0), .val (.int i1), .val (.int i2), .val (.int i3), .val (.int i4), .val (.int x5), .val (.int x14), .val (.int x23), .val (.int v36), .val (.int v49), .val (.int v62), .val (.ref b6), .val (.ref sE), .val (.ref b22), .val (.int v159), .val (getH u147_b23a [] .null (x14).toNatClampNeg), .val (getH u147_b23a [] .null (x23).toNatClampNeg)] [(.ref b6), (.int (0 : Int32)), (.int v159), (.int v49), (.int v36), (getH u147_b23a [] .null (x23).toNatClampNeg)])
    refine Go.of (fun t k => XS.aload X31.here hx rfl (hb hby at_209) rfl rfl  k) ?_
    show Go p e below Φ T31 (mkF m 211 #[.val (.int i0), .val (.int i1), .val (.int i2), .val (.int i3), .val (.int i4), .val (.int x5), .val (.int x14), .val (.int x23), .val (.int v36), .val (.int v49), .val (.int v62), .val (.ref b6), .val (.ref sE), .val (.ref b22), .val (.int v159), .val (getH u147_b23a [] .null (x14).toNatClampNeg), .val (getH u147_b23a [] .null (x23).toNatClampNeg)] [(.ref sE), (.ref b6), (.int (0 : Int32)), (.int v159), (.int v49), (.int v36), (getH u147_b23a [] .null (x23).toNatClampNeg)])
    obtain ⟨_, _, ⟨T32, L32, k32, n32⟩, -, X32, ⟨Lc32, hQ32, l32, y32, z32⟩, st32⟩ := Jvm.LawKit.callS X31 hx (y := (⟨"com/example/compact_commits/compactcommits/transactions/VersionsFoundAnswerPinLaw", "expected", "(ZZZZLjava/util/Optional;Ljava/util/Optional;)Ljava/util/Optional;"⟩ : MethodName)) hown (mvT hZ (hw _ (List.mem_of_getElem? (i := 64) rfl))) (mvT hZ (hw _ (List.mem_of_getElem? (i := 65) rfl))) (mvT hZ (hw _ (List.mem_of_getElem? (i := 66) rfl))) (mvT hZ (hw _ (List.mem_of_getElem? (i := 67) rfl))) (by decide) (backOf (W := 1) (rm8 l Z a0 hw [] v36 v49 v159 (0 : Int32) b6 sE h26 n0 Z26 ) hZ (hw _ (List.mem_of_getElem? (i := 67) rfl)) (hw _ (List.mem_of_getElem? (i := 66) rfl)) (by decide) (by decide)) (g := (mkF m 211 #[.val (.int i0), .val (.int i1), .val (.int i2), .val (.int i3), .val (.int i4), .val (.int x5), .val (.int x14), .val (.int x23), .val (.int v36), .val (.int v49), .val (.int v62), .val (.ref b6), .val (.ref sE), .val (.ref b22), .val (.int v159), .val (getH u147_b23a [] .null (x14).toNatClampNeg), .val (getH u147_b23a [] .null (x23).toNatClampNeg)] [(.ref sE), (.ref b6), (.int (0 : Int32)), (.int v159), (.int v49), (.int v36), (getH u147_b23a [] .null (x23).toNatClampNeg)])) rfl (by rw [hml]; rfl) (argsL := [(.int v36), (.int v49), (.int v159), (.int (0 : Int32)), (.ref b6), (.ref sE)]) (rest := [(getH u147_b23a [] .null (x23).toNatClampNeg)]) (lenOf own_pd6 rfl) rfl (own_w1 r30q) (hb hby at_211) (fun _ _ => ⟨rfl, (e31q), (by decide : 12 + 0 ≤ _), (by decide : 50 + 0 ≤ _)⟩)
    dsimp only [Pt.U, Pt.locs, Pt.cells, Pt.slots] at X32 l32 y32 z32 st32 hQ32
    subst l32 y32 z32
    obtain ⟨rfl, N32q, e32q⟩ := hQ32
    have N32 := Fr.app N31 N32q
    obtain ⟨lc32, X32, N32⟩ : ∃ lc, Stand p l e room_1 s m #[(.int i0), (.int i1), (.int i2), (.int i3), (.int i4)] below meth c T32 lc 12 50 ∧ Fr n0 lc := ⟨_, X32, N32⟩
    refine Go.of st32 ?_
    show Go p e below Φ T32 (mkF m 214 #[.val (.int i0), .val (.int i1), .val (.int i2), .val (.int i3), .val (.int i4), .val (.int x5), .val (.int x14), .val (.int x23), .val (.int v36), .val (.int v49), .val (.int v62), .val (.ref b6), .val (.ref sE), .val (.ref b22), .val (.int v159), .val (getH u147_b23a [] .null (x14).toNatClampNeg), .val (getH u147_b23a [] .null (x23).toNatClampNeg)] [(own_exp v36 v49 v159 (0 : Int32) b6 sE), (getH u147_b23a [] .null (x23).toNatClampNeg)])
    refine Go.of (fun t k => Jvm.RoadKit.acmp (g := (mkF m 214 #[.val (.int i0), .val (.int i1), .val (.int i2), .val (.int i3), .val (.int i4), .val (.int x5), .val (.int x14), .val (.int x23), .val (.int v36), .val (.int v49), .val (.int v62), .val (.ref b6), .val (.ref sE), .val (.ref b22), .val (.int v159), .val (getH u147_b23a [] .null (x14).toNatClampNeg), .val (getH u147_b23a [] .null (x23).toNatClampNeg)] [(own_exp v36 v49 v159 (0 : Int32) b6 sE), (getH u147_b23a [] .null (x23).toNatClampNeg)])) X32 hx rfl r30q (own_expr v36 v49 v159 (0 : Int32) b6 sE) (pc0 := 214) (pc' := 217) (same := true) rfl (hb hby at_214) rfl (decide_eq_true (own_eqJ x14 x23 v36 v49 v159 _ _ u133_b23a u147_b23a hu133_b23a hu147_b23a hv159 (own_idx i0 i1 x5 x14 hx5 hx14).1 (own_idx i0 i2 x5 x23 hx5 hx23).1)) (by decide) (by decide) k) ?_
    show Go p e below Φ T32 (mkF m 217 #[.val (.int i0), .val (.int i1), .val (.int i2), .val (.int i3), .val (.int i4), .val (.int x5), .val (.int x14), .val (.int x23), .val (.int v36), .val (.int v49), .val (.int v62), .val (.ref b6), .val (.ref sE), .val (.ref b22), .val (.int v159), .val (getH u147_b23a [] .null (x14).toNatClampNeg), .val (getH u147_b23a [] .null (x23).toNatClampNeg)] [])
    refine Go.of (fun t k => XS.iconst X32.here hx rfl (hb hby at_217) k) ?_
    show Go p e below Φ T32 (mkF m 218 #[.val (.int i0), .val (.int i1), .val (.int i2), .val (.int i3), .val (.int i4), .val (.int x5), .val (.int x14), .val (.int x23), .val (.int v36), .val (.int v49), .val (.int v62), .val (.ref b6), .val (.ref sE), .val (.ref b22), .val (.int v159), .val (getH u147_b23a [] .null (x14).toNatClampNeg), .val (getH u147_b23a [] .null (x23).toNatClampNeg)] [(.int (1 : Int32))])
    refine Go.of (fun t k => XS.goto X32.here hx rfl (pc0 := 218) (pc' := 222) rfl (hb hby at_218) (by decide) (by decide) k) ?_
    show Go p e below Φ T32 (mkF m 222 #[.val (.int i0), .val (.int i1), .val (.int i2), .val (.int i3), .val (.int i4), .val (.int x5), .val (.int x14), .val (.int x23), .val (.int v36), .val (.int v49), .val (.int v62), .val (.ref b6), .val (.ref sE), .val (.ref b22), .val (.int v159), .val (getH u147_b23a [] .null (x14).toNatClampNeg), .val (getH u147_b23a [] .null (x23).toNatClampNeg)] [(.int (1 : Int32))])
    rw [hΦ]
    refine Go.ret X32 hx Bd.notSynchronized Bd.returns rfl (Or.inl ⟨rfl, Or.inr (Or.inl rfl), _, rfl⟩) (hb hby at_222) (by decide) (by decide) ?_
    rw [(e32q)]
    exact ⟨rfl, N32⟩
set_option maxRecDepth 65536 in
set_option maxHeartbeats 40000000 in
theorem comes_1 {Post : Tables → Env → Array Value → State → Outcome → State → Prop} (hpost : ∀ tb e args s v u, (limb_1_1.after args s (.returned v) u = true ∧ limb_1_2.after args s (.returned v) u = true ∧ True) → FrameEnd s (.returned v) u (Jvm.fieldLocs frame_1_writes args s ++ Jvm.arrayLocs frame_1_arrays args s ++ Jvm.staticLocs frame_1_statics s) 40 192 → Post tb e args s (.returned v) u) :
    ArmFor flags0 classFile x code maxLocals ret World_1 tables_1 room_1 Calls_1 rest_1 Pre_1 Post := by
  intro l hfl _ _ p e ha hc hk s m args below hf hA hF happ hP
  obtain ⟨hcalls, hrest, hpre⟩ := hP
  obtain ⟨-, -, -, hnamed, -, -, -, hat⟩ := (Spec.applies_iff hf).mp happ
  obtain ⟨hg, hn⟩ := and_e (Cond.before_iff.mp (show (Jvm.Cond.and given_1 narrow_1).before args s = true from hpre))
  obtain ⟨g1, g2⟩ := and_e hg
  obtain ⟨g3, g4⟩ := and_e g2
  obtain ⟨g5, g6⟩ := and_e g4
  obtain ⟨g7, g8⟩ := and_e g6
  obtain ⟨g9, g10⟩ := and_e g8
  obtain ⟨w0, w1, w2, w3, w4, rfl⟩ : ∃ w0 w1 w2 w3 w4 : Value, args = #[w0, w1, w2, w3, w4] := by
    have hs : args.size = 5 := by simpa [Cond.value, given_1] using g1
    obtain ⟨L⟩ := args
    match L, hs with
    | [w0, w1, w2, w3, w4], _ => exact ⟨w0, w1, w2, w3, w4, rfl⟩
  have hw := fun d (hd : d ∈ tables_1) => atoms_spec (ws := Jvm.Cond.code x code maxLocals ret :: tables_1) hat d (List.mem_cons_of_mem _ hd)
  have hfit : Fit s := fun {y c} hc i hi => by
    obtain ⟨ha, rfl⟩ := Array.getElem?_eq_some_iff.mp hc
    have q := List.all_eq_true.mp ((Array.all_eq_true_iff_forall_mem.mp hF) _ (Array.getElem_mem ha)) i (List.mem_range.mpr hi)
    simpa [Array.getElem?_eq_getElem hi] using q
  obtain ⟨hsets, hown0⟩ := atoms_of _ (rest_1_c_eq ▸ (show rest_1_c.before _ s = true from hrest))
  have hr0 := Cond.before_iff.mp hown0
  obtain ⟨i0, ei0⟩ := is_v g3
  obtain rfl : w0 = (.int i0) := Option.some.inj ei0
  obtain ⟨i1, ei1⟩ := is_v g5
  obtain rfl : w1 = (.int i1) := Option.some.inj ei1
  obtain ⟨i2, ei2⟩ := is_v g7
  obtain rfl : w2 = (.int i2) := Option.some.inj ei2
  obtain ⟨i3, ei3⟩ := is_v g9
  obtain rfl : w3 = (.int i3) := Option.some.inj ei3
  obtain ⟨i4, ei4⟩ := is_v g10
  obtain rfl : w4 = (.int i4) := Option.some.inj ei4
  have hE := hsets _ (List.mem_of_getElem? (i := 2) rfl)
  obtain ⟨sE, esE⟩ := exa_v (Cond.before_iff.mp hE)
  obtain ⟨n, o, h1, h2, h3, _, L, rfl, ⟨rfl, N⟩, hq⟩ := rm0 l s _ hw tables_1 i0 i1 i2 i3 i4 sE s.heap s.heap.size (Nat.le_refl _) (Old.start s) (Sta.start esE (Or.inl (hsets _ (List.mem_of_getElem? (i := 1) rfl)))) (Exa.start esE (Cond.before_iff.mp hE)) p e ha hc hk s m _ below hf ((Spec.applies_iff_loose hf).mp happ).1 ⟨rfl, State.Warmed39.refl s, rfl⟩ trivial
  refine ⟨n, _, h1, h2, h3, hpost _ _ _ _ _ _ ⟨Cond.after_iff.mpr rfl, Cond.after_iff.mpr (eq_i res_at (Term.int_eval (1)) rfl), trivial⟩ ⟨hq.1, hq.2.1, (hq.2.2.sift fun y hy => Or.inr (N y hy)).mono (by decide) (by decide)⟩⟩
theorem main_1_1 : Claimed_1_1 := comes_1 fun _ _ _ _ _ _ h hF => ⟨h.1, hF⟩
theorem main_1_2 : Claimed_1_2 := comes_1 fun _ _ _ _ _ _ h hF => ⟨h.2.1, hF⟩
end Jvm.Pilot.@@N@@
namespace Jvm.Pilot.@@N@@
open Jvm Jvm.ClassFile Sem Op Lib Jvm.Free Jvm.Stand Jvm.Pilot.@@N@@.Jvm.D
/-! MADE BY PROGRAM (witnessworld.py) out of the Statement's table words and the real class files: 19 classes; the members and pool entries that the words name. The judged class is class 1, her method 2. -/
namespace start1
open Jvm.ClassFile
def u (s : String) : CpInfo := .utf8 (stringToUtf16 s)
/-- a pool by its gaps: so many unusable entries, then the entry; so many at the end -/
def gap : Nat → List CpInfo → List CpInfo
  | 0, r => r
  | n + 1, r => .unusable :: gap n r
def poolList (es : List (Nat × CpInfo)) (last : Nat) : List CpInfo := es.foldr (fun e r => gap e.1 (e.2 :: r)) (gap last [])
def pool (es : List (Nat × CpInfo)) (last : Nat) : Array CpInfo := ⟨poolList es last⟩
def fileOf (pool : Array CpInfo) (this : Nat) (attrs : Array Attribute := #[]) (ms : Array MethodInfo := #[]) (fl : Nat := 33) (sup : Nat := 0) (ifs : Array Nat := #[]) (fds : Array FieldInfo := #[]) : ClassFile where
  minorVersion := 0
  majorVersion := 65
  constantPool := pool
  accessFlags := fl
  thisClass := this
  superClass := sup
  interfaces := ifs
  fields := fds
  methods := ms
  attributes := attrs
def plain (name : String) (sup : Option ClassId) : Class where
  name := name
  kind := .ordinary
  loader := none
  accessFlags := 33
  super := sup
  interfaces := #[]
  cf := none
  fields := #[]
  methods := #[]
  instanceTypes := #[]
  staticTypes := #[]
  resolved := #[]
  callSites := []
  init := .initialized
  statics := none
  mirror := none

def pool0 : Array CpInfo := pool [(5, u "<init>"), (0, u "()V"), (1, .class_ 10), (1, u "java/lang/Object")] 113

def k0c0 : Code := { maxStack := 0, maxLocals := 1, code := object_method_1_code, exceptionTable := #[], attributes := #[] }
def k0m0 : Method := { name := "<init>", desc := "()V", sig := { parameters := [], returnType := none }, accessFlags := 1, code := some k0c0 }
/-- java/lang/Object -/
def k0 : Class := { plain "java/lang/Object" none with
  accessFlags := 33
  interfaces := #[]
  cf := some (fileOf pool0 8 #[] #[{ accessFlags := 1, nameIndex := 5, descriptorIndex := 6, attributes := #[] }] 33 0 #[] #[])
  fields := #[]
  methods := #[k0m0]
  instanceTypes := #[]
  staticTypes := #[]
  resolved := Array.replicate 124 none
  statics := none }

def pool1 : Array CpInfo := pool [(2, .class_ 4), (1, u "java/lang/Object"), (0, u "<init>"), (0, u "()V"), (0, .integer 2147483647), (0, .methodref 9 10), (0, .class_ 11), (0, .nameAndType 12 13), (0, u "java/util/Optional"), (0, u "of"), (0, u "(Ljava/lang/Object;)Ljava/util/Optional;"), (0, .methodref 9 15), (0, .nameAndType 16 17), (0, u "empty"), (0, u "()Ljava/util/Optional;"), (0, .class_ 19), (0, u "com/example/compact_commits/compactcommits/transactions/VersionsFound"), (0, .methodref 18 21), (0, .nameAndType 5 22), (0, u "(I)V"), (0, .methodref 18 24), (0, .nameAndType 25 26), (0, u "answer"), (0, u "(ILjava/util/Optional;)V"), (0, .methodref 18 28), (0, .nameAndType 25 29), (0, u "(I)Ljava/util/Optional;"), (0, .methodref 31 32), (0, .class_ 33), (0, .nameAndType 34 35), (0, u "com/example/compact_commits/compactcommits/transactions/VersionsFoundAnswerPinLaw"), (0, u "expected"), (0, u "(ZZZZLjava/util/Optional;Ljava/util/Optional;)Ljava/util/Optional;"), (5, u "law"), (0, u "(IIIII)Z")] 2

def k1m0 : Method := { name := "<init>", desc := "()V", sig := { parameters := [], returnType := none }, accessFlags := 1, code := none }
def k1c1 : Code := { maxStack := 1, maxLocals := 6, code := method_2_code, exceptionTable := #[], attributes := #[] }
def k1m1 : Method := { name := "expected", desc := "(ZZZZLjava/util/Optional;Ljava/util/Optional;)Ljava/util/Optional;", sig := { parameters := [.boolean, .boolean, .boolean, .boolean, (.object "java/util/Optional"), (.object "java/util/Optional")], returnType := some (.object "java/util/Optional") }, accessFlags := 10, code := some k1c1 }
def k1c2 : Code := { maxStack := 7, maxLocals := 17, code := code, exceptionTable := #[], attributes := #[] }
def k1m2 : Method := { name := "law", desc := "(IIIII)Z", sig := { parameters := [.int, .int, .int, .int, .int], returnType := some .boolean }, accessFlags := 9, code := some k1c2 }
/-- com/example/compact_commits/compactcommits/transactions/VersionsFoundAnswerPinLaw -/
def k1 : Class := { plain "com/example/compact_commits/compactcommits/transactions/VersionsFoundAnswerPinLaw" (some 0) with
  accessFlags := 49
  interfaces := #[]
  cf := some (fileOf pool1 31 #[] #[{ accessFlags := 1, nameIndex := 5, descriptorIndex := 6, attributes := #[] }, { accessFlags := 10, nameIndex := 34, descriptorIndex := 35, attributes := #[] }, { accessFlags := 9, nameIndex := 41, descriptorIndex := 42, attributes := #[] }] 49 2 #[] #[])
  fields := #[]
  methods := #[k1m0, k1m1, k1m2]
  instanceTypes := #[]
  staticTypes := #[]
  resolved := Array.replicate 45 none
  statics := none }

def pool2 : Array CpInfo := pool [(1, .fieldref 2 3), (0, .class_ 4), (0, .nameAndType 5 6), (0, u "java/util/Optional"), (0, u "EMPTY"), (0, u "Ljava/util/Optional;"), (0, .methodref 8 9), (0, .class_ 10), (0, .nameAndType 11 12), (0, u "java/lang/Object"), (0, u "<init>"), (0, u "()V"), (0, .fieldref 2 14), (0, .nameAndType 15 16), (0, u "value"), (0, u "Ljava/lang/Object;"), (0, .methodref 18 19), (0, .class_ 20), (0, .nameAndType 21 22), (0, u "java/util/Objects"), (0, u "requireNonNull"), (0, u "(Ljava/lang/Object;)Ljava/lang/Object;"), (0, .methodref 2 24), (0, .nameAndType 11 25), (0, u "(Ljava/lang/Object;)V"), (29, u "empty"), (0, u "()Ljava/util/Optional;"), (8, u "(Ljava/lang/Object;)Ljava/util/Optional;"), (16, u "of")] 104

def k2c0 : Code := { maxStack := 1, maxLocals := 1, code := jdk_32_method_1_code, exceptionTable := #[], attributes := #[] }
def k2m0 : Method := { name := "empty", desc := "()Ljava/util/Optional;", sig := { parameters := [], returnType := some (.object "java/util/Optional") }, accessFlags := 9, code := some k2c0 }
def k2c1 : Code := { maxStack := 2, maxLocals := 2, code := jdk_32_method_2_code, exceptionTable := #[], attributes := #[] }
def k2m1 : Method := { name := "<init>", desc := "(Ljava/lang/Object;)V", sig := { parameters := [(.object "java/lang/Object")], returnType := none }, accessFlags := 2, code := some k2c1 }
def k2c2 : Code := { maxStack := 3, maxLocals := 1, code := jdk_32_method_3_code, exceptionTable := #[], attributes := #[] }
def k2m2 : Method := { name := "of", desc := "(Ljava/lang/Object;)Ljava/util/Optional;", sig := { parameters := [(.object "java/lang/Object")], returnType := some (.object "java/util/Optional") }, accessFlags := 9, code := some k2c2 }
/-- java/util/Optional -/
def k2 : Class := { plain "java/util/Optional" (some 0) with
  accessFlags := 49
  interfaces := #[]
  cf := some (fileOf pool2 2 #[] #[{ accessFlags := 9, nameIndex := 55, descriptorIndex := 56, attributes := #[] }, { accessFlags := 2, nameIndex := 11, descriptorIndex := 25, attributes := #[] }, { accessFlags := 9, nameIndex := 82, descriptorIndex := 65, attributes := #[] }] 49 8 #[] #[{ accessFlags := 26, nameIndex := 5, descriptorIndex := 6, attributes := #[] }, { accessFlags := 18, nameIndex := 15, descriptorIndex := 16, attributes := #[] }])
  fields := #[{ name := "EMPTY", type := (.object "java/util/Optional"), accessFlags := 26, slot := 0, constantValue := 0 }, { name := "value", type := (.object "java/lang/Object"), accessFlags := 18, slot := 0, constantValue := 0 }]
  methods := #[k2m0, k2m1, k2m2]
  instanceTypes := #[(.object "java/lang/Object")]
  staticTypes := #[(.object "java/util/Optional")]
  resolved := Array.replicate 187 none
  statics := some 0 }

def pool3 : Array CpInfo := pool [(2, .class_ 4), (1, u "java/lang/Object"), (0, u "<init>"), (0, u "()V"), (35, .class_ 44), (1, u "java/util/Objects"), (0, u "requireNonNull"), (0, u "(Ljava/lang/Object;)Ljava/lang/Object;")] 137

def k3m0 : Method := { name := "<init>", desc := "()V", sig := { parameters := [], returnType := none }, accessFlags := 2, code := none }
def k3c1 : Code := { maxStack := 2, maxLocals := 1, code := jdk_31_method_10_code, exceptionTable := #[], attributes := #[] }
def k3m1 : Method := { name := "requireNonNull", desc := "(Ljava/lang/Object;)Ljava/lang/Object;", sig := { parameters := [(.object "java/lang/Object")], returnType := some (.object "java/lang/Object") }, accessFlags := 9, code := some k3c1 }
/-- java/util/Objects -/
def k3 : Class := { plain "java/util/Objects" (some 0) with
  accessFlags := 49
  interfaces := #[]
  cf := some (fileOf pool3 42 #[] #[{ accessFlags := 2, nameIndex := 5, descriptorIndex := 6, attributes := #[] }, { accessFlags := 9, nameIndex := 45, descriptorIndex := 46, attributes := #[] }] 49 2 #[] #[])
  fields := #[]
  methods := #[k3m0, k3m1]
  instanceTypes := #[]
  staticTypes := #[]
  resolved := Array.replicate 184 none
  statics := none }

def pool4 : Array CpInfo := pool [(1, .methodref 2 3), (0, .class_ 4), (0, .nameAndType 5 6), (0, u "java/lang/Object"), (0, u "<init>"), (0, u "()V"), (0, .fieldref 8 9), (0, .class_ 10), (0, .nameAndType 11 12), (0, u "com/example/compact_commits/compactcommits/transactions/VersionsFound"), (0, u "numbers"), (0, u "[I"), (0, .class_ 14), (0, u "[B"), (0, .fieldref 8 16), (0, .nameAndType 17 18), (0, u "keys"), (0, u "[[B"), (0, .fieldref 8 20), (0, .nameAndType 21 12), (0, u "cellKeyLengths"), (0, .class_ 23), (0, u "java/util/Optional"), (0, .fieldref 8 25), (0, .nameAndType 26 27), (0, u "values"), (0, u "[Ljava/util/Optional;"), (0, .class_ 29), (0, u "com/example/compact_commits/compactcommits/StoreException"), (0, .fieldref 8 31), (0, .nameAndType 32 33), (0, u "undecoded"), (0, u "[Lcom/example/compact_commits/compactcommits/StoreException;"), (0, .fieldref 8 35), (0, .nameAndType 36 12), (0, u "writerOf"), (0, .fieldref 8 38), (0, .nameAndType 39 40), (0, u "writers"), (0, u "[J"), (0, .fieldref 8 42), (0, .nameAndType 43 27), (0, u "answers"), (0, .fieldref 8 45), (0, .nameAndType 46 33), (0, u "failures"), (2, u "size"), (0, u "I"), (10, u "writerCount"), (15, u "firstWriter"), (2, u "(I)V"), (12, u "(I)Ljava/util/Optional;"), (5, u "answer"), (0, u "(ILjava/util/Optional;)V")] 7

def k4c0 : Code := { maxStack := 2, maxLocals := 2, code := prog_90_method_1_code, exceptionTable := #[], attributes := #[] }
def k4m0 : Method := { name := "<init>", desc := "(I)V", sig := { parameters := [.int], returnType := none }, accessFlags := 0, code := some k4c0 }
def k4c1 : Code := { maxStack := 3, maxLocals := 3, code := prog_90_method_13_code, exceptionTable := #[], attributes := #[] }
def k4m1 : Method := { name := "answer", desc := "(ILjava/util/Optional;)V", sig := { parameters := [.int, (.object "java/util/Optional")], returnType := none }, accessFlags := 0, code := some k4c1 }
def k4c2 : Code := { maxStack := 2, maxLocals := 2, code := prog_90_method_16_code, exceptionTable := #[], attributes := #[] }
def k4m2 : Method := { name := "answer", desc := "(I)Ljava/util/Optional;", sig := { parameters := [.int], returnType := some (.object "java/util/Optional") }, accessFlags := 0, code := some k4c2 }
/-- com/example/compact_commits/compactcommits/transactions/VersionsFound -/
def k4 : Class := { plain "com/example/compact_commits/compactcommits/transactions/VersionsFound" (some 0) with
  accessFlags := 32
  interfaces := #[]
  cf := some (fileOf pool4 8 #[] #[{ accessFlags := 0, nameIndex := 5, descriptorIndex := 80, attributes := #[] }, { accessFlags := 0, nameIndex := 99, descriptorIndex := 100, attributes := #[] }, { accessFlags := 0, nameIndex := 99, descriptorIndex := 93, attributes := #[] }] 32 2 #[] #[{ accessFlags := 18, nameIndex := 11, descriptorIndex := 12, attributes := #[] }, { accessFlags := 18, nameIndex := 17, descriptorIndex := 18, attributes := #[] }, { accessFlags := 18, nameIndex := 21, descriptorIndex := 12, attributes := #[] }, { accessFlags := 18, nameIndex := 26, descriptorIndex := 27, attributes := #[] }, { accessFlags := 18, nameIndex := 32, descriptorIndex := 33, attributes := #[] }, { accessFlags := 18, nameIndex := 36, descriptorIndex := 12, attributes := #[] }, { accessFlags := 18, nameIndex := 39, descriptorIndex := 40, attributes := #[] }, { accessFlags := 18, nameIndex := 43, descriptorIndex := 27, attributes := #[] }, { accessFlags := 18, nameIndex := 46, descriptorIndex := 33, attributes := #[] }, { accessFlags := 2, nameIndex := 49, descriptorIndex := 50, attributes := #[] }, { accessFlags := 2, nameIndex := 61, descriptorIndex := 50, attributes := #[] }, { accessFlags := 2, nameIndex := 77, descriptorIndex := 50, attributes := #[] }])
  fields := #[{ name := "numbers", type := (.array .int), accessFlags := 18, slot := 0, constantValue := 0 }, { name := "keys", type := (.array (.array .byte)), accessFlags := 18, slot := 1, constantValue := 0 }, { name := "cellKeyLengths", type := (.array .int), accessFlags := 18, slot := 2, constantValue := 0 }, { name := "values", type := (.array (.object "java/util/Optional")), accessFlags := 18, slot := 3, constantValue := 0 }, { name := "undecoded", type := (.array (.object "com/example/compact_commits/compactcommits/StoreException")), accessFlags := 18, slot := 4, constantValue := 0 }, { name := "writerOf", type := (.array .int), accessFlags := 18, slot := 5, constantValue := 0 }, { name := "writers", type := (.array .long), accessFlags := 18, slot := 6, constantValue := 0 }, { name := "answers", type := (.array (.object "java/util/Optional")), accessFlags := 18, slot := 7, constantValue := 0 }, { name := "failures", type := (.array (.object "com/example/compact_commits/compactcommits/StoreException")), accessFlags := 18, slot := 8, constantValue := 0 }, { name := "size", type := .int, accessFlags := 2, slot := 9, constantValue := 0 }, { name := "writerCount", type := .int, accessFlags := 2, slot := 10, constantValue := 0 }, { name := "firstWriter", type := .int, accessFlags := 2, slot := 11, constantValue := 0 }]
  methods := #[k4m0, k4m1, k4m2]
  instanceTypes := #[(.array .int), (.array (.array .byte)), (.array .int), (.array (.object "java/util/Optional")), (.array (.object "com/example/compact_commits/compactcommits/StoreException")), (.array .int), (.array .long), (.array (.object "java/util/Optional")), (.array (.object "com/example/compact_commits/compactcommits/StoreException")), .int, .int, .int]
  staticTypes := #[]
  resolved := Array.replicate 108 none
  statics := none }

def pool5 : Array CpInfo := pool [(1, .class_ 2), (0, u "java/io/Serializable"), (0, .class_ 4), (0, u "java/lang/Object")] 2

/-- java/io/Serializable -/
def k5 : Class := { plain "java/io/Serializable" (some 0) with
  accessFlags := 1537
  interfaces := #[]
  cf := some (fileOf pool5 1 #[] #[] 1537 3 #[] #[])
  fields := #[]
  methods := #[]
  instanceTypes := #[]
  staticTypes := #[]
  resolved := Array.replicate 7 none
  statics := none }

def pool6 : Array CpInfo := pool [(2, .class_ 4), (1, u "java/lang/Object"), (0, u "<init>"), (0, u "()V"), (1, .class_ 10), (1, u "java/lang/Throwable"), (0, u "cause"), (0, u "Ljava/lang/Throwable;"), (2, u "UNASSIGNED_STACK"), (0, u "[Ljava/lang/StackTraceElement;"), (2, u "stackTrace"), (2, u "SUPPRESSED_SENTINEL"), (0, u "Ljava/util/List;"), (2, u "suppressedExceptions"), (6, u "detailMessage"), (0, u "Ljava/lang/String;"), (58, .class_ 94), (0, u "java/lang/Throwable$WrappedPrintStream"), (6, .class_ 103), (1, u "java/lang/Throwable$PrintStreamOrWriter"), (61, u "$assertionsDisabled"), (0, u "Z"), (26, .class_ 194), (0, u "java/lang/Throwable$WrappedPrintWriter"), (5, u "backtrace"), (0, u "Ljava/lang/Object;"), (9, u "depth"), (0, u "I"), (56, .class_ 271), (1, u "java/lang/Throwable$SentinelHolder"), (32, u "EMPTY_THROWABLE_ARRAY"), (0, u "[Ljava/lang/Throwable;"), (12, .class_ 319), (0, u "java/io/Serializable"), (0, u "serialVersionUID"), (0, u "J"), (5, u "NULL_CAUSE_MESSAGE"), (0, u "SELF_SUPPRESSION_MESSAGE"), (0, u "CAUSE_CAPTION"), (0, u "SUPPRESSED_CAPTION")] 73

def k6m0 : Method := { name := "<init>", desc := "()V", sig := { parameters := [], returnType := none }, accessFlags := 1, code := none }
/-- java/lang/Throwable -/
def k6 : Class := { plain "java/lang/Throwable" (some 0) with
  accessFlags := 33
  interfaces := #[5]
  cf := some (fileOf pool6 8 #[.nestMembers #[193, 93, 101, 269]] #[{ accessFlags := 1, nameIndex := 5, descriptorIndex := 6, attributes := #[] }] 33 2 #[318] #[{ accessFlags := 26, nameIndex := 320, descriptorIndex := 321, attributes := #[] }, { accessFlags := 130, nameIndex := 200, descriptorIndex := 201, attributes := #[] }, { accessFlags := 2, nameIndex := 33, descriptorIndex := 34, attributes := #[] }, { accessFlags := 26, nameIndex := 15, descriptorIndex := 16, attributes := #[] }, { accessFlags := 2, nameIndex := 11, descriptorIndex := 12, attributes := #[] }, { accessFlags := 2, nameIndex := 19, descriptorIndex := 16, attributes := #[] }, { accessFlags := 130, nameIndex := 211, descriptorIndex := 212, attributes := #[] }, { accessFlags := 26, nameIndex := 22, descriptorIndex := 23, attributes := #[] }, { accessFlags := 2, nameIndex := 26, descriptorIndex := 23, attributes := #[] }, { accessFlags := 26, nameIndex := 327, descriptorIndex := 34, attributes := #[] }, { accessFlags := 26, nameIndex := 328, descriptorIndex := 34, attributes := #[] }, { accessFlags := 26, nameIndex := 329, descriptorIndex := 34, attributes := #[] }, { accessFlags := 26, nameIndex := 330, descriptorIndex := 34, attributes := #[] }, { accessFlags := 26, nameIndex := 304, descriptorIndex := 305, attributes := #[] }, { accessFlags := 4120, nameIndex := 165, descriptorIndex := 166, attributes := #[] }])
  fields := #[{ name := "serialVersionUID", type := .long, accessFlags := 26, slot := 0, constantValue := 0 }, { name := "backtrace", type := (.object "java/lang/Object"), accessFlags := 130, slot := 0, constantValue := 0 }, { name := "detailMessage", type := (.object "java/lang/String"), accessFlags := 2, slot := 1, constantValue := 0 }, { name := "UNASSIGNED_STACK", type := (.array (.object "java/lang/StackTraceElement")), accessFlags := 26, slot := 1, constantValue := 0 }, { name := "cause", type := (.object "java/lang/Throwable"), accessFlags := 2, slot := 2, constantValue := 0 }, { name := "stackTrace", type := (.array (.object "java/lang/StackTraceElement")), accessFlags := 2, slot := 3, constantValue := 0 }, { name := "depth", type := .int, accessFlags := 130, slot := 4, constantValue := 0 }, { name := "SUPPRESSED_SENTINEL", type := (.object "java/util/List"), accessFlags := 26, slot := 2, constantValue := 0 }, { name := "suppressedExceptions", type := (.object "java/util/List"), accessFlags := 2, slot := 5, constantValue := 0 }, { name := "NULL_CAUSE_MESSAGE", type := (.object "java/lang/String"), accessFlags := 26, slot := 3, constantValue := 0 }, { name := "SELF_SUPPRESSION_MESSAGE", type := (.object "java/lang/String"), accessFlags := 26, slot := 4, constantValue := 0 }, { name := "CAUSE_CAPTION", type := (.object "java/lang/String"), accessFlags := 26, slot := 5, constantValue := 0 }, { name := "SUPPRESSED_CAPTION", type := (.object "java/lang/String"), accessFlags := 26, slot := 6, constantValue := 0 }, { name := "EMPTY_THROWABLE_ARRAY", type := (.array (.object "java/lang/Throwable")), accessFlags := 26, slot := 7, constantValue := 0 }, { name := "$assertionsDisabled", type := .boolean, accessFlags := 4120, slot := 8, constantValue := 0 }]
  methods := #[k6m0]
  instanceTypes := #[(.object "java/lang/Object"), (.object "java/lang/String"), (.object "java/lang/Throwable"), (.array (.object "java/lang/StackTraceElement")), .int, (.object "java/util/List")]
  staticTypes := #[.long, (.array (.object "java/lang/StackTraceElement")), (.object "java/util/List"), (.object "java/lang/String"), (.object "java/lang/String"), (.object "java/lang/String"), (.object "java/lang/String"), (.array (.object "java/lang/Throwable")), .boolean]
  resolved := Array.replicate 404 none
  statics := none }

def pool7 : Array CpInfo := pool [(2, .class_ 4), (1, u "java/lang/Throwable"), (0, u "<init>"), (0, u "()V"), (12, .class_ 20), (0, u "java/lang/Exception"), (0, u "serialVersionUID"), (0, u "J")] 17

def k7m0 : Method := { name := "<init>", desc := "()V", sig := { parameters := [], returnType := none }, accessFlags := 1, code := none }
/-- java/lang/Exception -/
def k7 : Class := { plain "java/lang/Exception" (some 6) with
  accessFlags := 33
  interfaces := #[]
  cf := some (fileOf pool7 19 #[] #[{ accessFlags := 1, nameIndex := 5, descriptorIndex := 6, attributes := #[] }] 33 2 #[] #[{ accessFlags := 24, nameIndex := 21, descriptorIndex := 22, attributes := #[] }])
  fields := #[{ name := "serialVersionUID", type := .long, accessFlags := 24, slot := 0, constantValue := 0 }]
  methods := #[k7m0]
  instanceTypes := #[(.object "java/lang/Object"), (.object "java/lang/String"), (.object "java/lang/Throwable"), (.array (.object "java/lang/StackTraceElement")), .int, (.object "java/util/List")]
  staticTypes := #[.long]
  resolved := Array.replicate 40 none
  statics := none }

def pool8 : Array CpInfo := pool [(2, .class_ 4), (1, u "java/lang/Exception"), (0, u "<init>"), (0, u "()V"), (12, .class_ 20), (0, u "java/lang/RuntimeException"), (0, u "serialVersionUID"), (0, u "J")] 17

def k8m0 : Method := { name := "<init>", desc := "()V", sig := { parameters := [], returnType := none }, accessFlags := 1, code := none }
/-- java/lang/RuntimeException -/
def k8 : Class := { plain "java/lang/RuntimeException" (some 7) with
  accessFlags := 33
  interfaces := #[]
  cf := some (fileOf pool8 19 #[] #[{ accessFlags := 1, nameIndex := 5, descriptorIndex := 6, attributes := #[] }] 33 2 #[] #[{ accessFlags := 24, nameIndex := 21, descriptorIndex := 22, attributes := #[] }])
  fields := #[{ name := "serialVersionUID", type := .long, accessFlags := 24, slot := 0, constantValue := 0 }]
  methods := #[k8m0]
  instanceTypes := #[(.object "java/lang/Object"), (.object "java/lang/String"), (.object "java/lang/Throwable"), (.array (.object "java/lang/StackTraceElement")), .int, (.object "java/util/List")]
  staticTypes := #[.long]
  resolved := Array.replicate 40 none
  statics := none }

def pool9 : Array CpInfo := pool [(2, .class_ 4), (1, u "java/lang/RuntimeException"), (5, .class_ 11), (0, u "com/example/compact_commits/compactcommits/StoreException"), (18, u "serialVersionUID"), (0, u "J")] 24

/-- com/example/compact_commits/compactcommits/StoreException -/
def k9 : Class := { plain "com/example/compact_commits/compactcommits/StoreException" (some 8) with
  accessFlags := 33
  interfaces := #[]
  cf := some (fileOf pool9 10 #[] #[] 33 2 #[] #[{ accessFlags := 26, nameIndex := 30, descriptorIndex := 31, attributes := #[] }])
  fields := #[{ name := "serialVersionUID", type := .long, accessFlags := 26, slot := 0, constantValue := 0 }]
  methods := #[]
  instanceTypes := #[(.object "java/lang/Object"), (.object "java/lang/String"), (.object "java/lang/Throwable"), (.array (.object "java/lang/StackTraceElement")), .int, (.object "java/util/List")]
  staticTypes := #[.long]
  resolved := Array.replicate 56 none
  statics := none }

def pool10 : Array CpInfo := pool [(1, u "java/lang/Cloneable"), (0, .class_ 1), (0, u "java/lang/Object"), (0, .class_ 3)] 3

/-- java/lang/Cloneable -/
def k10 : Class := { plain "java/lang/Cloneable" (some 0) with
  accessFlags := 1537
  interfaces := #[]
  cf := some (fileOf pool10 2 #[] #[] 1537 4 #[] #[])
  fields := #[]
  methods := #[]
  instanceTypes := #[]
  staticTypes := #[]
  resolved := Array.replicate 8 none
  statics := none }

/-- the primitive byte -/
def k11 : Class := { plain "byte" none with kind := .primitive 'B', accessFlags := 0x411 }
/-- [B -/
def k12 : Class := { plain "[B" (some 0) with kind := .array 11 .byte, interfaces := #[10, 5], accessFlags := 1041 }

/-- the primitive int -/
def k13 : Class := { plain "int" none with kind := .primitive 'I', accessFlags := 0x411 }
/-- [I -/
def k14 : Class := { plain "[I" (some 0) with kind := .array 13 .int, interfaces := #[10, 5], accessFlags := 1041 }

/-- the primitive long -/
def k15 : Class := { plain "long" none with kind := .primitive 'J', accessFlags := 0x411 }
/-- [J -/
def k16 : Class := { plain "[J" (some 0) with kind := .array 15 .long, interfaces := #[10, 5], accessFlags := 1041 }

/-- [Lcom/example/compact_commits/compactcommits/StoreException; -/
def k17 : Class := { plain "[Lcom/example/compact_commits/compactcommits/StoreException;" (some 0) with kind := .array 9 (.object "com/example/compact_commits/compactcommits/StoreException"), interfaces := #[10, 5], accessFlags := 1041 }

/-- [Ljava/util/Optional; -/
def k18 : Class := { plain "[Ljava/util/Optional;" (some 0) with kind := .array 2 (.object "java/util/Optional"), interfaces := #[10, 5], accessFlags := 1041 }

def k19 : Class := { plain "[[B" (some 0) with kind := .array 12 (.array .byte), interfaces := #[10, 5], accessFlags := 1041 }
def heap : Heap := #[{ cls := 2, slots := #[.ref 1], vm := .statics 2 },
  { cls := 2, slots := #[.null], vm := .none }]
def classes : Array Class := #[k0, k1, k2, k3, k4, k5, k6, k7, k8, k9, k10, k11, k12, k13, k14, k15, k16, k17, k18, k19]
def interned : List (Array UInt16 × Addr) := []
def slotsUsed : Nat := 2
def theMethod : MethodId := ⟨1, 2⟩
def args0 : Array Value := #[.int 3, .int 5, .int 6, .int 3, .int 9]
def aboutOver (below : List Frame) : State where
  vm := { classes := classes, interned := interned.toArray }
  heap := heap
  slotsUsed := slotsUsed
  threads := #[{ frames := .invoking theMethod args0 :: below }]
def below0 : List Frame := [.native { method := ⟨0, 0⟩, args := #[] }]
def about1 : State := aboutOver below0
def p0 : Program := .bare "" "" ""
def e0 : Env := launch0.env 0 0 0
theorem w_frames : about1.frames = Frame.invoking theMethod args0 :: below0 := rfl
set_option maxRecDepth 65536 in
theorem w_args : argsFit about1.vm theMethod args0 = true := by decide +kernel
set_option maxRecDepth 65536 in
theorem w_heap : heapFits about1 = true := by decide +kernel
set_option maxRecDepth 65536 in
theorem w_runnable : about1.curStatus? = some .runnable := by decide +kernel
set_option maxRecDepth 65536 in
theorem w_alone : about1.alone = true := by decide +kernel
set_option maxRecDepth 65536 in
theorem w_named : about1.methodNamed? x = some theMethod := by decide +kernel
set_option maxRecDepth 65536 in
theorem w_hears : about1.hears theMethod below0 = true := by decide +kernel
set_option maxRecDepth 65536 in
theorem w_ripe : about1.ripe theMethod args0 below0 = true := by decide +kernel
theorem w_running : about1.status = .running := rfl
set_option maxRecDepth 65536 in
theorem w_room : about1.hasRoom e0.platform room_1 = true :=
  launch0.hasRoom_least _ room_1 (by decide +kernel) (by decide +kernel) (by decide +kernel) (by decide +kernel) (by decide +kernel) (by decide +kernel)
theorem allAtoms_all (ts : List Jvm.Cond) (a : Array Jvm.Value) (st : Jvm.State) : (allAtoms ts).before a st = ts.all (fun c => c.before a st) := by
  induction ts with
  | nil => rfl
  | cons c t ih =>
    show (Jvm.Cond.and c (allAtoms t)).before a st = _
    rw [Jvm.Cond.before_and, ih, List.all_cons]
def words1 : List Jvm.Cond := Jvm.Cond.code x code maxLocals ret :: tables_1
/-- a 'code' word, met by the world's own term for the bytes: nothing is compared byte by byte -/
theorem code_word {y : MethodName} {bytes : ByteArray} {mx : Nat} {rt : Option FieldType} {a : Array Value} {s : State} {m : MethodId} {meth : Method} {c : Code} (h1 : s.methodNamed? y = some m) (h2 : s.vm.method? m = some meth) (h3 : meth.code = some c) (h4 : c.code = bytes)
    (h5 : (c.maxLocals == mx && c.exceptionTable.isEmpty && decide (c.maxStack ≤ mostOperands) && decide (meth.sig.returnType = rt) && !meth.locks && decide (parseMethodDescriptor y.desc = some meth.sig)) = true) : (Jvm.Cond.code y bytes mx rt).before a s = true := by
  simp only [Bool.and_eq_true, beq_iff_eq, Bool.not_eq_true', decide_eq_true_eq] at h5
  obtain ⟨⟨⟨⟨⟨g1, g2⟩, g3⟩, g4⟩, g5⟩, g6⟩ := h5
  simp [Cond.before, Cond.holds, Cond.value, h1, h2, h3, h4, g1, g2, g3, g4, g5, g6]
def isCode : Jvm.Cond → Bool
  | .code _ _ _ _ => true
  | _ => false
theorem all_split {L : List Jvm.Cond} {P : Jvm.Cond → Bool} (h1 : L.all (fun c => isCode c || P c) = true) (h2 : ∀ c ∈ L.filter isCode, P c = true) : L.all P = true := by
  refine List.all_eq_true.mpr fun c hc => ?_
  have h := List.all_eq_true.mp h1 c hc
  rcases Bool.eq_false_or_eq_true (isCode c) with hi | hi
  · exact h2 c (List.mem_filter.mpr ⟨hc, hi⟩)
  · simpa [hi] using h
set_option maxRecDepth 65536 in
theorem w_c0 : (Jvm.Cond.code x code maxLocals ret).before args0 about1 = true := code_word (m := ⟨1, 2⟩) (meth := k1m2) (c := k1c2) (by decide +kernel) rfl rfl rfl (by decide +kernel)
set_option maxRecDepth 65536 in
theorem w_c1 : (Jvm.Cond.code ({ cls := "java/util/Optional", name := "of", desc := "(Ljava/lang/Object;)Ljava/util/Optional;" } : Jvm.MethodName) jdk_32_method_3_code (1 : Nat) (Option.some (Jvm.ClassFile.FieldType.object "java/util/Optional"))).before args0 about1 = true := code_word (m := ⟨2, 2⟩) (meth := k2m2) (c := k2c2) (by decide +kernel) rfl rfl rfl (by decide +kernel)
set_option maxRecDepth 65536 in
theorem w_c2 : (Jvm.Cond.code ({ cls := "java/util/Objects", name := "requireNonNull", desc := "(Ljava/lang/Object;)Ljava/lang/Object;" } : Jvm.MethodName) jdk_31_method_10_code (1 : Nat) (Option.some (Jvm.ClassFile.FieldType.object "java/lang/Object"))).before args0 about1 = true := code_word (m := ⟨3, 1⟩) (meth := k3m1) (c := k3c1) (by decide +kernel) rfl rfl rfl (by decide +kernel)
set_option maxRecDepth 65536 in
theorem w_c3 : (Jvm.Cond.code ({ cls := "java/util/Optional", name := "<init>", desc := "(Ljava/lang/Object;)V" } : Jvm.MethodName) jdk_32_method_2_code (2 : Nat) (Option.none : Option Jvm.ClassFile.FieldType)).before args0 about1 = true := code_word (m := ⟨2, 1⟩) (meth := k2m1) (c := k2c1) (by decide +kernel) rfl rfl rfl (by decide +kernel)
set_option maxRecDepth 65536 in
theorem w_c4 : (Jvm.Cond.code ({ cls := "java/lang/Object", name := "<init>", desc := "()V" } : Jvm.MethodName) object_method_1_code (1 : Nat) (Option.none : Option Jvm.ClassFile.FieldType)).before args0 about1 = true := code_word (m := ⟨0, 0⟩) (meth := k0m0) (c := k0c0) (by decide +kernel) rfl rfl rfl (by decide +kernel)
set_option maxRecDepth 65536 in
theorem w_c5 : (Jvm.Cond.code ({ cls := "com/example/compact_commits/compactcommits/transactions/VersionsFound", name := "<init>", desc := "(I)V" } : Jvm.MethodName) prog_90_method_1_code (2 : Nat) (Option.none : Option Jvm.ClassFile.FieldType)).before args0 about1 = true := code_word (m := ⟨4, 0⟩) (meth := k4m0) (c := k4c0) (by decide +kernel) rfl rfl rfl (by decide +kernel)
set_option maxRecDepth 65536 in
theorem w_c6 : (Jvm.Cond.code ({ cls := "com/example/compact_commits/compactcommits/transactions/VersionsFound", name := "answer", desc := "(ILjava/util/Optional;)V" } : Jvm.MethodName) prog_90_method_13_code (3 : Nat) (Option.none : Option Jvm.ClassFile.FieldType)).before args0 about1 = true := code_word (m := ⟨4, 1⟩) (meth := k4m1) (c := k4c1) (by decide +kernel) rfl rfl rfl (by decide +kernel)
set_option maxRecDepth 65536 in
theorem w_c7 : (Jvm.Cond.code ({ cls := "com/example/compact_commits/compactcommits/transactions/VersionsFound", name := "answer", desc := "(I)Ljava/util/Optional;" } : Jvm.MethodName) prog_90_method_16_code (2 : Nat) (Option.some (Jvm.ClassFile.FieldType.object "java/util/Optional"))).before args0 about1 = true := code_word (m := ⟨4, 2⟩) (meth := k4m2) (c := k4c2) (by decide +kernel) rfl rfl rfl (by decide +kernel)
set_option maxRecDepth 65536 in
theorem w_c8 : (Jvm.Cond.code ({ cls := "com/example/compact_commits/compactcommits/transactions/VersionsFoundAnswerPinLaw", name := "expected", desc := "(ZZZZLjava/util/Optional;Ljava/util/Optional;)Ljava/util/Optional;" } : Jvm.MethodName) method_2_code (6 : Nat) (Option.some (Jvm.ClassFile.FieldType.object "java/util/Optional"))).before args0 about1 = true := code_word (m := ⟨1, 1⟩) (meth := k1m1) (c := k1c1) (by decide +kernel) rfl rfl rfl (by decide +kernel)
set_option maxRecDepth 65536 in
theorem w_c9 : (Jvm.Cond.code ({ cls := "java/util/Optional", name := "empty", desc := "()Ljava/util/Optional;" } : Jvm.MethodName) jdk_32_method_1_code (1 : Nat) (Option.some (Jvm.ClassFile.FieldType.object "java/util/Optional"))).before args0 about1 = true := code_word (m := ⟨2, 0⟩) (meth := k2m0) (c := k2c0) (by decide +kernel) rfl rfl rfl (by decide +kernel)
def codes1 : List Jvm.Cond := [Jvm.Cond.code x code maxLocals ret, Jvm.Cond.code ({ cls := "java/util/Optional", name := "of", desc := "(Ljava/lang/Object;)Ljava/util/Optional;" } : Jvm.MethodName) jdk_32_method_3_code (1 : Nat) (Option.some (Jvm.ClassFile.FieldType.object "java/util/Optional")), Jvm.Cond.code ({ cls := "java/util/Objects", name := "requireNonNull", desc := "(Ljava/lang/Object;)Ljava/lang/Object;" } : Jvm.MethodName) jdk_31_method_10_code (1 : Nat) (Option.some (Jvm.ClassFile.FieldType.object "java/lang/Object")), Jvm.Cond.code ({ cls := "java/util/Optional", name := "<init>", desc := "(Ljava/lang/Object;)V" } : Jvm.MethodName) jdk_32_method_2_code (2 : Nat) (Option.none : Option Jvm.ClassFile.FieldType), Jvm.Cond.code ({ cls := "java/lang/Object", name := "<init>", desc := "()V" } : Jvm.MethodName) object_method_1_code (1 : Nat) (Option.none : Option Jvm.ClassFile.FieldType), Jvm.Cond.code ({ cls := "com/example/compact_commits/compactcommits/transactions/VersionsFound", name := "<init>", desc := "(I)V" } : Jvm.MethodName) prog_90_method_1_code (2 : Nat) (Option.none : Option Jvm.ClassFile.FieldType), Jvm.Cond.code ({ cls := "com/example/compact_commits/compactcommits/transactions/VersionsFound", name := "answer", desc := "(ILjava/util/Optional;)V" } : Jvm.MethodName) prog_90_method_13_code (3 : Nat) (Option.none : Option Jvm.ClassFile.FieldType), Jvm.Cond.code ({ cls := "com/example/compact_commits/compactcommits/transactions/VersionsFound", name := "answer", desc := "(I)Ljava/util/Optional;" } : Jvm.MethodName) prog_90_method_16_code (2 : Nat) (Option.some (Jvm.ClassFile.FieldType.object "java/util/Optional")), Jvm.Cond.code ({ cls := "com/example/compact_commits/compactcommits/transactions/VersionsFoundAnswerPinLaw", name := "expected", desc := "(ZZZZLjava/util/Optional;Ljava/util/Optional;)Ljava/util/Optional;" } : Jvm.MethodName) method_2_code (6 : Nat) (Option.some (Jvm.ClassFile.FieldType.object "java/util/Optional")), Jvm.Cond.code ({ cls := "java/util/Optional", name := "empty", desc := "()Ljava/util/Optional;" } : Jvm.MethodName) jdk_32_method_1_code (1 : Nat) (Option.some (Jvm.ClassFile.FieldType.object "java/util/Optional"))]
set_option maxRecDepth 65536 in
theorem codes_eq : words1.filter isCode = codes1 := rfl
theorem w_codes : ∀ c ∈ words1.filter isCode, c.before args0 about1 = true := by
  rw [codes_eq]
  intro c hc
  simp only [codes1, List.mem_cons, List.not_mem_nil, or_false] at hc
  rcases hc with rfl | rfl | rfl | rfl | rfl | rfl | rfl | rfl | rfl | rfl
  · exact w_c0
  · exact w_c1
  · exact w_c2
  · exact w_c3
  · exact w_c4
  · exact w_c5
  · exact w_c6
  · exact w_c7
  · exact w_c8
  · exact w_c9
set_option maxRecDepth 65536 in
theorem w_t1 : (words1.take 24).all (fun c => isCode c || c.before args0 about1) = true := by decide +kernel
set_option maxRecDepth 65536 in
theorem w_t2 : ((words1.drop 24).take 24).all (fun c => isCode c || c.before args0 about1) = true := by decide +kernel
set_option maxRecDepth 65536 in
theorem w_t3 : (((words1.drop 24).drop 24).take 24).all (fun c => isCode c || c.before args0 about1) = true := by decide +kernel
set_option maxRecDepth 65536 in
theorem w_t4 : (((words1.drop 24).drop 24).drop 24).all (fun c => isCode c || c.before args0 about1) = true := by decide +kernel
theorem w_tables : (allAtoms (Jvm.Cond.code x code maxLocals ret :: tables_1)).before args0 about1 = true := by
  rw [allAtoms_all]
  show words1.all (fun c => c.before args0 about1) = true
  refine all_split ?_ w_codes
  rw [← List.take_append_drop 24 words1, List.all_append, w_t1, ← List.take_append_drop 24 (words1.drop 24), List.all_append, w_t2, ← List.take_append_drop 24 ((words1.drop 24).drop 24), List.all_append, w_t3, w_t4]
  rfl
set_option maxRecDepth 65536 in
theorem w_rest : rest_1_c.before args0 about1 = true := by decide +kernel
set_option maxRecDepth 65536 in
theorem w_case : (Jvm.Cond.and given_1 narrow_1).before args0 about1 = true := by decide +kernel
theorem w_applies : (headSpec (Jvm.Cond.code x code maxLocals ret :: tables_1) room_1).applies x e0.platform about1 = true :=
  (Spec.applies_iff w_frames).mpr ⟨w_running, w_runnable, w_alone, w_named, w_hears, w_ripe, w_room, w_tables⟩
theorem atStart : AtStart classFile x code maxLocals ret World_1 tables_1 room_1 Calls_1 rest_1 Pre_1 launch0 p0 e0 about1 theMethod args0 below0 :=
  ⟨lists_1, trivial, launch0.admits_env _ _ _, launch0.least_env, fairChoices_fair.cas, fairChoices_fair.clock, w_frames, w_args, w_heap, w_applies, trivial, w_rest, w_case⟩
end start1
theorem witness_1 : WitnessClaimed_1 := ⟨start1.p0, start1.e0, start1.about1, start1.theMethod, start1.args0, start1.below0, start1.atStart⟩
end Jvm.Pilot.@@N@@
