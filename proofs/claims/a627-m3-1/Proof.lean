import JvmDerived
import JvmDerived.Pilot.@@N@@Statement
import JvmDerived.Pilot.@@N@@Code
set_option linter.unusedVariables false
set_option linter.unusedSimpArgs false
namespace Jvm.Pilot.@@N@@
open Jvm Jvm.ClassFile Sem Op Lib Jvm.Free Jvm.Stand Jvm.LawKit Jvm.RoadKit Bundle Jvm.Pilot.@@N@@.Jvm.D
section Own
variable {p : Program} {l : Launch} {e : Env} {R : Room} {s : State} {m : MethodId} {args : Array Value} {below : List Frame} {meth : Method} {c : Code} {T T' : State} {locs : List Loc} {cells slots : Nat} {Φ : State → Outcome → Prop} {g g' : JFrame}
/-- from (T, g) the run comes to an end that Φ takes -/
def Go (p : Program) (e : Env) (below : List Frame) (Φ : State → Outcome → Prop) (T : State) (g : JFrame) : Prop := ∃ t o, Steps p.tables e below (T.setTop g) t ∧ Φ t o
theorem Go.of (h : ∀ t, Steps p.tables e below (T'.setTop g') t → Steps p.tables e below (T.setTop g) t) (k : Go p e below Φ T' g') : Go p e below Φ T g := by
  obtain ⟨t, o, h1, h2⟩ := k
  exact ⟨t, o, h t h1, h2⟩
theorem Go.tr (h : Steps p.tables e below (T.setTop g) (T'.setTop g')) (k : Go p e below Φ T' g') : Go p e below Φ T g := by
  obtain ⟨t, o, h1, h2⟩ := k
  exact ⟨t, o, h.trans h1, h2⟩
/-- what a body owes at its end -/
def EndQ (s : State) (below : List Frame) (Q : Option Value → Heap → List Loc → Prop) (C S : Nat) (t : State) (o : Outcome) : Prop := t.status = .running ∧ Ended t below o ∧ ∃ v L, o = .returned v ∧ Q v t.heap L ∧ FrameEnd s o t L C S
theorem Go.ret (X : Stand p l e R s m args below meth c T locs cells slots) (hx : p.tables.exec = Jvm.exec) (hlocks : meth.locks = false) {pc : Nat} {Ls : Array Slot} {w : Value} {t : FieldType} {i : Instr} {rest : List Value} (hret : meth.sig.returnType = some t) (hn : narrow t w = w)
    (hi : (i = .ireturn ∧ (t = .int ∨ t = .boolean ∨ t = .byte ∨ t = .char ∨ t = .short) ∧ ∃ z, w = .int z) ∨ (i = .lreturn ∧ t = .long ∧ ∃ z, w = .long z) ∨ (i = .dreturn ∧ t = .double ∧ ∃ z, w = .double z) ∨ (i = .freturn ∧ t = .float ∧ ∃ z, w = .float z) ∨ (i = .areturn ∧ t.isReference = true ∧ w.isRef = true))
    (hd : decode c.code pc = .ok (i, 1)) {Q : Option Value → Heap → List Loc → Prop} {C S : Nat} (hC : cells ≤ C) (hS : slots ≤ S) (hQ : Q (some w) T.heap locs) : Go p e below (EndQ s below Q C S) T (mkF m pc Ls (w :: rest)) := by
  obtain ⟨fs, hr, hrun, hended, hW, hsame⟩ := X.leave (v := some w) (fun h => by rw [hret] at h; cases h) hlocks
  exact ⟨_, _, retOut X hx hret hn hi hd hr, hrun, hended, _, _, rfl, hQ, ⟨_, rfl⟩, hW, hsame.mono hC hS⟩
theorem Go.retV (X : Stand p l e R s m args below meth c T locs cells slots) (hx : p.tables.exec = Jvm.exec) (hlocks : meth.locks = false) {pc : Nat} {Ls : Array Slot} (hret : meth.sig.returnType = none)
    (hd : decode c.code pc = .ok (.return_, 1)) {Q : Option Value → Heap → List Loc → Prop} {C S : Nat} (hC : cells ≤ C) (hS : slots ≤ S) (hQ : Q none T.heap locs) : Go p e below (EndQ s below Q C S) T (mkF m pc Ls []) := by
  obtain ⟨fs, hr, hrun, hended, hW, hsame⟩ := X.leave (v := none) (fun _ => rfl) hlocks
  exact ⟨_, _, X.returnOut hx hret hd hr, hrun, hended, _, _, rfl, hQ, ⟨_, rfl⟩, hW, hsame.mono hC hS⟩
def own_ushr (x y : Int32) : Int32 := (x.toUInt32 >>> (y &&& 31).toUInt32).toInt32
def own_ushrL (x : Int64) (y : Int32) : Int64 := (x.toUInt64 >>> (y &&& 0x3f).toInt64.toUInt64).toInt64
theorem own_one {v : Int32} (h : v = 1) : narrow .boolean (.int v) = .int v := by rw [h]; rfl
theorem own_nar_ref {t : FieldType} {v : Value} (h : v.isRef = true) (ht : t.isReference = true := by rfl) : narrow t v = v := by cases v <;> simp [Value.isRef] at h <;> cases t <;> first | rfl | cases ht
theorem own_fits_ref {t : FieldType} {v : Value} (h : v.isRef = true) (ht : t.isReference = true := by rfl) : fits t v = true := by cases v <;> simp [Value.isRef] at h <;> cases t <;> first | rfl | cases ht
end Own
theorem own_d1_0 : decode prog_82_method_1_code 0 = .ok (.aload_n 0, 1) := by decide +kernel
theorem own_d1_1 : decode prog_82_method_1_code 1 = .ok (.invokespecial 1, 3) := by decide +kernel
theorem own_d1_4 : decode prog_82_method_1_code 4 = .ok (.aload_n 0, 1) := by decide +kernel
theorem own_d1_5 : decode prog_82_method_1_code 5 = .ok (.iload_n 1, 1) := by decide +kernel
theorem own_d1_6 : decode prog_82_method_1_code 6 = .ok (.putfield 7, 3) := by decide +kernel
theorem own_d1_9 : decode prog_82_method_1_code 9 = .ok (.return_, 1) := by decide +kernel
theorem own_d3_0 : decode prog_82_method_3_code 0 = .ok (.aload_n 0, 1) := by decide +kernel
theorem own_d3_1 : decode prog_82_method_3_code 1 = .ok (.aload_n 1, 1) := by decide +kernel
theorem own_d3_2 : decode prog_82_method_3_code 2 = .ok (.putfield 13, 3) := by decide +kernel
theorem own_d3_5 : decode prog_82_method_3_code 5 = .ok (.return_, 1) := by decide +kernel
theorem own_d4_0 : decode prog_82_method_2_code 0 = .ok (.aload_n 0, 1) := by decide +kernel
theorem own_d4_1 : decode prog_82_method_2_code 1 = .ok (.getfield 13, 3) := by decide +kernel
theorem own_d4_4 : decode prog_82_method_2_code 4 = .ok (.ifnonnull 5, 3) := by decide +kernel
theorem own_d4_7 : decode prog_82_method_2_code 7 = .ok (.aload_n 0, 1) := by decide +kernel
theorem own_d4_8 : decode prog_82_method_2_code 8 = .ok (.areturn, 1) := by decide +kernel
theorem own_d4_9 : decode prog_82_method_2_code 9 = .ok (.aload_n 0, 1) := by decide +kernel
theorem own_d4_10 : decode prog_82_method_2_code 10 = .ok (.aload_n 0, 1) := by decide +kernel
theorem own_d4_11 : decode prog_82_method_2_code 11 = .ok (.getfield 13, 3) := by decide +kernel
theorem own_d4_14 : decode prog_82_method_2_code 14 = .ok (.invokeinterface 17 1, 5) := by decide +kernel
theorem own_d4_19 : decode prog_82_method_2_code 19 = .ok (.putfield 13, 3) := by decide +kernel
theorem own_d4_22 : decode prog_82_method_2_code 22 = .ok (.aload_n 0, 1) := by decide +kernel
theorem own_d4_23 : decode prog_82_method_2_code 23 = .ok (.getfield 13, 3) := by decide +kernel
theorem own_d4_26 : decode prog_82_method_2_code 26 = .ok (.areturn, 1) := by decide +kernel
theorem own_d5_0 : decode prog_78_method_5_code 0 = .ok (.aload_n 0, 1) := by decide +kernel
theorem own_d5_1 : decode prog_78_method_5_code 1 = .ok (.areturn, 1) := by decide +kernel
theorem own_pn0 : plainName "com/example/minnow/minnow/typing/Type$Variable" = true := by first | (simp [plainName, overriddenIn]; done) | decide +kernel
theorem own_pn1 : plainName "com/example/minnow/minnow/typing/Type" = true := by first | (simp [plainName, overriddenIn]; done) | decide +kernel
theorem own_pn2 : plainName "com/example/minnow/minnow/typing/VariableResolvedPinLaw" = true := by first | (simp [plainName, overriddenIn]; done) | decide +kernel
theorem own_pd0 : parseMethodDescriptor "()Lcom/example/minnow/minnow/typing/Type;" = some ⟨[], some (.object "com/example/minnow/minnow/typing/Type")⟩ := by decide +kernel
theorem own_pd1 : parseMethodDescriptor "(I)V" = some ⟨[.int], none⟩ := by decide +kernel
theorem own_pd2 : parseMethodDescriptor "(Lcom/example/minnow/minnow/typing/Type;)V" = some ⟨[(.object "com/example/minnow/minnow/typing/Type")], none⟩ := by decide +kernel
theorem own_ef1 (m : MethodId) (oa : Addr) (lv : Int32) : entryFrame m #[(.ref oa), (.int lv)] 2 = mkF m 0 #[.val (.ref oa), .val (.int lv)] [] := by first | (simp [entryFrame, mkF, argsToLocals, Value.category]; done) | rfl
def Q1 (Z : State) (oa : Addr) (lv : Int32) (w : Int32) (u : Value) (h0 : Heap) (n0 : Nat) (vr : Option Value) (hr : Heap) (Lr : List Loc) : Prop := vr = none ∧ Fr n0 Lr ∧ Keep h0 hr [oa] ∧ Exa Z hr oa "com/example/minnow/minnow/typing/Type$Variable" ∧ Fld Z hr oa "com/example/minnow/minnow/typing/Type$Variable" "settled" "Lcom/example/minnow/minnow/typing/Type;" u
set_option maxRecDepth 65536 in
set_option maxHeartbeats 40000000 in
theorem rm1 (l : Launch) (Z : State) (a0 : Array Value) (hw : ∀ d ∈ tables_1, d.before a0 Z = true) (ws : List Jvm.Cond) (oa : Addr) (lv : Int32) (w : Int32) (u : Value) (h0 : Heap) (n0 : Nat) (Z0 : n0 ≤ h0.size) (F_oa_level : Fld Z h0 oa "com/example/minnow/minnow/typing/Type$Variable" "level" "I" (.int w)) (F_oa_settled : Fld Z h0 oa "com/example/minnow/minnow/typing/Type$Variable" "settled" "Lcom/example/minnow/minnow/typing/Type;" u) (E_oa : Exa Z h0 oa "com/example/minnow/minnow/typing/Type$Variable") (g_oa : n0 ≤ oa) :
    MetFree l (⟨"com/example/minnow/minnow/typing/Type$Variable", "<init>", "(I)V"⟩ : MethodName) (head1 (Jvm.Cond.code (⟨"com/example/minnow/minnow/typing/Type$Variable", "<init>", "(I)V"⟩ : MethodName) prog_82_method_1_code 2 none :: ws) ({ frames := 1, cells := 0, slots := 0, locals := 12 } : Room)) (fun aQ UQ => aQ = #[(.ref oa), (.int lv)] ∧ Z.Warmed39 UQ.vm ∧ UQ.heap = h0) (fun _ _ _ _ _ => True) (fun _ UQ oQ VQ => ∃ vQ LQ, oQ = .returned vQ ∧ Q1 Z oa lv w u h0 n0 vQ VQ.heap LQ ∧ FrameEnd UQ oQ VQ LQ ({ frames := 1, cells := 0, slots := 0, locals := 12 } : Room).cells ({ frames := 1, cells := 0, slots := 0, locals := 12 } : Room).slots) := by
  refine MetFree.of_bodySF (plainFor_of_name own_pn0) hisR ?_
  intro p e s m args below meth c s₁ Bd hml0 hP hK
  obtain ⟨rfl, hZ, hh⟩ := hP
  have hx := Bd.exec
  have hby := Bd.bytes
  have hml : c.maxLocals = 2 := hml0
  have hown : s.vm.findClass "com/example/minnow/minnow/typing/Type$Variable" = some m.cls := findClass_of_methodNamed Bd.named
  have hnm := (name_of_methodNamed Bd.named Bd.method).1
  have X0 : Stand p l e ({ frames := 1, cells := 0, slots := 0, locals := 12 } : Room) s m #[(.ref oa), (.int lv)] below meth c s₁ [] 0 0 := Stand.of_body Bd
  have e0 : s₁.heap = h0 := by rw [← hh, Bd.state]; rfl
  have N0 := Fr.nil n0
  show Go p e below (EndQ s below (Q1 Z oa lv w u h0 n0) ({ frames := 1, cells := 0, slots := 0, locals := 12 } : Room).cells ({ frames := 1, cells := 0, slots := 0, locals := 12 } : Room).slots) s₁ (entryFrame m #[(.ref oa), (.int lv)] 2)
  obtain ⟨Φ, hΦ⟩ : ∃ Φ, Φ = EndQ s below (Q1 Z oa lv w u h0 n0) ({ frames := 1, cells := 0, slots := 0, locals := 12 } : Room).cells ({ frames := 1, cells := 0, slots := 0, locals := 12 } : Room).slots := ⟨_, rfl⟩
  rw [← hΦ, own_ef1]
  show Go p e below Φ s₁ (mkF m 0 #[.val (.ref oa), .val (.int lv)] [])
  refine Go.of (fun t k => XS.aloadN X0.here hx rfl (hb hby own_d1_0) rfl rfl  k) ?_
  show Go p e below Φ s₁ (mkF m 1 #[.val (.ref oa), .val (.int lv)] [(.ref oa)])
  obtain ⟨T1, X1, e1, st1⟩ := initO X0 hx hZ hown (hw _ (List.mem_of_getElem? (i := 6) rfl)) (hw _ (List.mem_of_getElem? (i := 7) rfl)) (hw _ (List.mem_of_getElem? (i := 8) rfl)) e0 (g := (mkF m 1 #[.val (.ref oa), .val (.int lv)] [(.ref oa)])) rfl (by rw [hml]; rfl) rfl (hb hby own_d1_1) (by decide) (W := 0) (by show 2 * 0 + _ ≤ _; exact Nat.le_of_eq rfl) (by decide)
  refine Go.of st1 ?_
  show Go p e below Φ T1 (mkF m 4 #[.val (.ref oa), .val (.int lv)] [])
  refine Go.of (fun t k => XS.aloadN X1.here hx rfl (hb hby own_d1_4) rfl rfl  k) ?_
  show Go p e below Φ T1 (mkF m 5 #[.val (.ref oa), .val (.int lv)] [(.ref oa)])
  refine Go.of (fun t k => XS.iloadN X1.here hx rfl (hb hby own_d1_5) rfl  k) ?_
  show Go p e below Φ T1 (mkF m 6 #[.val (.ref oa), .val (.int lv)] [(.int lv), (.ref oa)])
  obtain ⟨T2, h2, X2, e2, W2, st2⟩ := putF X1 hx hZ hown (host := "") (Or.inl (hw _ (List.mem_of_getElem? (i := 9) rfl))) Via.refl e1 F_oa_level E_oa (Or.inl (hw _ (List.mem_of_getElem? (i := 10) rfl))) (hw _ (List.mem_of_getElem? (i := 1) rfl)) (ty := .int) (by decide) rfl rfl (g := (mkF m 6 #[.val (.ref oa), .val (.int lv)] [(.int lv), (.ref oa)])) rfl rfl (hb hby own_d1_6)
  have N2 := Fr.snoc X2 N0 g_oa
  have F_oa_level := F_oa_level.same W2
  have F_oa_settled := F_oa_settled.other W2 (Or.inr (slot_ne (Or.inl (hw _ (List.mem_of_getElem? (i := 17) rfl))) (Or.inl (hw _ (List.mem_of_getElem? (i := 10) rfl))) (by decide) (t := (.object "com/example/minnow/minnow/typing/Type")) (t' := .int) (by decide) (by decide)))
  have E_oa := E_oa.wr W2
  have K2 : Keep h0 h2 [oa] := (Keep.refl h0 [oa]).wr W2 (Or.inl (List.mem_of_getElem? (i := 0) rfl))
  have Z2 := Nat.le_trans Z0 (Keep.of_wr W2).1
  obtain ⟨lc2, X2, N2⟩ : ∃ lc, Stand p l e ({ frames := 1, cells := 0, slots := 0, locals := 12 } : Room) s m #[(.ref oa), (.int lv)] below meth c T2 lc 0 0 ∧ Fr n0 lc := ⟨_, X2, N2⟩
  refine Go.of st2 ?_
  show Go p e below Φ T2 (mkF m 9 #[.val (.ref oa), .val (.int lv)] [])
  rw [hΦ]
  refine Go.retV X2 hx Bd.notSynchronized Bd.returns (hb hby own_d1_9) (by decide) (by decide) ?_
  rw [e2]
  exact ⟨rfl, N2, K2, E_oa, F_oa_settled⟩
theorem own_ef3 (m : MethodId) (oa : Addr) (ty : Addr) : entryFrame m #[(.ref oa), (.ref ty)] 2 = mkF m 0 #[.val (.ref oa), .val (.ref ty)] [] := by first | (simp [entryFrame, mkF, argsToLocals, Value.category]; done) | rfl
def Q3 (Z : State) (oa : Addr) (ty : Addr) (u : Value) (h0 : Heap) (n0 : Nat) (vr : Option Value) (hr : Heap) (Lr : List Loc) : Prop := vr = none ∧ Fr n0 Lr ∧ Keep h0 hr [oa] ∧ Exa Z hr oa "com/example/minnow/minnow/typing/Type$Variable" ∧ Fld Z hr oa "com/example/minnow/minnow/typing/Type$Variable" "settled" "Lcom/example/minnow/minnow/typing/Type;" (.ref ty)
set_option maxRecDepth 65536 in
set_option maxHeartbeats 40000000 in
theorem rm3 (l : Launch) (Z : State) (a0 : Array Value) (hw : ∀ d ∈ tables_1, d.before a0 Z = true) (ws : List Jvm.Cond) (oa : Addr) (ty : Addr) (u : Value) (h0 : Heap) (n0 : Nat) (Z0 : n0 ≤ h0.size) (F_oa_settled : Fld Z h0 oa "com/example/minnow/minnow/typing/Type$Variable" "settled" "Lcom/example/minnow/minnow/typing/Type;" u) (E_oa : Exa Z h0 oa "com/example/minnow/minnow/typing/Type$Variable") (g_oa : n0 ≤ oa) :
    MetFree l (⟨"com/example/minnow/minnow/typing/Type$Variable", "settle", "(Lcom/example/minnow/minnow/typing/Type;)V"⟩ : MethodName) (head1 (Jvm.Cond.code (⟨"com/example/minnow/minnow/typing/Type$Variable", "settle", "(Lcom/example/minnow/minnow/typing/Type;)V"⟩ : MethodName) prog_82_method_3_code 2 none :: ws) ({ frames := 0, cells := 0, slots := 0, locals := 0 } : Room)) (fun aQ UQ => aQ = #[(.ref oa), (.ref ty)] ∧ Z.Warmed39 UQ.vm ∧ UQ.heap = h0) (fun _ _ _ _ _ => True) (fun _ UQ oQ VQ => ∃ vQ LQ, oQ = .returned vQ ∧ Q3 Z oa ty u h0 n0 vQ VQ.heap LQ ∧ FrameEnd UQ oQ VQ LQ ({ frames := 0, cells := 0, slots := 0, locals := 0 } : Room).cells ({ frames := 0, cells := 0, slots := 0, locals := 0 } : Room).slots) := by
  refine MetFree.of_bodySF (plainFor_of_name own_pn0) hisR ?_
  intro p e s m args below meth c s₁ Bd hml0 hP hK
  obtain ⟨rfl, hZ, hh⟩ := hP
  have hx := Bd.exec
  have hby := Bd.bytes
  have hml : c.maxLocals = 2 := hml0
  have hown : s.vm.findClass "com/example/minnow/minnow/typing/Type$Variable" = some m.cls := findClass_of_methodNamed Bd.named
  have hnm := (name_of_methodNamed Bd.named Bd.method).1
  have X0 : Stand p l e ({ frames := 0, cells := 0, slots := 0, locals := 0 } : Room) s m #[(.ref oa), (.ref ty)] below meth c s₁ [] 0 0 := Stand.of_body Bd
  have e0 : s₁.heap = h0 := by rw [← hh, Bd.state]; rfl
  have N0 := Fr.nil n0
  show Go p e below (EndQ s below (Q3 Z oa ty u h0 n0) ({ frames := 0, cells := 0, slots := 0, locals := 0 } : Room).cells ({ frames := 0, cells := 0, slots := 0, locals := 0 } : Room).slots) s₁ (entryFrame m #[(.ref oa), (.ref ty)] 2)
  obtain ⟨Φ, hΦ⟩ : ∃ Φ, Φ = EndQ s below (Q3 Z oa ty u h0 n0) ({ frames := 0, cells := 0, slots := 0, locals := 0 } : Room).cells ({ frames := 0, cells := 0, slots := 0, locals := 0 } : Room).slots := ⟨_, rfl⟩
  rw [← hΦ, own_ef3]
  show Go p e below Φ s₁ (mkF m 0 #[.val (.ref oa), .val (.ref ty)] [])
  refine Go.of (fun t k => XS.aloadN X0.here hx rfl (hb hby own_d3_0) rfl rfl  k) ?_
  show Go p e below Φ s₁ (mkF m 1 #[.val (.ref oa), .val (.ref ty)] [(.ref oa)])
  refine Go.of (fun t k => XS.aloadN X0.here hx rfl (hb hby own_d3_1) rfl rfl  k) ?_
  show Go p e below Φ s₁ (mkF m 2 #[.val (.ref oa), .val (.ref ty)] [(.ref ty), (.ref oa)])
  obtain ⟨T1, h1, X1, e1, W1, st1⟩ := putF X0 hx hZ hown (host := "") (Or.inl (hw _ (List.mem_of_getElem? (i := 16) rfl))) Via.refl e0 F_oa_settled E_oa (Or.inl (hw _ (List.mem_of_getElem? (i := 17) rfl))) (hw _ (List.mem_of_getElem? (i := 1) rfl)) (ty := (.object "com/example/minnow/minnow/typing/Type")) (by decide) rfl rfl (g := (mkF m 2 #[.val (.ref oa), .val (.ref ty)] [(.ref ty), (.ref oa)])) rfl rfl (hb hby own_d3_2)
  have N1 := Fr.snoc X1 N0 g_oa
  have F_oa_settled := F_oa_settled.same W1
  have E_oa := E_oa.wr W1
  have K1 : Keep h0 h1 [oa] := (Keep.refl h0 [oa]).wr W1 (Or.inl (List.mem_of_getElem? (i := 0) rfl))
  have Z1 := Nat.le_trans Z0 (Keep.of_wr W1).1
  obtain ⟨lc1, X1, N1⟩ : ∃ lc, Stand p l e ({ frames := 0, cells := 0, slots := 0, locals := 0 } : Room) s m #[(.ref oa), (.ref ty)] below meth c T1 lc 0 0 ∧ Fr n0 lc := ⟨_, X1, N1⟩
  refine Go.of st1 ?_
  show Go p e below Φ T1 (mkF m 5 #[.val (.ref oa), .val (.ref ty)] [])
  rw [hΦ]
  refine Go.retV X1 hx Bd.notSynchronized Bd.returns (hb hby own_d3_5) (by decide) (by decide) ?_
  rw [e1]
  exact ⟨rfl, N1, K1, E_oa, F_oa_settled⟩
theorem own_ef5 (m : MethodId) (oa : Addr) : entryFrame m #[(.ref oa)] 1 = mkF m 0 #[.val (.ref oa)] [] := by first | (simp [entryFrame, mkF, argsToLocals, Value.category]; done) | rfl
def Q5 (Z : State) (oa : Addr) (h0 : Heap) (n0 : Nat) (vr : Option Value) (hr : Heap) (Lr : List Loc) : Prop := vr = some (.ref oa) ∧ Fr n0 Lr ∧ hr = h0
set_option maxRecDepth 65536 in
set_option maxHeartbeats 40000000 in
theorem rm5 (l : Launch) (Z : State) (a0 : Array Value) (hw : ∀ d ∈ tables_1, d.before a0 Z = true) (ws : List Jvm.Cond) (oa : Addr) (h0 : Heap) (n0 : Nat) (Z0 : n0 ≤ h0.size) :
    MetFree l (⟨"com/example/minnow/minnow/typing/Type", "resolved", "()Lcom/example/minnow/minnow/typing/Type;"⟩ : MethodName) (head1 (Jvm.Cond.code (⟨"com/example/minnow/minnow/typing/Type", "resolved", "()Lcom/example/minnow/minnow/typing/Type;"⟩ : MethodName) prog_78_method_5_code 1 (some (.object "com/example/minnow/minnow/typing/Type")) :: ws) ({ frames := 0, cells := 0, slots := 0, locals := 0 } : Room)) (fun aQ UQ => aQ = #[(.ref oa)] ∧ Z.Warmed39 UQ.vm ∧ UQ.heap = h0) (fun _ _ _ _ _ => True) (fun _ UQ oQ VQ => ∃ vQ LQ, oQ = .returned vQ ∧ Q5 Z oa h0 n0 vQ VQ.heap LQ ∧ FrameEnd UQ oQ VQ LQ ({ frames := 0, cells := 0, slots := 0, locals := 0 } : Room).cells ({ frames := 0, cells := 0, slots := 0, locals := 0 } : Room).slots) := by
  refine MetFree.of_bodySF (plainFor_of_name own_pn1) hisR ?_
  intro p e s m args below meth c s₁ Bd hml0 hP hK
  obtain ⟨rfl, hZ, hh⟩ := hP
  have hx := Bd.exec
  have hby := Bd.bytes
  have hml : c.maxLocals = 1 := hml0
  have hown : s.vm.findClass "com/example/minnow/minnow/typing/Type" = some m.cls := findClass_of_methodNamed Bd.named
  have hnm := (name_of_methodNamed Bd.named Bd.method).1
  have X0 : Stand p l e ({ frames := 0, cells := 0, slots := 0, locals := 0 } : Room) s m #[(.ref oa)] below meth c s₁ [] 0 0 := Stand.of_body Bd
  have e0 : s₁.heap = h0 := by rw [← hh, Bd.state]; rfl
  have N0 := Fr.nil n0
  show Go p e below (EndQ s below (Q5 Z oa h0 n0) ({ frames := 0, cells := 0, slots := 0, locals := 0 } : Room).cells ({ frames := 0, cells := 0, slots := 0, locals := 0 } : Room).slots) s₁ (entryFrame m #[(.ref oa)] 1)
  obtain ⟨Φ, hΦ⟩ : ∃ Φ, Φ = EndQ s below (Q5 Z oa h0 n0) ({ frames := 0, cells := 0, slots := 0, locals := 0 } : Room).cells ({ frames := 0, cells := 0, slots := 0, locals := 0 } : Room).slots := ⟨_, rfl⟩
  rw [← hΦ, own_ef5]
  show Go p e below Φ s₁ (mkF m 0 #[.val (.ref oa)] [])
  refine Go.of (fun t k => XS.aloadN X0.here hx rfl (hb hby own_d5_0) rfl rfl  k) ?_
  show Go p e below Φ s₁ (mkF m 1 #[.val (.ref oa)] [(.ref oa)])
  rw [hΦ]
  refine Go.ret X0 hx Bd.notSynchronized Bd.returns rfl (Or.inr (Or.inr (Or.inr (Or.inr ⟨rfl, rfl, rfl⟩)))) (hb hby own_d5_1) (by decide) (by decide) ?_
  rw [e0]
  exact ⟨rfl, N0, rfl⟩
def own_rc (oc : Addr) (uc : Value) : Value := if uc = .null then .ref oc else uc
def own_rb (ob oc : Addr) (ub uc : Value) : Value := if ub = .null then .ref ob else if ub = .ref oc then own_rc oc uc else ub
def own_nb (oc : Addr) (ub uc : Value) : Value := if ub = .ref oc then own_rc oc uc else ub
def own_ra (oa ob oc : Addr) (ua ub uc : Value) : Value := if ua = .null then .ref oa else if ua = .ref ob then own_rb ob oc ub uc else if ua = .ref oc then own_rc oc uc else ua
def own_na (ob oc : Addr) (ua ub uc : Value) : Value := if ua = .ref ob then own_rb ob oc ub uc else if ua = .ref oc then own_rc oc uc else ua
def own_nab (ob oc : Addr) (ua ub uc : Value) : Value := if ua = .ref ob then own_nb oc ub uc else ub
def own_okc (sU : Addr) (uc : Value) : Prop := uc = .null ∨ uc = .ref sU
def own_okb (oc sB sI sU : Addr) (ub : Value) : Prop := ub = .null ∨ ub = .ref oc ∨ ub = .ref sB ∨ ub = .ref sI ∨ ub = .ref sU
def own_oka (ob oc sB sI sU : Addr) (ua : Value) : Prop := ua = .null ∨ ua = .ref ob ∨ ua = .ref oc ∨ ua = .ref sB ∨ ua = .ref sI ∨ ua = .ref sU
section Chain
variable {oa ob oc sU sB sI : Addr} {ua ub uc : Value}
theorem own_okcC (h : own_okc sU uc) : own_rc oc uc = .ref oc ∨ own_rc oc uc = .ref sU := by
  rcases h with rfl | rfl <;> simp [own_rc]
theorem own_rcr (h : own_okc sU uc) : (own_rc oc uc).isRef = true := by
  rcases own_okcC (oc := oc) h with q | q <;> rw [q] <;> rfl
theorem own_rbD (hc : own_okc sU uc) (hb : own_okb oc sB sI sU ub) : own_rb ob oc ub uc = .ref ob ∨ own_rb ob oc ub uc = .ref oc ∨ own_rb ob oc ub uc = .ref sB ∨ own_rb ob oc ub uc = .ref sI ∨ own_rb ob oc ub uc = .ref sU := by
  rw [own_rb]
  split
  · exact Or.inl rfl
  · split
    · rcases own_okcC (oc := oc) hc with q | q <;> rw [q] <;> simp
    · rcases hb with q | q | q | q | q
      · contradiction
      · contradiction
      · simp [q]
      · simp [q]
      · simp [q]
theorem own_rbr (hc : own_okc sU uc) (hb : own_okb oc sB sI sU ub) : (own_rb ob oc ub uc).isRef = true := by
  rcases own_rbD (ob := ob) hc hb with q | q | q | q | q <;> rw [q] <;> rfl
theorem own_rar (hc : own_okc sU uc) (hb : own_okb oc sB sI sU ub) (ha : own_oka ob oc sB sI sU ua) : (own_ra oa ob oc ua ub uc).isRef = true := by
  rw [own_ra]
  split
  · rfl
  · split
    · exact own_rbr hc hb
    · split
      · exact own_rcr hc
      · rcases ha with q | q | q | q | q | q <;> rw [q] <;> rfl
theorem own_alB (hc : own_okc sU uc) (hb : own_okb oc sB sI sU ub) : own_okb oc sB sI sU (own_nb oc ub uc) := by
  rw [own_nb]
  split
  · rcases own_okcC (oc := oc) hc with q | q <;> rw [q] <;> simp [own_okb]
  · exact hb
theorem own_alAB (hc : own_okc sU uc) (hb : own_okb oc sB sI sU ub) : own_okb oc sB sI sU (own_nab ob oc ua ub uc) := by
  rw [own_nab]
  split
  · exact own_alB hc hb
  · exact hb
theorem own_alAA (hc : own_okc sU uc) (hb : own_okb oc sB sI sU ub) (ha : own_oka ob oc sB sI sU ua) : own_oka ob oc sB sI sU (own_na ob oc ua ub uc) := by
  rw [own_na]
  split
  · rcases own_rbD (ob := ob) hc hb with q | q | q | q | q <;> rw [q] <;> simp [own_oka]
  · split
    · rcases own_okcC (oc := oc) hc with q | q <;> rw [q] <;> simp [own_oka]
    · exact ha
theorem own_invBB (oa : Addr) (hc : own_okc sU uc) (hb : own_okb oc sB sI sU ub) (ha : own_oka ob oc sB sI sU ua) (nU : sU ≠ oc) (nB : sB ≠ oc) (nI : sI ≠ oc) (mU : sU ≠ ob) (mB : sB ≠ ob) (mI : sI ≠ ob) (a1 : oa ≠ ob) (a2 : oa ≠ oc) (a3 : ob ≠ oc) : own_rb ob oc (own_nb oc ub uc) uc = own_rb ob oc ub uc := by
  rcases hc with rfl | rfl <;> rcases hb with rfl | rfl | rfl | rfl | rfl <;> simp [own_rb, own_nb, own_rc, nU, nB, nI]
theorem own_invBA (oa : Addr) (hc : own_okc sU uc) (hb : own_okb oc sB sI sU ub) (ha : own_oka ob oc sB sI sU ua) (nU : sU ≠ oc) (nB : sB ≠ oc) (nI : sI ≠ oc) (mU : sU ≠ ob) (mB : sB ≠ ob) (mI : sI ≠ ob) (a1 : oa ≠ ob) (a2 : oa ≠ oc) (a3 : ob ≠ oc) : own_ra oa ob oc ua (own_nb oc ub uc) uc = own_ra oa ob oc ua ub uc := by
  rw [own_ra, own_ra, own_invBB oa hc hb ha nU nB nI mU mB mI a1 a2 a3]
theorem own_invAB (oa : Addr) (hc : own_okc sU uc) (hb : own_okb oc sB sI sU ub) (ha : own_oka ob oc sB sI sU ua) (nU : sU ≠ oc) (nB : sB ≠ oc) (nI : sI ≠ oc) (mU : sU ≠ ob) (mB : sB ≠ ob) (mI : sI ≠ ob) (a1 : oa ≠ ob) (a2 : oa ≠ oc) (a3 : ob ≠ oc) : own_rb ob oc (own_nab ob oc ua ub uc) uc = own_rb ob oc ub uc := by
  rw [own_nab]
  split
  · exact own_invBB oa hc hb ha nU nB nI mU mB mI a1 a2 a3
  · rfl
theorem own_invAA (oa : Addr) (hc : own_okc sU uc) (hb : own_okb oc sB sI sU ub) (ha : own_oka ob oc sB sI sU ua) (nU : sU ≠ oc) (nB : sB ≠ oc) (nI : sI ≠ oc) (mU : sU ≠ ob) (mB : sB ≠ ob) (mI : sI ≠ ob) (a1 : oa ≠ ob) (a2 : oa ≠ oc) (a3 : ob ≠ oc) : own_ra oa ob oc (own_na ob oc ua ub uc) (own_nab ob oc ua ub uc) uc = own_ra oa ob oc ua ub uc := by
  rcases hc with rfl | rfl <;> rcases hb with rfl | rfl | rfl | rfl | rfl <;> rcases ha with rfl | rfl | rfl | rfl | rfl | rfl <;> simp [own_ra, own_na, own_nab, own_rb, own_nb, own_rc, nU, nB, nI, mU, mB, mI, a3, Ne.symm a3]
end Chain
theorem own_ef40 (m : MethodId) (oc : Addr) : entryFrame m #[(.ref oc)] 1 = mkF m 0 #[.val (.ref oc)] [] := by first | (simp [entryFrame, mkF, argsToLocals, Value.category]; done) | rfl
def Q40 (Z : State) (oc : Addr) (sU : Addr) (uc : Value) (h0 : Heap) (n0 : Nat) (vr : Option Value) (hr : Heap) (Lr : List Loc) : Prop := vr = some (own_rc oc uc) ∧ Fr n0 Lr ∧ Keep h0 hr [oc] ∧ Exa Z hr oc "com/example/minnow/minnow/typing/Type$Variable" ∧ Fld Z hr oc "com/example/minnow/minnow/typing/Type$Variable" "settled" "Lcom/example/minnow/minnow/typing/Type;" uc
set_option maxRecDepth 65536 in
set_option maxHeartbeats 40000000 in
theorem rm40 (l : Launch) (Z : State) (a0 : Array Value) (hw : ∀ d ∈ tables_1, d.before a0 Z = true) (ws : List Jvm.Cond) (oc : Addr) (sU : Addr) (uc : Value) (h0 : Heap) (n0 : Nat) (Z0 : n0 ≤ h0.size) (F_oc_settled : Fld Z h0 oc "com/example/minnow/minnow/typing/Type$Variable" "settled" "Lcom/example/minnow/minnow/typing/Type;" uc) (E_oc : Exa Z h0 oc "com/example/minnow/minnow/typing/Type$Variable") (g_oc : n0 ≤ oc) (E_sU : Exa Z h0 sU "com/example/minnow/minnow/typing/Type$Constructed") (hvoc : own_okc sU uc) :
    MetFree l (⟨"com/example/minnow/minnow/typing/Type$Variable", "resolved", "()Lcom/example/minnow/minnow/typing/Type;"⟩ : MethodName) (head1 (Jvm.Cond.code (⟨"com/example/minnow/minnow/typing/Type$Variable", "resolved", "()Lcom/example/minnow/minnow/typing/Type;"⟩ : MethodName) prog_82_method_2_code 1 (some (.object "com/example/minnow/minnow/typing/Type")) :: ws) ({ frames := 1, cells := 0, slots := 0, locals := 13 } : Room)) (fun aQ UQ => aQ = #[(.ref oc)] ∧ Z.Warmed39 UQ.vm ∧ UQ.heap = h0) (fun _ _ _ _ _ => True) (fun _ UQ oQ VQ => ∃ vQ LQ, oQ = .returned vQ ∧ Q40 Z oc sU uc h0 n0 vQ VQ.heap LQ ∧ FrameEnd UQ oQ VQ LQ ({ frames := 1, cells := 0, slots := 0, locals := 13 } : Room).cells ({ frames := 1, cells := 0, slots := 0, locals := 13 } : Room).slots) := by
  refine MetFree.of_bodySF (plainFor_of_name own_pn0) hisR ?_
  intro p e s m args below meth c s₁ Bd hml0 hP hK
  obtain ⟨rfl, hZ, hh⟩ := hP
  have hx := Bd.exec
  have hby := Bd.bytes
  have hml : c.maxLocals = 1 := hml0
  have hown : s.vm.findClass "com/example/minnow/minnow/typing/Type$Variable" = some m.cls := findClass_of_methodNamed Bd.named
  have hnm := (name_of_methodNamed Bd.named Bd.method).1
  have X0 : Stand p l e ({ frames := 1, cells := 0, slots := 0, locals := 13 } : Room) s m #[(.ref oc)] below meth c s₁ [] 0 0 := Stand.of_body Bd
  have e0 : s₁.heap = h0 := by rw [← hh, Bd.state]; rfl
  have N0 := Fr.nil n0
  show Go p e below (EndQ s below (Q40 Z oc sU uc h0 n0) ({ frames := 1, cells := 0, slots := 0, locals := 13 } : Room).cells ({ frames := 1, cells := 0, slots := 0, locals := 13 } : Room).slots) s₁ (entryFrame m #[(.ref oc)] 1)
  obtain ⟨Φ, hΦ⟩ : ∃ Φ, Φ = EndQ s below (Q40 Z oc sU uc h0 n0) ({ frames := 1, cells := 0, slots := 0, locals := 13 } : Room).cells ({ frames := 1, cells := 0, slots := 0, locals := 13 } : Room).slots := ⟨_, rfl⟩
  rw [← hΦ, own_ef40]
  show Go p e below Φ s₁ (mkF m 0 #[.val (.ref oc)] [])
  rcases hvoc with rfl | rfl
  · show Go p e below Φ s₁ (mkF m 0 #[.val (.ref oc)] [])
    refine Go.of (fun t k => XS.aloadN X0.here hx rfl (hb hby own_d4_0) rfl rfl  k) ?_
    show Go p e below Φ s₁ (mkF m 1 #[.val (.ref oc)] [(.ref oc)])
    obtain ⟨T1, X1, e1, st1⟩ := getF X0 hx hZ hown (host := "") (Or.inl (hw _ (List.mem_of_getElem? (i := 16) rfl))) Via.refl e0 F_oc_settled (g := (mkF m 1 #[.val (.ref oc)] [(.ref oc)])) rfl rfl (hb hby own_d4_1)
    refine Go.of st1 ?_
    show Go p e below Φ T1 (mkF m 4 #[.val (.ref oc)] [.null])
    refine Go.of (fun t k => XS.ifnonnullNo X1.here hx rfl (hb hby own_d4_4) rfl k) ?_
    show Go p e below Φ T1 (mkF m 7 #[.val (.ref oc)] [])
    refine Go.of (fun t k => XS.aloadN X1.here hx rfl (hb hby own_d4_7) rfl rfl  k) ?_
    show Go p e below Φ T1 (mkF m 8 #[.val (.ref oc)] [(.ref oc)])
    rw [hΦ]
    refine Go.ret X1 hx Bd.notSynchronized Bd.returns rfl (Or.inr (Or.inr (Or.inr (Or.inr ⟨rfl, rfl, rfl⟩)))) (hb hby own_d4_8) (by decide) (by decide) ?_
    rw [e1]
    exact ⟨by simp [own_rc], N0, (Keep.refl h0 [oc]), E_oc, (by first | exact F_oc_settled | (simp [own_rc]; exact F_oc_settled))⟩
  · show Go p e below Φ s₁ (mkF m 0 #[.val (.ref oc)] [])
    refine Go.of (fun t k => XS.aloadN X0.here hx rfl (hb hby own_d4_0) rfl rfl  k) ?_
    show Go p e below Φ s₁ (mkF m 1 #[.val (.ref oc)] [(.ref oc)])
    obtain ⟨T2, X2, e2, st2⟩ := getF X0 hx hZ hown (host := "") (Or.inl (hw _ (List.mem_of_getElem? (i := 16) rfl))) Via.refl e0 F_oc_settled (g := (mkF m 1 #[.val (.ref oc)] [(.ref oc)])) rfl rfl (hb hby own_d4_1)
    refine Go.of st2 ?_
    show Go p e below Φ T2 (mkF m 4 #[.val (.ref oc)] [(.ref sU)])
    refine Go.of (fun t k => XS.ifnonnullYes X2.here hx rfl (pc0 := 4) (pc' := 9) rfl (hb hby own_d4_4) rfl (by decide) (by decide) k) ?_
    show Go p e below Φ T2 (mkF m 9 #[.val (.ref oc)] [])
    refine Go.of (fun t k => XS.aloadN X2.here hx rfl (hb hby own_d4_9) rfl rfl  k) ?_
    show Go p e below Φ T2 (mkF m 10 #[.val (.ref oc)] [(.ref oc)])
    refine Go.of (fun t k => XS.aloadN X2.here hx rfl (hb hby own_d4_10) rfl rfl  k) ?_
    show Go p e below Φ T2 (mkF m 11 #[.val (.ref oc)] [(.ref oc), (.ref oc)])
    obtain ⟨T3, X3, e3, st3⟩ := getF X2 hx hZ hown (host := "") (Or.inl (hw _ (List.mem_of_getElem? (i := 16) rfl))) Via.refl e2 F_oc_settled (g := (mkF m 11 #[.val (.ref oc)] [(.ref oc), (.ref oc)])) rfl rfl (hb hby own_d4_11)
    refine Go.of st3 ?_
    show Go p e below Φ T3 (mkF m 14 #[.val (.ref oc)] [(.ref sU), (.ref oc)])
    obtain ⟨cq4, kq4, q4a, q4b, q4c⟩ := isOf hZ e3 E_sU
    obtain ⟨_, _, ⟨T4, L4, k4, n4⟩, -, X4, ⟨Lc4, hQ4, l4, y4, z4⟩, st4⟩ := X3.interfaceBackD hx (xi := (⟨"com/example/minnow/minnow/typing/Type", "resolved", "()Lcom/example/minnow/minnow/typing/Type;"⟩ : MethodName)) (y := (⟨"com/example/minnow/minnow/typing/Type", "resolved", "()Lcom/example/minnow/minnow/typing/Type;"⟩ : MethodName)) hown (mvT hZ (hw _ (List.mem_of_getElem? (i := 23) rfl))) (mvT hZ (hw _ (List.mem_of_getElem? (i := 24) rfl))) (mvT hZ (hw _ (List.mem_of_getElem? (i := 25) rfl))) (mvD hZ (hw _ (List.mem_of_getElem? (i := 35) rfl))) (mvT hZ (hw _ (List.mem_of_getElem? (i := 36) rfl))) (mvT hZ (hw _ (List.mem_of_getElem? (i := 37) rfl))) (mvT hZ (hw _ (List.mem_of_getElem? (i := 38) rfl))) (by decide) (backOf (W := 1) (rm5 l Z a0 hw [] sU h0 n0 Z0 ) hZ (hw _ (List.mem_of_getElem? (i := 39) rfl)) (hw _ (List.mem_of_getElem? (i := 31) rfl)) (by decide) (by decide)) q4a q4b q4c (g := (mkF m 14 #[.val (.ref oc)] [(.ref sU), (.ref oc)])) rfl (by rw [hml]; rfl) (Steps.refl _) (argsL := []) (rest := [(.ref oc)]) (lenOf own_pd0 rfl) rfl (by show 2 * 0 + _ ≤ _; exact Nat.le_of_eq rfl) (hb hby own_d4_14) (fun _ _ => ⟨rfl, e3, (by decide : 0 + 0 ≤ _), (by decide : 0 + 0 ≤ _)⟩)
    dsimp only [Pt.U, Pt.locs, Pt.cells, Pt.slots] at X4 l4 y4 z4 st4 hQ4
    subst l4 y4 z4
    obtain ⟨rfl, N4q, e4q⟩ := hQ4
    have N4 := Fr.app N0 N4q
    obtain ⟨lc4, X4, N4⟩ : ∃ lc, Stand p l e ({ frames := 1, cells := 0, slots := 0, locals := 13 } : Room) s m #[(.ref oc)] below meth c T4 lc 0 0 ∧ Fr n0 lc := ⟨_, X4, N4⟩
    refine Go.tr st4 ?_
    show Go p e below Φ T4 (mkF m 19 #[.val (.ref oc)] [(.ref sU), (.ref oc)])
    obtain ⟨T5, h5, X5, e5, W5, st5⟩ := putF X4 hx hZ hown (host := "") (Or.inl (hw _ (List.mem_of_getElem? (i := 16) rfl))) Via.refl (e4q) F_oc_settled E_oc (Or.inl (hw _ (List.mem_of_getElem? (i := 17) rfl))) (hw _ (List.mem_of_getElem? (i := 1) rfl)) (ty := (.object "com/example/minnow/minnow/typing/Type")) (by decide) rfl rfl (g := (mkF m 19 #[.val (.ref oc)] [(.ref sU), (.ref oc)])) rfl rfl (hb hby own_d4_19)
    have N5 := Fr.snoc X5 N4 g_oc
    have F_oc_settled := F_oc_settled.same W5
    have E_oc := E_oc.wr W5
    have E_sU := E_sU.wr W5
    have K5 : Keep h0 h5 [oc] := (Keep.refl h0 [oc]).wr W5 (Or.inl (List.mem_of_getElem? (i := 0) rfl))
    have Z5 := Nat.le_trans Z0 (Keep.of_wr W5).1
    obtain ⟨lc5, X5, N5⟩ : ∃ lc, Stand p l e ({ frames := 1, cells := 0, slots := 0, locals := 13 } : Room) s m #[(.ref oc)] below meth c T5 lc 0 0 ∧ Fr n0 lc := ⟨_, X5, N5⟩
    refine Go.of st5 ?_
    show Go p e below Φ T5 (mkF m 22 #[.val (.ref oc)] [])
    refine Go.of (fun t k => XS.aloadN X5.here hx rfl (hb hby own_d4_22) rfl rfl  k) ?_
    show Go p e below Φ T5 (mkF m 23 #[.val (.ref oc)] [(.ref oc)])
    obtain ⟨T6, X6, e6, st6⟩ := getF X5 hx hZ hown (host := "") (Or.inl (hw _ (List.mem_of_getElem? (i := 16) rfl))) Via.refl e5 F_oc_settled (g := (mkF m 23 #[.val (.ref oc)] [(.ref oc)])) rfl rfl (hb hby own_d4_23)
    refine Go.of st6 ?_
    show Go p e below Φ T6 (mkF m 26 #[.val (.ref oc)] [(.ref sU)])
    rw [hΦ]
    refine Go.ret X6 hx Bd.notSynchronized Bd.returns rfl (Or.inr (Or.inr (Or.inr (Or.inr ⟨rfl, rfl, rfl⟩)))) (hb hby own_d4_26) (by decide) (by decide) ?_
    rw [e6]
    exact ⟨by simp [own_rc], N5, K5, E_oc, (by first | exact F_oc_settled | (simp [own_rc]; exact F_oc_settled))⟩
theorem own_ef41 (m : MethodId) (ob : Addr) : entryFrame m #[(.ref ob)] 1 = mkF m 0 #[.val (.ref ob)] [] := by first | (simp [entryFrame, mkF, argsToLocals, Value.category]; done) | rfl
def Q41 (Z : State) (ob : Addr) (oc : Addr) (sU : Addr) (sB : Addr) (sI : Addr) (ub : Value) (uc : Value) (h0 : Heap) (n0 : Nat) (vr : Option Value) (hr : Heap) (Lr : List Loc) : Prop := vr = some (own_rb ob oc ub uc) ∧ Fr n0 Lr ∧ Keep h0 hr [ob, oc] ∧ Exa Z hr ob "com/example/minnow/minnow/typing/Type$Variable" ∧ Exa Z hr oc "com/example/minnow/minnow/typing/Type$Variable" ∧ Fld Z hr ob "com/example/minnow/minnow/typing/Type$Variable" "settled" "Lcom/example/minnow/minnow/typing/Type;" (own_nb oc ub uc) ∧ Fld Z hr oc "com/example/minnow/minnow/typing/Type$Variable" "settled" "Lcom/example/minnow/minnow/typing/Type;" uc
set_option maxRecDepth 65536 in
set_option maxHeartbeats 40000000 in
theorem rm41 (l : Launch) (Z : State) (a0 : Array Value) (hw : ∀ d ∈ tables_1, d.before a0 Z = true) (ws : List Jvm.Cond) (ob : Addr) (oc : Addr) (sU : Addr) (sB : Addr) (sI : Addr) (ub : Value) (uc : Value) (h0 : Heap) (n0 : Nat) (Z0 : n0 ≤ h0.size) (F_ob_settled : Fld Z h0 ob "com/example/minnow/minnow/typing/Type$Variable" "settled" "Lcom/example/minnow/minnow/typing/Type;" ub) (F_oc_settled : Fld Z h0 oc "com/example/minnow/minnow/typing/Type$Variable" "settled" "Lcom/example/minnow/minnow/typing/Type;" uc) (E_ob : Exa Z h0 ob "com/example/minnow/minnow/typing/Type$Variable") (E_oc : Exa Z h0 oc "com/example/minnow/minnow/typing/Type$Variable") (g_ob : n0 ≤ ob) (g_oc : n0 ≤ oc) (ne_ob_oc : ob ≠ oc) (E_sU : Exa Z h0 sU "com/example/minnow/minnow/typing/Type$Constructed") (E_sB : Exa Z h0 sB "com/example/minnow/minnow/typing/Type$Constructed") (E_sI : Exa Z h0 sI "com/example/minnow/minnow/typing/Type$Constructed") (nU : sU ≠ oc) (nB : sB ≠ oc) (nI : sI ≠ oc) (hvoc : own_okc sU uc) (hvob : own_okb oc sB sI sU ub) :
    MetFree l (⟨"com/example/minnow/minnow/typing/Type$Variable", "resolved", "()Lcom/example/minnow/minnow/typing/Type;"⟩ : MethodName) (head1 (Jvm.Cond.code (⟨"com/example/minnow/minnow/typing/Type$Variable", "resolved", "()Lcom/example/minnow/minnow/typing/Type;"⟩ : MethodName) prog_82_method_2_code 1 (some (.object "com/example/minnow/minnow/typing/Type")) :: ws) ({ frames := 2, cells := 0, slots := 0, locals := 26 } : Room)) (fun aQ UQ => aQ = #[(.ref ob)] ∧ Z.Warmed39 UQ.vm ∧ UQ.heap = h0) (fun _ _ _ _ _ => True) (fun _ UQ oQ VQ => ∃ vQ LQ, oQ = .returned vQ ∧ Q41 Z ob oc sU sB sI ub uc h0 n0 vQ VQ.heap LQ ∧ FrameEnd UQ oQ VQ LQ ({ frames := 2, cells := 0, slots := 0, locals := 26 } : Room).cells ({ frames := 2, cells := 0, slots := 0, locals := 26 } : Room).slots) := by
  refine MetFree.of_bodySF (plainFor_of_name own_pn0) hisR ?_
  intro p e s m args below meth c s₁ Bd hml0 hP hK
  obtain ⟨rfl, hZ, hh⟩ := hP
  have hx := Bd.exec
  have hby := Bd.bytes
  have hml : c.maxLocals = 1 := hml0
  have hown : s.vm.findClass "com/example/minnow/minnow/typing/Type$Variable" = some m.cls := findClass_of_methodNamed Bd.named
  have hnm := (name_of_methodNamed Bd.named Bd.method).1
  have X0 : Stand p l e ({ frames := 2, cells := 0, slots := 0, locals := 26 } : Room) s m #[(.ref ob)] below meth c s₁ [] 0 0 := Stand.of_body Bd
  have e0 : s₁.heap = h0 := by rw [← hh, Bd.state]; rfl
  have N0 := Fr.nil n0
  show Go p e below (EndQ s below (Q41 Z ob oc sU sB sI ub uc h0 n0) ({ frames := 2, cells := 0, slots := 0, locals := 26 } : Room).cells ({ frames := 2, cells := 0, slots := 0, locals := 26 } : Room).slots) s₁ (entryFrame m #[(.ref ob)] 1)
  obtain ⟨Φ, hΦ⟩ : ∃ Φ, Φ = EndQ s below (Q41 Z ob oc sU sB sI ub uc h0 n0) ({ frames := 2, cells := 0, slots := 0, locals := 26 } : Room).cells ({ frames := 2, cells := 0, slots := 0, locals := 26 } : Room).slots := ⟨_, rfl⟩
  rw [← hΦ, own_ef41]
  show Go p e below Φ s₁ (mkF m 0 #[.val (.ref ob)] [])
  rcases hvob with rfl | rfl | rfl | rfl | rfl
  · show Go p e below Φ s₁ (mkF m 0 #[.val (.ref ob)] [])
    refine Go.of (fun t k => XS.aloadN X0.here hx rfl (hb hby own_d4_0) rfl rfl  k) ?_
    show Go p e below Φ s₁ (mkF m 1 #[.val (.ref ob)] [(.ref ob)])
    obtain ⟨T1, X1, e1, st1⟩ := getF X0 hx hZ hown (host := "") (Or.inl (hw _ (List.mem_of_getElem? (i := 16) rfl))) Via.refl e0 F_ob_settled (g := (mkF m 1 #[.val (.ref ob)] [(.ref ob)])) rfl rfl (hb hby own_d4_1)
    refine Go.of st1 ?_
    show Go p e below Φ T1 (mkF m 4 #[.val (.ref ob)] [.null])
    refine Go.of (fun t k => XS.ifnonnullNo X1.here hx rfl (hb hby own_d4_4) rfl k) ?_
    show Go p e below Φ T1 (mkF m 7 #[.val (.ref ob)] [])
    refine Go.of (fun t k => XS.aloadN X1.here hx rfl (hb hby own_d4_7) rfl rfl  k) ?_
    show Go p e below Φ T1 (mkF m 8 #[.val (.ref ob)] [(.ref ob)])
    rw [hΦ]
    refine Go.ret X1 hx Bd.notSynchronized Bd.returns rfl (Or.inr (Or.inr (Or.inr (Or.inr ⟨rfl, rfl, rfl⟩)))) (hb hby own_d4_8) (by decide) (by decide) ?_
    rw [e1]
    exact ⟨by simp [own_rb, own_nb, nU, nB, nI], N0, (Keep.refl h0 [ob, oc]), E_ob, E_oc, (by first | exact F_ob_settled | (simp [own_rb, own_nb, nU, nB, nI]; exact F_ob_settled)), (by first | exact F_oc_settled | (simp [own_rb, own_nb, nU, nB, nI]; exact F_oc_settled))⟩
  · show Go p e below Φ s₁ (mkF m 0 #[.val (.ref ob)] [])
    refine Go.of (fun t k => XS.aloadN X0.here hx rfl (hb hby own_d4_0) rfl rfl  k) ?_
    show Go p e below Φ s₁ (mkF m 1 #[.val (.ref ob)] [(.ref ob)])
    obtain ⟨T2, X2, e2, st2⟩ := getF X0 hx hZ hown (host := "") (Or.inl (hw _ (List.mem_of_getElem? (i := 16) rfl))) Via.refl e0 F_ob_settled (g := (mkF m 1 #[.val (.ref ob)] [(.ref ob)])) rfl rfl (hb hby own_d4_1)
    refine Go.of st2 ?_
    show Go p e below Φ T2 (mkF m 4 #[.val (.ref ob)] [(.ref oc)])
    refine Go.of (fun t k => XS.ifnonnullYes X2.here hx rfl (pc0 := 4) (pc' := 9) rfl (hb hby own_d4_4) rfl (by decide) (by decide) k) ?_
    show Go p e below Φ T2 (mkF m 9 #[.val (.ref ob)] [])
    refine Go.of (fun t k => XS.aloadN X2.here hx rfl (hb hby own_d4_9) rfl rfl  k) ?_
    show Go p e below Φ T2 (mkF m 10 #[.val (.ref ob)] [(.ref ob)])
    refine Go.of (fun t k => XS.aloadN X2.here hx rfl (hb hby own_d4_10) rfl rfl  k) ?_
    show Go p e below Φ T2 (mkF m 11 #[.val (.ref ob)] [(.ref ob), (.ref ob)])
    obtain ⟨T3, X3, e3, st3⟩ := getF X2 hx hZ hown (host := "") (Or.inl (hw _ (List.mem_of_getElem? (i := 16) rfl))) Via.refl e2 F_ob_settled (g := (mkF m 11 #[.val (.ref ob)] [(.ref ob), (.ref ob)])) rfl rfl (hb hby own_d4_11)
    refine Go.of st3 ?_
    show Go p e below Φ T3 (mkF m 14 #[.val (.ref ob)] [(.ref oc), (.ref ob)])
    obtain ⟨cq4, kq4, q4a, q4b, q4c⟩ := isOf hZ e3 E_oc
    obtain ⟨_, _, ⟨T4, L4, k4, n4⟩, -, X4, ⟨Lc4, hQ4, l4, y4, z4⟩, st4⟩ := X3.interfaceBack hx (xi := (⟨"com/example/minnow/minnow/typing/Type", "resolved", "()Lcom/example/minnow/minnow/typing/Type;"⟩ : MethodName)) (y := (⟨"com/example/minnow/minnow/typing/Type$Variable", "resolved", "()Lcom/example/minnow/minnow/typing/Type;"⟩ : MethodName)) hown (mvT hZ (hw _ (List.mem_of_getElem? (i := 23) rfl))) (mvT hZ (hw _ (List.mem_of_getElem? (i := 24) rfl))) (mvT hZ (hw _ (List.mem_of_getElem? (i := 25) rfl))) (mvT hZ (hw _ (List.mem_of_getElem? (i := 26) rfl))) (mvT hZ (hw _ (List.mem_of_getElem? (i := 20) rfl))) (mvT hZ (hw _ (List.mem_of_getElem? (i := 27) rfl))) (mvT hZ (hw _ (List.mem_of_getElem? (i := 28) rfl))) (mvT hZ (hw _ (List.mem_of_getElem? (i := 29) rfl))) (by decide) (backOf (W := 1) (rm40 l Z a0 hw [] oc sU uc h0 n0 Z0 F_oc_settled E_oc g_oc E_sU hvoc) hZ (hw _ (List.mem_of_getElem? (i := 22) rfl)) (hw _ (List.mem_of_getElem? (i := 2) rfl)) (by decide) (by decide)) q4a q4b q4c (g := (mkF m 14 #[.val (.ref ob)] [(.ref oc), (.ref ob)])) rfl (by rw [hml]; rfl) (Steps.refl _) (argsL := []) (rest := [(.ref ob)]) (lenOf own_pd0 rfl) rfl (by show 2 * 0 + _ ≤ _; exact Nat.le_of_eq rfl) (hb hby own_d4_14) (fun _ _ => ⟨rfl, e3, (by decide : 0 + 0 ≤ _), (by decide : 0 + 0 ≤ _)⟩)
    dsimp only [Pt.U, Pt.locs, Pt.cells, Pt.slots] at X4 l4 y4 z4 st4 hQ4
    subst l4 y4 z4
    obtain ⟨rfl, N4q, K4q, cE4_0, cF4_0⟩ := hQ4
    have N4 := Fr.app N0 N4q
    obtain ⟨lc4, X4, N4⟩ : ∃ lc, Stand p l e ({ frames := 2, cells := 0, slots := 0, locals := 26 } : Room) s m #[(.ref ob)] below meth c T4 lc 0 0 ∧ Fr n0 lc := ⟨_, X4, N4⟩
    have F_ob_settled := F_ob_settled.keep K4q (ninS ne_ob_oc nin0)
    have E_ob := E_ob.keep K4q
    have E_oc := E_oc.keep K4q
    have E_sU := E_sU.keep K4q
    have E_sB := E_sB.keep K4q
    have E_sI := E_sI.keep K4q
    have K4 := (Keep.refl h0 [ob, oc]).trans K4q (allS (Or.inl (List.mem_of_getElem? (i := 1) rfl)) all0)
    have Z4 := Nat.le_trans Z0 K4q.1
    have E_oc := cE4_0
    have F_oc_settled := cF4_0
    refine Go.tr st4 ?_
    show Go p e below Φ T4 (mkF m 19 #[.val (.ref ob)] [(own_rc oc uc), (.ref ob)])
    obtain ⟨T5, h5, X5, e5, W5, st5⟩ := putF X4 hx hZ hown (host := "") (Or.inl (hw _ (List.mem_of_getElem? (i := 16) rfl))) Via.refl rfl F_ob_settled E_ob (Or.inl (hw _ (List.mem_of_getElem? (i := 17) rfl))) (hw _ (List.mem_of_getElem? (i := 1) rfl)) (ty := (.object "com/example/minnow/minnow/typing/Type")) (by decide) (own_nar_ref (own_rcr hvoc)) (own_fits_ref (own_rcr hvoc)) (g := (mkF m 19 #[.val (.ref ob)] [(own_rc oc uc), (.ref ob)])) rfl rfl (hb hby own_d4_19)
    have N5 := Fr.snoc X5 N4 g_ob
    have F_ob_settled := F_ob_settled.same W5
    have E_ob := E_ob.wr W5
    have E_oc := E_oc.wr W5
    have E_sU := E_sU.wr W5
    have E_sB := E_sB.wr W5
    have E_sI := E_sI.wr W5
    have F_oc_settled := F_oc_settled.other W5 (Or.inl (Ne.symm ne_ob_oc))
    have K5 : Keep h0 h5 [ob, oc] := K4.wr W5 (Or.inl (List.mem_of_getElem? (i := 0) rfl))
    have Z5 := Nat.le_trans Z4 (Keep.of_wr W5).1
    obtain ⟨lc5, X5, N5⟩ : ∃ lc, Stand p l e ({ frames := 2, cells := 0, slots := 0, locals := 26 } : Room) s m #[(.ref ob)] below meth c T5 lc 0 0 ∧ Fr n0 lc := ⟨_, X5, N5⟩
    refine Go.of st5 ?_
    show Go p e below Φ T5 (mkF m 22 #[.val (.ref ob)] [])
    refine Go.of (fun t k => XS.aloadN X5.here hx rfl (hb hby own_d4_22) rfl rfl  k) ?_
    show Go p e below Φ T5 (mkF m 23 #[.val (.ref ob)] [(.ref ob)])
    obtain ⟨T6, X6, e6, st6⟩ := getF X5 hx hZ hown (host := "") (Or.inl (hw _ (List.mem_of_getElem? (i := 16) rfl))) Via.refl e5 F_ob_settled (g := (mkF m 23 #[.val (.ref ob)] [(.ref ob)])) rfl rfl (hb hby own_d4_23)
    refine Go.of st6 ?_
    show Go p e below Φ T6 (mkF m 26 #[.val (.ref ob)] [(own_rc oc uc)])
    rw [hΦ]
    refine Go.ret X6 hx Bd.notSynchronized Bd.returns (own_nar_ref (own_rcr hvoc)) (Or.inr (Or.inr (Or.inr (Or.inr ⟨rfl, rfl, (own_rcr hvoc)⟩)))) (hb hby own_d4_26) (by decide) (by decide) ?_
    rw [e6]
    exact ⟨by simp [own_rb, own_nb, nU, nB, nI], N5, K5, E_ob, E_oc, (by first | exact F_ob_settled | (simp [own_rb, own_nb, nU, nB, nI]; exact F_ob_settled)), (by first | exact F_oc_settled | (simp [own_rb, own_nb, nU, nB, nI]; exact F_oc_settled))⟩
  · show Go p e below Φ s₁ (mkF m 0 #[.val (.ref ob)] [])
    refine Go.of (fun t k => XS.aloadN X0.here hx rfl (hb hby own_d4_0) rfl rfl  k) ?_
    show Go p e below Φ s₁ (mkF m 1 #[.val (.ref ob)] [(.ref ob)])
    obtain ⟨T7, X7, e7, st7⟩ := getF X0 hx hZ hown (host := "") (Or.inl (hw _ (List.mem_of_getElem? (i := 16) rfl))) Via.refl e0 F_ob_settled (g := (mkF m 1 #[.val (.ref ob)] [(.ref ob)])) rfl rfl (hb hby own_d4_1)
    refine Go.of st7 ?_
    show Go p e below Φ T7 (mkF m 4 #[.val (.ref ob)] [(.ref sB)])
    refine Go.of (fun t k => XS.ifnonnullYes X7.here hx rfl (pc0 := 4) (pc' := 9) rfl (hb hby own_d4_4) rfl (by decide) (by decide) k) ?_
    show Go p e below Φ T7 (mkF m 9 #[.val (.ref ob)] [])
    refine Go.of (fun t k => XS.aloadN X7.here hx rfl (hb hby own_d4_9) rfl rfl  k) ?_
    show Go p e below Φ T7 (mkF m 10 #[.val (.ref ob)] [(.ref ob)])
    refine Go.of (fun t k => XS.aloadN X7.here hx rfl (hb hby own_d4_10) rfl rfl  k) ?_
    show Go p e below Φ T7 (mkF m 11 #[.val (.ref ob)] [(.ref ob), (.ref ob)])
    obtain ⟨T8, X8, e8, st8⟩ := getF X7 hx hZ hown (host := "") (Or.inl (hw _ (List.mem_of_getElem? (i := 16) rfl))) Via.refl e7 F_ob_settled (g := (mkF m 11 #[.val (.ref ob)] [(.ref ob), (.ref ob)])) rfl rfl (hb hby own_d4_11)
    refine Go.of st8 ?_
    show Go p e below Φ T8 (mkF m 14 #[.val (.ref ob)] [(.ref sB), (.ref ob)])
    obtain ⟨cq9, kq9, q9a, q9b, q9c⟩ := isOf hZ e8 E_sB
    obtain ⟨_, _, ⟨T9, L9, k9, n9⟩, -, X9, ⟨Lc9, hQ9, l9, y9, z9⟩, st9⟩ := X8.interfaceBackD hx (xi := (⟨"com/example/minnow/minnow/typing/Type", "resolved", "()Lcom/example/minnow/minnow/typing/Type;"⟩ : MethodName)) (y := (⟨"com/example/minnow/minnow/typing/Type", "resolved", "()Lcom/example/minnow/minnow/typing/Type;"⟩ : MethodName)) hown (mvT hZ (hw _ (List.mem_of_getElem? (i := 23) rfl))) (mvT hZ (hw _ (List.mem_of_getElem? (i := 24) rfl))) (mvT hZ (hw _ (List.mem_of_getElem? (i := 25) rfl))) (mvD hZ (hw _ (List.mem_of_getElem? (i := 35) rfl))) (mvT hZ (hw _ (List.mem_of_getElem? (i := 36) rfl))) (mvT hZ (hw _ (List.mem_of_getElem? (i := 37) rfl))) (mvT hZ (hw _ (List.mem_of_getElem? (i := 38) rfl))) (by decide) (backOf (W := 1) (rm5 l Z a0 hw [] sB h0 n0 Z0 ) hZ (hw _ (List.mem_of_getElem? (i := 39) rfl)) (hw _ (List.mem_of_getElem? (i := 31) rfl)) (by decide) (by decide)) q9a q9b q9c (g := (mkF m 14 #[.val (.ref ob)] [(.ref sB), (.ref ob)])) rfl (by rw [hml]; rfl) (Steps.refl _) (argsL := []) (rest := [(.ref ob)]) (lenOf own_pd0 rfl) rfl (by show 2 * 0 + _ ≤ _; exact Nat.le_of_eq rfl) (hb hby own_d4_14) (fun _ _ => ⟨rfl, e8, (by decide : 0 + 0 ≤ _), (by decide : 0 + 0 ≤ _)⟩)
    dsimp only [Pt.U, Pt.locs, Pt.cells, Pt.slots] at X9 l9 y9 z9 st9 hQ9
    subst l9 y9 z9
    obtain ⟨rfl, N9q, e9q⟩ := hQ9
    have N9 := Fr.app N0 N9q
    obtain ⟨lc9, X9, N9⟩ : ∃ lc, Stand p l e ({ frames := 2, cells := 0, slots := 0, locals := 26 } : Room) s m #[(.ref ob)] below meth c T9 lc 0 0 ∧ Fr n0 lc := ⟨_, X9, N9⟩
    refine Go.tr st9 ?_
    show Go p e below Φ T9 (mkF m 19 #[.val (.ref ob)] [(.ref sB), (.ref ob)])
    obtain ⟨T10, h10, X10, e10, W10, st10⟩ := putF X9 hx hZ hown (host := "") (Or.inl (hw _ (List.mem_of_getElem? (i := 16) rfl))) Via.refl (e9q) F_ob_settled E_ob (Or.inl (hw _ (List.mem_of_getElem? (i := 17) rfl))) (hw _ (List.mem_of_getElem? (i := 1) rfl)) (ty := (.object "com/example/minnow/minnow/typing/Type")) (by decide) rfl rfl (g := (mkF m 19 #[.val (.ref ob)] [(.ref sB), (.ref ob)])) rfl rfl (hb hby own_d4_19)
    have N10 := Fr.snoc X10 N9 g_ob
    have F_ob_settled := F_ob_settled.same W10
    have F_oc_settled := F_oc_settled.other W10 (Or.inl (Ne.symm ne_ob_oc))
    have E_ob := E_ob.wr W10
    have E_oc := E_oc.wr W10
    have E_sU := E_sU.wr W10
    have E_sB := E_sB.wr W10
    have E_sI := E_sI.wr W10
    have K10 : Keep h0 h10 [ob, oc] := (Keep.refl h0 [ob, oc]).wr W10 (Or.inl (List.mem_of_getElem? (i := 0) rfl))
    have Z10 := Nat.le_trans Z0 (Keep.of_wr W10).1
    obtain ⟨lc10, X10, N10⟩ : ∃ lc, Stand p l e ({ frames := 2, cells := 0, slots := 0, locals := 26 } : Room) s m #[(.ref ob)] below meth c T10 lc 0 0 ∧ Fr n0 lc := ⟨_, X10, N10⟩
    refine Go.of st10 ?_
    show Go p e below Φ T10 (mkF m 22 #[.val (.ref ob)] [])
    refine Go.of (fun t k => XS.aloadN X10.here hx rfl (hb hby own_d4_22) rfl rfl  k) ?_
    show Go p e below Φ T10 (mkF m 23 #[.val (.ref ob)] [(.ref ob)])
    obtain ⟨T11, X11, e11, st11⟩ := getF X10 hx hZ hown (host := "") (Or.inl (hw _ (List.mem_of_getElem? (i := 16) rfl))) Via.refl e10 F_ob_settled (g := (mkF m 23 #[.val (.ref ob)] [(.ref ob)])) rfl rfl (hb hby own_d4_23)
    refine Go.of st11 ?_
    show Go p e below Φ T11 (mkF m 26 #[.val (.ref ob)] [(.ref sB)])
    rw [hΦ]
    refine Go.ret X11 hx Bd.notSynchronized Bd.returns rfl (Or.inr (Or.inr (Or.inr (Or.inr ⟨rfl, rfl, rfl⟩)))) (hb hby own_d4_26) (by decide) (by decide) ?_
    rw [e11]
    exact ⟨by simp [own_rb, own_nb, nU, nB, nI], N10, K10, E_ob, E_oc, (by first | exact F_ob_settled | (simp [own_rb, own_nb, nU, nB, nI]; exact F_ob_settled)), (by first | exact F_oc_settled | (simp [own_rb, own_nb, nU, nB, nI]; exact F_oc_settled))⟩
  · show Go p e below Φ s₁ (mkF m 0 #[.val (.ref ob)] [])
    refine Go.of (fun t k => XS.aloadN X0.here hx rfl (hb hby own_d4_0) rfl rfl  k) ?_
    show Go p e below Φ s₁ (mkF m 1 #[.val (.ref ob)] [(.ref ob)])
    obtain ⟨T12, X12, e12, st12⟩ := getF X0 hx hZ hown (host := "") (Or.inl (hw _ (List.mem_of_getElem? (i := 16) rfl))) Via.refl e0 F_ob_settled (g := (mkF m 1 #[.val (.ref ob)] [(.ref ob)])) rfl rfl (hb hby own_d4_1)
    refine Go.of st12 ?_
    show Go p e below Φ T12 (mkF m 4 #[.val (.ref ob)] [(.ref sI)])
    refine Go.of (fun t k => XS.ifnonnullYes X12.here hx rfl (pc0 := 4) (pc' := 9) rfl (hb hby own_d4_4) rfl (by decide) (by decide) k) ?_
    show Go p e below Φ T12 (mkF m 9 #[.val (.ref ob)] [])
    refine Go.of (fun t k => XS.aloadN X12.here hx rfl (hb hby own_d4_9) rfl rfl  k) ?_
    show Go p e below Φ T12 (mkF m 10 #[.val (.ref ob)] [(.ref ob)])
    refine Go.of (fun t k => XS.aloadN X12.here hx rfl (hb hby own_d4_10) rfl rfl  k) ?_
    show Go p e below Φ T12 (mkF m 11 #[.val (.ref ob)] [(.ref ob), (.ref ob)])
    obtain ⟨T13, X13, e13, st13⟩ := getF X12 hx hZ hown (host := "") (Or.inl (hw _ (List.mem_of_getElem? (i := 16) rfl))) Via.refl e12 F_ob_settled (g := (mkF m 11 #[.val (.ref ob)] [(.ref ob), (.ref ob)])) rfl rfl (hb hby own_d4_11)
    refine Go.of st13 ?_
    show Go p e below Φ T13 (mkF m 14 #[.val (.ref ob)] [(.ref sI), (.ref ob)])
    obtain ⟨cq14, kq14, q14a, q14b, q14c⟩ := isOf hZ e13 E_sI
    obtain ⟨_, _, ⟨T14, L14, k14, n14⟩, -, X14, ⟨Lc14, hQ14, l14, y14, z14⟩, st14⟩ := X13.interfaceBackD hx (xi := (⟨"com/example/minnow/minnow/typing/Type", "resolved", "()Lcom/example/minnow/minnow/typing/Type;"⟩ : MethodName)) (y := (⟨"com/example/minnow/minnow/typing/Type", "resolved", "()Lcom/example/minnow/minnow/typing/Type;"⟩ : MethodName)) hown (mvT hZ (hw _ (List.mem_of_getElem? (i := 23) rfl))) (mvT hZ (hw _ (List.mem_of_getElem? (i := 24) rfl))) (mvT hZ (hw _ (List.mem_of_getElem? (i := 25) rfl))) (mvD hZ (hw _ (List.mem_of_getElem? (i := 35) rfl))) (mvT hZ (hw _ (List.mem_of_getElem? (i := 36) rfl))) (mvT hZ (hw _ (List.mem_of_getElem? (i := 37) rfl))) (mvT hZ (hw _ (List.mem_of_getElem? (i := 38) rfl))) (by decide) (backOf (W := 1) (rm5 l Z a0 hw [] sI h0 n0 Z0 ) hZ (hw _ (List.mem_of_getElem? (i := 39) rfl)) (hw _ (List.mem_of_getElem? (i := 31) rfl)) (by decide) (by decide)) q14a q14b q14c (g := (mkF m 14 #[.val (.ref ob)] [(.ref sI), (.ref ob)])) rfl (by rw [hml]; rfl) (Steps.refl _) (argsL := []) (rest := [(.ref ob)]) (lenOf own_pd0 rfl) rfl (by show 2 * 0 + _ ≤ _; exact Nat.le_of_eq rfl) (hb hby own_d4_14) (fun _ _ => ⟨rfl, e13, (by decide : 0 + 0 ≤ _), (by decide : 0 + 0 ≤ _)⟩)
    dsimp only [Pt.U, Pt.locs, Pt.cells, Pt.slots] at X14 l14 y14 z14 st14 hQ14
    subst l14 y14 z14
    obtain ⟨rfl, N14q, e14q⟩ := hQ14
    have N14 := Fr.app N0 N14q
    obtain ⟨lc14, X14, N14⟩ : ∃ lc, Stand p l e ({ frames := 2, cells := 0, slots := 0, locals := 26 } : Room) s m #[(.ref ob)] below meth c T14 lc 0 0 ∧ Fr n0 lc := ⟨_, X14, N14⟩
    refine Go.tr st14 ?_
    show Go p e below Φ T14 (mkF m 19 #[.val (.ref ob)] [(.ref sI), (.ref ob)])
    obtain ⟨T15, h15, X15, e15, W15, st15⟩ := putF X14 hx hZ hown (host := "") (Or.inl (hw _ (List.mem_of_getElem? (i := 16) rfl))) Via.refl (e14q) F_ob_settled E_ob (Or.inl (hw _ (List.mem_of_getElem? (i := 17) rfl))) (hw _ (List.mem_of_getElem? (i := 1) rfl)) (ty := (.object "com/example/minnow/minnow/typing/Type")) (by decide) rfl rfl (g := (mkF m 19 #[.val (.ref ob)] [(.ref sI), (.ref ob)])) rfl rfl (hb hby own_d4_19)
    have N15 := Fr.snoc X15 N14 g_ob
    have F_ob_settled := F_ob_settled.same W15
    have F_oc_settled := F_oc_settled.other W15 (Or.inl (Ne.symm ne_ob_oc))
    have E_ob := E_ob.wr W15
    have E_oc := E_oc.wr W15
    have E_sU := E_sU.wr W15
    have E_sB := E_sB.wr W15
    have E_sI := E_sI.wr W15
    have K15 : Keep h0 h15 [ob, oc] := (Keep.refl h0 [ob, oc]).wr W15 (Or.inl (List.mem_of_getElem? (i := 0) rfl))
    have Z15 := Nat.le_trans Z0 (Keep.of_wr W15).1
    obtain ⟨lc15, X15, N15⟩ : ∃ lc, Stand p l e ({ frames := 2, cells := 0, slots := 0, locals := 26 } : Room) s m #[(.ref ob)] below meth c T15 lc 0 0 ∧ Fr n0 lc := ⟨_, X15, N15⟩
    refine Go.of st15 ?_
    show Go p e below Φ T15 (mkF m 22 #[.val (.ref ob)] [])
    refine Go.of (fun t k => XS.aloadN X15.here hx rfl (hb hby own_d4_22) rfl rfl  k) ?_
    show Go p e below Φ T15 (mkF m 23 #[.val (.ref ob)] [(.ref ob)])
    obtain ⟨T16, X16, e16, st16⟩ := getF X15 hx hZ hown (host := "") (Or.inl (hw _ (List.mem_of_getElem? (i := 16) rfl))) Via.refl e15 F_ob_settled (g := (mkF m 23 #[.val (.ref ob)] [(.ref ob)])) rfl rfl (hb hby own_d4_23)
    refine Go.of st16 ?_
    show Go p e below Φ T16 (mkF m 26 #[.val (.ref ob)] [(.ref sI)])
    rw [hΦ]
    refine Go.ret X16 hx Bd.notSynchronized Bd.returns rfl (Or.inr (Or.inr (Or.inr (Or.inr ⟨rfl, rfl, rfl⟩)))) (hb hby own_d4_26) (by decide) (by decide) ?_
    rw [e16]
    exact ⟨by simp [own_rb, own_nb, nU, nB, nI], N15, K15, E_ob, E_oc, (by first | exact F_ob_settled | (simp [own_rb, own_nb, nU, nB, nI]; exact F_ob_settled)), (by first | exact F_oc_settled | (simp [own_rb, own_nb, nU, nB, nI]; exact F_oc_settled))⟩
  · show Go p e below Φ s₁ (mkF m 0 #[.val (.ref ob)] [])
    refine Go.of (fun t k => XS.aloadN X0.here hx rfl (hb hby own_d4_0) rfl rfl  k) ?_
    show Go p e below Φ s₁ (mkF m 1 #[.val (.ref ob)] [(.ref ob)])
    obtain ⟨T17, X17, e17, st17⟩ := getF X0 hx hZ hown (host := "") (Or.inl (hw _ (List.mem_of_getElem? (i := 16) rfl))) Via.refl e0 F_ob_settled (g := (mkF m 1 #[.val (.ref ob)] [(.ref ob)])) rfl rfl (hb hby own_d4_1)
    refine Go.of st17 ?_
    show Go p e below Φ T17 (mkF m 4 #[.val (.ref ob)] [(.ref sU)])
    refine Go.of (fun t k => XS.ifnonnullYes X17.here hx rfl (pc0 := 4) (pc' := 9) rfl (hb hby own_d4_4) rfl (by decide) (by decide) k) ?_
    show Go p e below Φ T17 (mkF m 9 #[.val (.ref ob)] [])
    refine Go.of (fun t k => XS.aloadN X17.here hx rfl (hb hby own_d4_9) rfl rfl  k) ?_
    show Go p e below Φ T17 (mkF m 10 #[.val (.ref ob)] [(.ref ob)])
    refine Go.of (fun t k => XS.aloadN X17.here hx rfl (hb hby own_d4_10) rfl rfl  k) ?_
    show Go p e below Φ T17 (mkF m 11 #[.val (.ref ob)] [(.ref ob), (.ref ob)])
    obtain ⟨T18, X18, e18, st18⟩ := getF X17 hx hZ hown (host := "") (Or.inl (hw _ (List.mem_of_getElem? (i := 16) rfl))) Via.refl e17 F_ob_settled (g := (mkF m 11 #[.val (.ref ob)] [(.ref ob), (.ref ob)])) rfl rfl (hb hby own_d4_11)
    refine Go.of st18 ?_
    show Go p e below Φ T18 (mkF m 14 #[.val (.ref ob)] [(.ref sU), (.ref ob)])
    obtain ⟨cq19, kq19, q19a, q19b, q19c⟩ := isOf hZ e18 E_sU
    obtain ⟨_, _, ⟨T19, L19, k19, n19⟩, -, X19, ⟨Lc19, hQ19, l19, y19, z19⟩, st19⟩ := X18.interfaceBackD hx (xi := (⟨"com/example/minnow/minnow/typing/Type", "resolved", "()Lcom/example/minnow/minnow/typing/Type;"⟩ : MethodName)) (y := (⟨"com/example/minnow/minnow/typing/Type", "resolved", "()Lcom/example/minnow/minnow/typing/Type;"⟩ : MethodName)) hown (mvT hZ (hw _ (List.mem_of_getElem? (i := 23) rfl))) (mvT hZ (hw _ (List.mem_of_getElem? (i := 24) rfl))) (mvT hZ (hw _ (List.mem_of_getElem? (i := 25) rfl))) (mvD hZ (hw _ (List.mem_of_getElem? (i := 35) rfl))) (mvT hZ (hw _ (List.mem_of_getElem? (i := 36) rfl))) (mvT hZ (hw _ (List.mem_of_getElem? (i := 37) rfl))) (mvT hZ (hw _ (List.mem_of_getElem? (i := 38) rfl))) (by decide) (backOf (W := 1) (rm5 l Z a0 hw [] sU h0 n0 Z0 ) hZ (hw _ (List.mem_of_getElem? (i := 39) rfl)) (hw _ (List.mem_of_getElem? (i := 31) rfl)) (by decide) (by decide)) q19a q19b q19c (g := (mkF m 14 #[.val (.ref ob)] [(.ref sU), (.ref ob)])) rfl (by rw [hml]; rfl) (Steps.refl _) (argsL := []) (rest := [(.ref ob)]) (lenOf own_pd0 rfl) rfl (by show 2 * 0 + _ ≤ _; exact Nat.le_of_eq rfl) (hb hby own_d4_14) (fun _ _ => ⟨rfl, e18, (by decide : 0 + 0 ≤ _), (by decide : 0 + 0 ≤ _)⟩)
    dsimp only [Pt.U, Pt.locs, Pt.cells, Pt.slots] at X19 l19 y19 z19 st19 hQ19
    subst l19 y19 z19
    obtain ⟨rfl, N19q, e19q⟩ := hQ19
    have N19 := Fr.app N0 N19q
    obtain ⟨lc19, X19, N19⟩ : ∃ lc, Stand p l e ({ frames := 2, cells := 0, slots := 0, locals := 26 } : Room) s m #[(.ref ob)] below meth c T19 lc 0 0 ∧ Fr n0 lc := ⟨_, X19, N19⟩
    refine Go.tr st19 ?_
    show Go p e below Φ T19 (mkF m 19 #[.val (.ref ob)] [(.ref sU), (.ref ob)])
    obtain ⟨T20, h20, X20, e20, W20, st20⟩ := putF X19 hx hZ hown (host := "") (Or.inl (hw _ (List.mem_of_getElem? (i := 16) rfl))) Via.refl (e19q) F_ob_settled E_ob (Or.inl (hw _ (List.mem_of_getElem? (i := 17) rfl))) (hw _ (List.mem_of_getElem? (i := 1) rfl)) (ty := (.object "com/example/minnow/minnow/typing/Type")) (by decide) rfl rfl (g := (mkF m 19 #[.val (.ref ob)] [(.ref sU), (.ref ob)])) rfl rfl (hb hby own_d4_19)
    have N20 := Fr.snoc X20 N19 g_ob
    have F_ob_settled := F_ob_settled.same W20
    have F_oc_settled := F_oc_settled.other W20 (Or.inl (Ne.symm ne_ob_oc))
    have E_ob := E_ob.wr W20
    have E_oc := E_oc.wr W20
    have E_sU := E_sU.wr W20
    have E_sB := E_sB.wr W20
    have E_sI := E_sI.wr W20
    have K20 : Keep h0 h20 [ob, oc] := (Keep.refl h0 [ob, oc]).wr W20 (Or.inl (List.mem_of_getElem? (i := 0) rfl))
    have Z20 := Nat.le_trans Z0 (Keep.of_wr W20).1
    obtain ⟨lc20, X20, N20⟩ : ∃ lc, Stand p l e ({ frames := 2, cells := 0, slots := 0, locals := 26 } : Room) s m #[(.ref ob)] below meth c T20 lc 0 0 ∧ Fr n0 lc := ⟨_, X20, N20⟩
    refine Go.of st20 ?_
    show Go p e below Φ T20 (mkF m 22 #[.val (.ref ob)] [])
    refine Go.of (fun t k => XS.aloadN X20.here hx rfl (hb hby own_d4_22) rfl rfl  k) ?_
    show Go p e below Φ T20 (mkF m 23 #[.val (.ref ob)] [(.ref ob)])
    obtain ⟨T21, X21, e21, st21⟩ := getF X20 hx hZ hown (host := "") (Or.inl (hw _ (List.mem_of_getElem? (i := 16) rfl))) Via.refl e20 F_ob_settled (g := (mkF m 23 #[.val (.ref ob)] [(.ref ob)])) rfl rfl (hb hby own_d4_23)
    refine Go.of st21 ?_
    show Go p e below Φ T21 (mkF m 26 #[.val (.ref ob)] [(.ref sU)])
    rw [hΦ]
    refine Go.ret X21 hx Bd.notSynchronized Bd.returns rfl (Or.inr (Or.inr (Or.inr (Or.inr ⟨rfl, rfl, rfl⟩)))) (hb hby own_d4_26) (by decide) (by decide) ?_
    rw [e21]
    exact ⟨by simp [own_rb, own_nb, nU, nB, nI], N20, K20, E_ob, E_oc, (by first | exact F_ob_settled | (simp [own_rb, own_nb, nU, nB, nI]; exact F_ob_settled)), (by first | exact F_oc_settled | (simp [own_rb, own_nb, nU, nB, nI]; exact F_oc_settled))⟩
theorem own_ef42 (m : MethodId) (oa : Addr) : entryFrame m #[(.ref oa)] 1 = mkF m 0 #[.val (.ref oa)] [] := by first | (simp [entryFrame, mkF, argsToLocals, Value.category]; done) | rfl
def Q42 (Z : State) (oa : Addr) (ob : Addr) (oc : Addr) (sU : Addr) (sB : Addr) (sI : Addr) (ua : Value) (ub : Value) (uc : Value) (h0 : Heap) (n0 : Nat) (vr : Option Value) (hr : Heap) (Lr : List Loc) : Prop := vr = some (own_ra oa ob oc ua ub uc) ∧ Fr n0 Lr ∧ Keep h0 hr [oa, ob, oc] ∧ Exa Z hr oa "com/example/minnow/minnow/typing/Type$Variable" ∧ Exa Z hr ob "com/example/minnow/minnow/typing/Type$Variable" ∧ Exa Z hr oc "com/example/minnow/minnow/typing/Type$Variable" ∧ Fld Z hr oa "com/example/minnow/minnow/typing/Type$Variable" "settled" "Lcom/example/minnow/minnow/typing/Type;" (own_na ob oc ua ub uc) ∧ Fld Z hr ob "com/example/minnow/minnow/typing/Type$Variable" "settled" "Lcom/example/minnow/minnow/typing/Type;" (own_nab ob oc ua ub uc) ∧ Fld Z hr oc "com/example/minnow/minnow/typing/Type$Variable" "settled" "Lcom/example/minnow/minnow/typing/Type;" uc
set_option maxRecDepth 65536 in
set_option maxHeartbeats 40000000 in
theorem rm42 (l : Launch) (Z : State) (a0 : Array Value) (hw : ∀ d ∈ tables_1, d.before a0 Z = true) (ws : List Jvm.Cond) (oa : Addr) (ob : Addr) (oc : Addr) (sU : Addr) (sB : Addr) (sI : Addr) (ua : Value) (ub : Value) (uc : Value) (h0 : Heap) (n0 : Nat) (Z0 : n0 ≤ h0.size) (F_oa_settled : Fld Z h0 oa "com/example/minnow/minnow/typing/Type$Variable" "settled" "Lcom/example/minnow/minnow/typing/Type;" ua) (F_ob_settled : Fld Z h0 ob "com/example/minnow/minnow/typing/Type$Variable" "settled" "Lcom/example/minnow/minnow/typing/Type;" ub) (F_oc_settled : Fld Z h0 oc "com/example/minnow/minnow/typing/Type$Variable" "settled" "Lcom/example/minnow/minnow/typing/Type;" uc) (E_oa : Exa Z h0 oa "com/example/minnow/minnow/typing/Type$Variable") (E_ob : Exa Z h0 ob "com/example/minnow/minnow/typing/Type$Variable") (E_oc : Exa Z h0 oc "com/example/minnow/minnow/typing/Type$Variable") (g_oa : n0 ≤ oa) (g_ob : n0 ≤ ob) (g_oc : n0 ≤ oc) (ne_oa_ob : oa ≠ ob) (ne_oa_oc : oa ≠ oc) (ne_ob_oc : ob ≠ oc) (E_sU : Exa Z h0 sU "com/example/minnow/minnow/typing/Type$Constructed") (E_sB : Exa Z h0 sB "com/example/minnow/minnow/typing/Type$Constructed") (E_sI : Exa Z h0 sI "com/example/minnow/minnow/typing/Type$Constructed") (nU : sU ≠ oc) (nB : sB ≠ oc) (nI : sI ≠ oc) (mU : sU ≠ ob) (mB : sB ≠ ob) (mI : sI ≠ ob) (hvoc : own_okc sU uc) (hvob : own_okb oc sB sI sU ub) (hvoa : own_oka ob oc sB sI sU ua) :
    MetFree l (⟨"com/example/minnow/minnow/typing/Type$Variable", "resolved", "()Lcom/example/minnow/minnow/typing/Type;"⟩ : MethodName) (head1 (Jvm.Cond.code (⟨"com/example/minnow/minnow/typing/Type$Variable", "resolved", "()Lcom/example/minnow/minnow/typing/Type;"⟩ : MethodName) prog_82_method_2_code 1 (some (.object "com/example/minnow/minnow/typing/Type")) :: ws) ({ frames := 3, cells := 0, slots := 0, locals := 39 } : Room)) (fun aQ UQ => aQ = #[(.ref oa)] ∧ Z.Warmed39 UQ.vm ∧ UQ.heap = h0) (fun _ _ _ _ _ => True) (fun _ UQ oQ VQ => ∃ vQ LQ, oQ = .returned vQ ∧ Q42 Z oa ob oc sU sB sI ua ub uc h0 n0 vQ VQ.heap LQ ∧ FrameEnd UQ oQ VQ LQ ({ frames := 3, cells := 0, slots := 0, locals := 39 } : Room).cells ({ frames := 3, cells := 0, slots := 0, locals := 39 } : Room).slots) := by
  refine MetFree.of_bodySF (plainFor_of_name own_pn0) hisR ?_
  intro p e s m args below meth c s₁ Bd hml0 hP hK
  obtain ⟨rfl, hZ, hh⟩ := hP
  have hx := Bd.exec
  have hby := Bd.bytes
  have hml : c.maxLocals = 1 := hml0
  have hown : s.vm.findClass "com/example/minnow/minnow/typing/Type$Variable" = some m.cls := findClass_of_methodNamed Bd.named
  have hnm := (name_of_methodNamed Bd.named Bd.method).1
  have X0 : Stand p l e ({ frames := 3, cells := 0, slots := 0, locals := 39 } : Room) s m #[(.ref oa)] below meth c s₁ [] 0 0 := Stand.of_body Bd
  have e0 : s₁.heap = h0 := by rw [← hh, Bd.state]; rfl
  have N0 := Fr.nil n0
  show Go p e below (EndQ s below (Q42 Z oa ob oc sU sB sI ua ub uc h0 n0) ({ frames := 3, cells := 0, slots := 0, locals := 39 } : Room).cells ({ frames := 3, cells := 0, slots := 0, locals := 39 } : Room).slots) s₁ (entryFrame m #[(.ref oa)] 1)
  obtain ⟨Φ, hΦ⟩ : ∃ Φ, Φ = EndQ s below (Q42 Z oa ob oc sU sB sI ua ub uc h0 n0) ({ frames := 3, cells := 0, slots := 0, locals := 39 } : Room).cells ({ frames := 3, cells := 0, slots := 0, locals := 39 } : Room).slots := ⟨_, rfl⟩
  rw [← hΦ, own_ef42]
  show Go p e below Φ s₁ (mkF m 0 #[.val (.ref oa)] [])
  rcases hvoa with rfl | rfl | rfl | rfl | rfl | rfl
  · show Go p e below Φ s₁ (mkF m 0 #[.val (.ref oa)] [])
    refine Go.of (fun t k => XS.aloadN X0.here hx rfl (hb hby own_d4_0) rfl rfl  k) ?_
    show Go p e below Φ s₁ (mkF m 1 #[.val (.ref oa)] [(.ref oa)])
    obtain ⟨T1, X1, e1, st1⟩ := getF X0 hx hZ hown (host := "") (Or.inl (hw _ (List.mem_of_getElem? (i := 16) rfl))) Via.refl e0 F_oa_settled (g := (mkF m 1 #[.val (.ref oa)] [(.ref oa)])) rfl rfl (hb hby own_d4_1)
    refine Go.of st1 ?_
    show Go p e below Φ T1 (mkF m 4 #[.val (.ref oa)] [.null])
    refine Go.of (fun t k => XS.ifnonnullNo X1.here hx rfl (hb hby own_d4_4) rfl k) ?_
    show Go p e below Φ T1 (mkF m 7 #[.val (.ref oa)] [])
    refine Go.of (fun t k => XS.aloadN X1.here hx rfl (hb hby own_d4_7) rfl rfl  k) ?_
    show Go p e below Φ T1 (mkF m 8 #[.val (.ref oa)] [(.ref oa)])
    rw [hΦ]
    refine Go.ret X1 hx Bd.notSynchronized Bd.returns rfl (Or.inr (Or.inr (Or.inr (Or.inr ⟨rfl, rfl, rfl⟩)))) (hb hby own_d4_8) (by decide) (by decide) ?_
    rw [e1]
    exact ⟨by simp [own_ra, own_na, own_nab, nU, nB, nI, mU, mB, mI, ne_ob_oc, Ne.symm ne_ob_oc], N0, (Keep.refl h0 [oa, ob, oc]), E_oa, E_ob, E_oc, (by first | exact F_oa_settled | (simp [own_ra, own_na, own_nab, nU, nB, nI, mU, mB, mI, ne_ob_oc, Ne.symm ne_ob_oc]; exact F_oa_settled)), (by first | exact F_ob_settled | (simp [own_ra, own_na, own_nab, nU, nB, nI, mU, mB, mI, ne_ob_oc, Ne.symm ne_ob_oc]; exact F_ob_settled)), (by first | exact F_oc_settled | (simp [own_ra, own_na, own_nab, nU, nB, nI, mU, mB, mI, ne_ob_oc, Ne.symm ne_ob_oc]; exact F_oc_settled))⟩
  · show Go p e below Φ s₁ (mkF m 0 #[.val (.ref oa)] [])
    refine Go.of (fun t k => XS.aloadN X0.here hx rfl (hb hby own_d4_0) rfl rfl  k) ?_
    show Go p e below Φ s₁ (mkF m 1 #[.val (.ref oa)] [(.ref oa)])
    obtain ⟨T2, X2, e2, st2⟩ := getF X0 hx hZ hown (host := "") (Or.inl (hw _ (List.mem_of_getElem? (i := 16) rfl))) Via.refl e0 F_oa_settled (g := (mkF m 1 #[.val (.ref oa)] [(.ref oa)])) rfl rfl (hb hby own_d4_1)
    refine Go.of st2 ?_
    show Go p e below Φ T2 (mkF m 4 #[.val (.ref oa)] [(.ref ob)])
    refine Go.of (fun t k => XS.ifnonnullYes X2.here hx rfl (pc0 := 4) (pc' := 9) rfl (hb hby own_d4_4) rfl (by decide) (by decide) k) ?_
    show Go p e below Φ T2 (mkF m 9 #[.val (.ref oa)] [])
    refine Go.of (fun t k => XS.aloadN X2.here hx rfl (hb hby own_d4_9) rfl rfl  k) ?_
    show Go p e below Φ T2 (mkF m 10 #[.val (.ref oa)] [(.ref oa)])
    refine Go.of (fun t k => XS.aloadN X2.here hx rfl (hb hby own_d4_10) rfl rfl  k) ?_
    show Go p e below Φ T2 (mkF m 11 #[.val (.ref oa)] [(.ref oa), (.ref oa)])
    obtain ⟨T3, X3, e3, st3⟩ := getF X2 hx hZ hown (host := "") (Or.inl (hw _ (List.mem_of_getElem? (i := 16) rfl))) Via.refl e2 F_oa_settled (g := (mkF m 11 #[.val (.ref oa)] [(.ref oa), (.ref oa)])) rfl rfl (hb hby own_d4_11)
    refine Go.of st3 ?_
    show Go p e below Φ T3 (mkF m 14 #[.val (.ref oa)] [(.ref ob), (.ref oa)])
    obtain ⟨cq4, kq4, q4a, q4b, q4c⟩ := isOf hZ e3 E_ob
    obtain ⟨_, _, ⟨T4, L4, k4, n4⟩, -, X4, ⟨Lc4, hQ4, l4, y4, z4⟩, st4⟩ := X3.interfaceBack hx (xi := (⟨"com/example/minnow/minnow/typing/Type", "resolved", "()Lcom/example/minnow/minnow/typing/Type;"⟩ : MethodName)) (y := (⟨"com/example/minnow/minnow/typing/Type$Variable", "resolved", "()Lcom/example/minnow/minnow/typing/Type;"⟩ : MethodName)) hown (mvT hZ (hw _ (List.mem_of_getElem? (i := 23) rfl))) (mvT hZ (hw _ (List.mem_of_getElem? (i := 24) rfl))) (mvT hZ (hw _ (List.mem_of_getElem? (i := 25) rfl))) (mvT hZ (hw _ (List.mem_of_getElem? (i := 26) rfl))) (mvT hZ (hw _ (List.mem_of_getElem? (i := 20) rfl))) (mvT hZ (hw _ (List.mem_of_getElem? (i := 27) rfl))) (mvT hZ (hw _ (List.mem_of_getElem? (i := 28) rfl))) (mvT hZ (hw _ (List.mem_of_getElem? (i := 29) rfl))) (by decide) (backOf (W := 1) (rm41 l Z a0 hw [] ob oc sU sB sI ub uc h0 n0 Z0 F_ob_settled F_oc_settled E_ob E_oc g_ob g_oc ne_ob_oc E_sU E_sB E_sI nU nB nI hvoc hvob) hZ (hw _ (List.mem_of_getElem? (i := 22) rfl)) (hw _ (List.mem_of_getElem? (i := 2) rfl)) (by decide) (by decide)) q4a q4b q4c (g := (mkF m 14 #[.val (.ref oa)] [(.ref ob), (.ref oa)])) rfl (by rw [hml]; rfl) (Steps.refl _) (argsL := []) (rest := [(.ref oa)]) (lenOf own_pd0 rfl) rfl (by show 2 * 0 + _ ≤ _; exact Nat.le_of_eq rfl) (hb hby own_d4_14) (fun _ _ => ⟨rfl, e3, (by decide : 0 + 0 ≤ _), (by decide : 0 + 0 ≤ _)⟩)
    dsimp only [Pt.U, Pt.locs, Pt.cells, Pt.slots] at X4 l4 y4 z4 st4 hQ4
    subst l4 y4 z4
    obtain ⟨rfl, N4q, K4q, cE4_0, cE4_1, cF4_0, cF4_1⟩ := hQ4
    have N4 := Fr.app N0 N4q
    obtain ⟨lc4, X4, N4⟩ : ∃ lc, Stand p l e ({ frames := 3, cells := 0, slots := 0, locals := 39 } : Room) s m #[(.ref oa)] below meth c T4 lc 0 0 ∧ Fr n0 lc := ⟨_, X4, N4⟩
    have F_oa_settled := F_oa_settled.keep K4q (ninS ne_oa_ob (ninS ne_oa_oc nin0))
    have E_oa := E_oa.keep K4q
    have E_ob := E_ob.keep K4q
    have E_oc := E_oc.keep K4q
    have E_sU := E_sU.keep K4q
    have E_sB := E_sB.keep K4q
    have E_sI := E_sI.keep K4q
    have K4 := (Keep.refl h0 [oa, ob, oc]).trans K4q (allS (Or.inl (List.mem_of_getElem? (i := 1) rfl)) (allS (Or.inl (List.mem_of_getElem? (i := 2) rfl)) all0))
    have Z4 := Nat.le_trans Z0 K4q.1
    have E_ob := cE4_0
    have F_ob_settled := cF4_0
    have E_oc := cE4_1
    have F_oc_settled := cF4_1
    refine Go.tr st4 ?_
    show Go p e below Φ T4 (mkF m 19 #[.val (.ref oa)] [(own_rb ob oc ub uc), (.ref oa)])
    obtain ⟨T5, h5, X5, e5, W5, st5⟩ := putF X4 hx hZ hown (host := "") (Or.inl (hw _ (List.mem_of_getElem? (i := 16) rfl))) Via.refl rfl F_oa_settled E_oa (Or.inl (hw _ (List.mem_of_getElem? (i := 17) rfl))) (hw _ (List.mem_of_getElem? (i := 1) rfl)) (ty := (.object "com/example/minnow/minnow/typing/Type")) (by decide) (own_nar_ref (own_rbr hvoc hvob)) (own_fits_ref (own_rbr hvoc hvob)) (g := (mkF m 19 #[.val (.ref oa)] [(own_rb ob oc ub uc), (.ref oa)])) rfl rfl (hb hby own_d4_19)
    have N5 := Fr.snoc X5 N4 g_oa
    have F_oa_settled := F_oa_settled.same W5
    have E_oa := E_oa.wr W5
    have E_ob := E_ob.wr W5
    have E_oc := E_oc.wr W5
    have E_sU := E_sU.wr W5
    have E_sB := E_sB.wr W5
    have E_sI := E_sI.wr W5
    have F_ob_settled := F_ob_settled.other W5 (Or.inl (Ne.symm ne_oa_ob))
    have F_oc_settled := F_oc_settled.other W5 (Or.inl (Ne.symm ne_oa_oc))
    have K5 : Keep h0 h5 [oa, ob, oc] := K4.wr W5 (Or.inl (List.mem_of_getElem? (i := 0) rfl))
    have Z5 := Nat.le_trans Z4 (Keep.of_wr W5).1
    obtain ⟨lc5, X5, N5⟩ : ∃ lc, Stand p l e ({ frames := 3, cells := 0, slots := 0, locals := 39 } : Room) s m #[(.ref oa)] below meth c T5 lc 0 0 ∧ Fr n0 lc := ⟨_, X5, N5⟩
    refine Go.of st5 ?_
    show Go p e below Φ T5 (mkF m 22 #[.val (.ref oa)] [])
    refine Go.of (fun t k => XS.aloadN X5.here hx rfl (hb hby own_d4_22) rfl rfl  k) ?_
    show Go p e below Φ T5 (mkF m 23 #[.val (.ref oa)] [(.ref oa)])
    obtain ⟨T6, X6, e6, st6⟩ := getF X5 hx hZ hown (host := "") (Or.inl (hw _ (List.mem_of_getElem? (i := 16) rfl))) Via.refl e5 F_oa_settled (g := (mkF m 23 #[.val (.ref oa)] [(.ref oa)])) rfl rfl (hb hby own_d4_23)
    refine Go.of st6 ?_
    show Go p e below Φ T6 (mkF m 26 #[.val (.ref oa)] [(own_rb ob oc ub uc)])
    rw [hΦ]
    refine Go.ret X6 hx Bd.notSynchronized Bd.returns (own_nar_ref (own_rbr hvoc hvob)) (Or.inr (Or.inr (Or.inr (Or.inr ⟨rfl, rfl, (own_rbr hvoc hvob)⟩)))) (hb hby own_d4_26) (by decide) (by decide) ?_
    rw [e6]
    exact ⟨by simp [own_ra, own_na, own_nab, nU, nB, nI, mU, mB, mI, ne_ob_oc, Ne.symm ne_ob_oc], N5, K5, E_oa, E_ob, E_oc, (by first | exact F_oa_settled | (simp [own_ra, own_na, own_nab, nU, nB, nI, mU, mB, mI, ne_ob_oc, Ne.symm ne_ob_oc]; exact F_oa_settled)), (by first | exact F_ob_settled | (simp [own_ra, own_na, own_nab, nU, nB, nI, mU, mB, mI, ne_ob_oc, Ne.symm ne_ob_oc]; exact F_ob_settled)), (by first | exact F_oc_settled | (simp [own_ra, own_na, own_nab, nU, nB, nI, mU, mB, mI, ne_ob_oc, Ne.symm ne_ob_oc]; exact F_oc_settled))⟩
  · show Go p e below Φ s₁ (mkF m 0 #[.val (.ref oa)] [])
    refine Go.of (fun t k => XS.aloadN X0.here hx rfl (hb hby own_d4_0) rfl rfl  k) ?_
    show Go p e below Φ s₁ (mkF m 1 #[.val (.ref oa)] [(.ref oa)])
    obtain ⟨T7, X7, e7, st7⟩ := getF X0 hx hZ hown (host := "") (Or.inl (hw _ (List.mem_of_getElem? (i := 16) rfl))) Via.refl e0 F_oa_settled (g := (mkF m 1 #[.val (.ref oa)] [(.ref oa)])) rfl rfl (hb hby own_d4_1)
    refine Go.of st7 ?_
    show Go p e below Φ T7 (mkF m 4 #[.val (.ref oa)] [(.ref oc)])
    refine Go.of (fun t k => XS.ifnonnullYes X7.here hx rfl (pc0 := 4) (pc' := 9) rfl (hb hby own_d4_4) rfl (by decide) (by decide) k) ?_
    show Go p e below Φ T7 (mkF m 9 #[.val (.ref oa)] [])
    refine Go.of (fun t k => XS.aloadN X7.here hx rfl (hb hby own_d4_9) rfl rfl  k) ?_
    show Go p e below Φ T7 (mkF m 10 #[.val (.ref oa)] [(.ref oa)])
    refine Go.of (fun t k => XS.aloadN X7.here hx rfl (hb hby own_d4_10) rfl rfl  k) ?_
    show Go p e below Φ T7 (mkF m 11 #[.val (.ref oa)] [(.ref oa), (.ref oa)])
    obtain ⟨T8, X8, e8, st8⟩ := getF X7 hx hZ hown (host := "") (Or.inl (hw _ (List.mem_of_getElem? (i := 16) rfl))) Via.refl e7 F_oa_settled (g := (mkF m 11 #[.val (.ref oa)] [(.ref oa), (.ref oa)])) rfl rfl (hb hby own_d4_11)
    refine Go.of st8 ?_
    show Go p e below Φ T8 (mkF m 14 #[.val (.ref oa)] [(.ref oc), (.ref oa)])
    obtain ⟨cq9, kq9, q9a, q9b, q9c⟩ := isOf hZ e8 E_oc
    obtain ⟨_, _, ⟨T9, L9, k9, n9⟩, -, X9, ⟨Lc9, hQ9, l9, y9, z9⟩, st9⟩ := X8.interfaceBack hx (xi := (⟨"com/example/minnow/minnow/typing/Type", "resolved", "()Lcom/example/minnow/minnow/typing/Type;"⟩ : MethodName)) (y := (⟨"com/example/minnow/minnow/typing/Type$Variable", "resolved", "()Lcom/example/minnow/minnow/typing/Type;"⟩ : MethodName)) hown (mvT hZ (hw _ (List.mem_of_getElem? (i := 23) rfl))) (mvT hZ (hw _ (List.mem_of_getElem? (i := 24) rfl))) (mvT hZ (hw _ (List.mem_of_getElem? (i := 25) rfl))) (mvT hZ (hw _ (List.mem_of_getElem? (i := 26) rfl))) (mvT hZ (hw _ (List.mem_of_getElem? (i := 20) rfl))) (mvT hZ (hw _ (List.mem_of_getElem? (i := 27) rfl))) (mvT hZ (hw _ (List.mem_of_getElem? (i := 28) rfl))) (mvT hZ (hw _ (List.mem_of_getElem? (i := 29) rfl))) (by decide) (backOf (W := 1) (rm40 l Z a0 hw [] oc sU uc h0 n0 Z0 F_oc_settled E_oc g_oc E_sU hvoc) hZ (hw _ (List.mem_of_getElem? (i := 22) rfl)) (hw _ (List.mem_of_getElem? (i := 2) rfl)) (by decide) (by decide)) q9a q9b q9c (g := (mkF m 14 #[.val (.ref oa)] [(.ref oc), (.ref oa)])) rfl (by rw [hml]; rfl) (Steps.refl _) (argsL := []) (rest := [(.ref oa)]) (lenOf own_pd0 rfl) rfl (by show 2 * 0 + _ ≤ _; exact Nat.le_of_eq rfl) (hb hby own_d4_14) (fun _ _ => ⟨rfl, e8, (by decide : 0 + 0 ≤ _), (by decide : 0 + 0 ≤ _)⟩)
    dsimp only [Pt.U, Pt.locs, Pt.cells, Pt.slots] at X9 l9 y9 z9 st9 hQ9
    subst l9 y9 z9
    obtain ⟨rfl, N9q, K9q, cE9_0, cF9_0⟩ := hQ9
    have N9 := Fr.app N0 N9q
    obtain ⟨lc9, X9, N9⟩ : ∃ lc, Stand p l e ({ frames := 3, cells := 0, slots := 0, locals := 39 } : Room) s m #[(.ref oa)] below meth c T9 lc 0 0 ∧ Fr n0 lc := ⟨_, X9, N9⟩
    have F_oa_settled := F_oa_settled.keep K9q (ninS ne_oa_oc nin0)
    have F_ob_settled := F_ob_settled.keep K9q (ninS ne_ob_oc nin0)
    have E_oa := E_oa.keep K9q
    have E_ob := E_ob.keep K9q
    have E_oc := E_oc.keep K9q
    have E_sU := E_sU.keep K9q
    have E_sB := E_sB.keep K9q
    have E_sI := E_sI.keep K9q
    have K9 := (Keep.refl h0 [oa, ob, oc]).trans K9q (allS (Or.inl (List.mem_of_getElem? (i := 2) rfl)) all0)
    have Z9 := Nat.le_trans Z0 K9q.1
    have E_oc := cE9_0
    have F_oc_settled := cF9_0
    refine Go.tr st9 ?_
    show Go p e below Φ T9 (mkF m 19 #[.val (.ref oa)] [(own_rc oc uc), (.ref oa)])
    obtain ⟨T10, h10, X10, e10, W10, st10⟩ := putF X9 hx hZ hown (host := "") (Or.inl (hw _ (List.mem_of_getElem? (i := 16) rfl))) Via.refl rfl F_oa_settled E_oa (Or.inl (hw _ (List.mem_of_getElem? (i := 17) rfl))) (hw _ (List.mem_of_getElem? (i := 1) rfl)) (ty := (.object "com/example/minnow/minnow/typing/Type")) (by decide) (own_nar_ref (own_rcr hvoc)) (own_fits_ref (own_rcr hvoc)) (g := (mkF m 19 #[.val (.ref oa)] [(own_rc oc uc), (.ref oa)])) rfl rfl (hb hby own_d4_19)
    have N10 := Fr.snoc X10 N9 g_oa
    have F_oa_settled := F_oa_settled.same W10
    have F_ob_settled := F_ob_settled.other W10 (Or.inl (Ne.symm ne_oa_ob))
    have E_oa := E_oa.wr W10
    have E_ob := E_ob.wr W10
    have E_oc := E_oc.wr W10
    have E_sU := E_sU.wr W10
    have E_sB := E_sB.wr W10
    have E_sI := E_sI.wr W10
    have F_oc_settled := F_oc_settled.other W10 (Or.inl (Ne.symm ne_oa_oc))
    have K10 : Keep h0 h10 [oa, ob, oc] := K9.wr W10 (Or.inl (List.mem_of_getElem? (i := 0) rfl))
    have Z10 := Nat.le_trans Z9 (Keep.of_wr W10).1
    obtain ⟨lc10, X10, N10⟩ : ∃ lc, Stand p l e ({ frames := 3, cells := 0, slots := 0, locals := 39 } : Room) s m #[(.ref oa)] below meth c T10 lc 0 0 ∧ Fr n0 lc := ⟨_, X10, N10⟩
    refine Go.of st10 ?_
    show Go p e below Φ T10 (mkF m 22 #[.val (.ref oa)] [])
    refine Go.of (fun t k => XS.aloadN X10.here hx rfl (hb hby own_d4_22) rfl rfl  k) ?_
    show Go p e below Φ T10 (mkF m 23 #[.val (.ref oa)] [(.ref oa)])
    obtain ⟨T11, X11, e11, st11⟩ := getF X10 hx hZ hown (host := "") (Or.inl (hw _ (List.mem_of_getElem? (i := 16) rfl))) Via.refl e10 F_oa_settled (g := (mkF m 23 #[.val (.ref oa)] [(.ref oa)])) rfl rfl (hb hby own_d4_23)
    refine Go.of st11 ?_
    show Go p e below Φ T11 (mkF m 26 #[.val (.ref oa)] [(own_rc oc uc)])
    rw [hΦ]
    refine Go.ret X11 hx Bd.notSynchronized Bd.returns (own_nar_ref (own_rcr hvoc)) (Or.inr (Or.inr (Or.inr (Or.inr ⟨rfl, rfl, (own_rcr hvoc)⟩)))) (hb hby own_d4_26) (by decide) (by decide) ?_
    rw [e11]
    exact ⟨by simp [own_ra, own_na, own_nab, nU, nB, nI, mU, mB, mI, ne_ob_oc, Ne.symm ne_ob_oc], N10, K10, E_oa, E_ob, E_oc, (by first | exact F_oa_settled | (simp [own_ra, own_na, own_nab, nU, nB, nI, mU, mB, mI, ne_ob_oc, Ne.symm ne_ob_oc]; exact F_oa_settled)), (by first | exact F_ob_settled | (simp [own_ra, own_na, own_nab, nU, nB, nI, mU, mB, mI, ne_ob_oc, Ne.symm ne_ob_oc]; exact F_ob_settled)), (by first | exact F_oc_settled | (simp [own_ra, own_na, own_nab, nU, nB, nI, mU, mB, mI, ne_ob_oc, Ne.symm ne_ob_oc]; exact F_oc_settled))⟩
  · show Go p e below Φ s₁ (mkF m 0 #[.val (.ref oa)] [])
    refine Go.of (fun t k => XS.aloadN X0.here hx rfl (hb hby own_d4_0) rfl rfl  k) ?_
    show Go p e below Φ s₁ (mkF m 1 #[.val (.ref oa)] [(.ref oa)])
    obtain ⟨T12, X12, e12, st12⟩ := getF X0 hx hZ hown (host := "") (Or.inl (hw _ (List.mem_of_getElem? (i := 16) rfl))) Via.refl e0 F_oa_settled (g := (mkF m 1 #[.val (.ref oa)] [(.ref oa)])) rfl rfl (hb hby own_d4_1)
    refine Go.of st12 ?_
    show Go p e below Φ T12 (mkF m 4 #[.val (.ref oa)] [(.ref sB)])
    refine Go.of (fun t k => XS.ifnonnullYes X12.here hx rfl (pc0 := 4) (pc' := 9) rfl (hb hby own_d4_4) rfl (by decide) (by decide) k) ?_
    show Go p e below Φ T12 (mkF m 9 #[.val (.ref oa)] [])
    refine Go.of (fun t k => XS.aloadN X12.here hx rfl (hb hby own_d4_9) rfl rfl  k) ?_
    show Go p e below Φ T12 (mkF m 10 #[.val (.ref oa)] [(.ref oa)])
    refine Go.of (fun t k => XS.aloadN X12.here hx rfl (hb hby own_d4_10) rfl rfl  k) ?_
    show Go p e below Φ T12 (mkF m 11 #[.val (.ref oa)] [(.ref oa), (.ref oa)])
    obtain ⟨T13, X13, e13, st13⟩ := getF X12 hx hZ hown (host := "") (Or.inl (hw _ (List.mem_of_getElem? (i := 16) rfl))) Via.refl e12 F_oa_settled (g := (mkF m 11 #[.val (.ref oa)] [(.ref oa), (.ref oa)])) rfl rfl (hb hby own_d4_11)
    refine Go.of st13 ?_
    show Go p e below Φ T13 (mkF m 14 #[.val (.ref oa)] [(.ref sB), (.ref oa)])
    obtain ⟨cq14, kq14, q14a, q14b, q14c⟩ := isOf hZ e13 E_sB
    obtain ⟨_, _, ⟨T14, L14, k14, n14⟩, -, X14, ⟨Lc14, hQ14, l14, y14, z14⟩, st14⟩ := X13.interfaceBackD hx (xi := (⟨"com/example/minnow/minnow/typing/Type", "resolved", "()Lcom/example/minnow/minnow/typing/Type;"⟩ : MethodName)) (y := (⟨"com/example/minnow/minnow/typing/Type", "resolved", "()Lcom/example/minnow/minnow/typing/Type;"⟩ : MethodName)) hown (mvT hZ (hw _ (List.mem_of_getElem? (i := 23) rfl))) (mvT hZ (hw _ (List.mem_of_getElem? (i := 24) rfl))) (mvT hZ (hw _ (List.mem_of_getElem? (i := 25) rfl))) (mvD hZ (hw _ (List.mem_of_getElem? (i := 35) rfl))) (mvT hZ (hw _ (List.mem_of_getElem? (i := 36) rfl))) (mvT hZ (hw _ (List.mem_of_getElem? (i := 37) rfl))) (mvT hZ (hw _ (List.mem_of_getElem? (i := 38) rfl))) (by decide) (backOf (W := 1) (rm5 l Z a0 hw [] sB h0 n0 Z0 ) hZ (hw _ (List.mem_of_getElem? (i := 39) rfl)) (hw _ (List.mem_of_getElem? (i := 31) rfl)) (by decide) (by decide)) q14a q14b q14c (g := (mkF m 14 #[.val (.ref oa)] [(.ref sB), (.ref oa)])) rfl (by rw [hml]; rfl) (Steps.refl _) (argsL := []) (rest := [(.ref oa)]) (lenOf own_pd0 rfl) rfl (by show 2 * 0 + _ ≤ _; exact Nat.le_of_eq rfl) (hb hby own_d4_14) (fun _ _ => ⟨rfl, e13, (by decide : 0 + 0 ≤ _), (by decide : 0 + 0 ≤ _)⟩)
    dsimp only [Pt.U, Pt.locs, Pt.cells, Pt.slots] at X14 l14 y14 z14 st14 hQ14
    subst l14 y14 z14
    obtain ⟨rfl, N14q, e14q⟩ := hQ14
    have N14 := Fr.app N0 N14q
    obtain ⟨lc14, X14, N14⟩ : ∃ lc, Stand p l e ({ frames := 3, cells := 0, slots := 0, locals := 39 } : Room) s m #[(.ref oa)] below meth c T14 lc 0 0 ∧ Fr n0 lc := ⟨_, X14, N14⟩
    refine Go.tr st14 ?_
    show Go p e below Φ T14 (mkF m 19 #[.val (.ref oa)] [(.ref sB), (.ref oa)])
    obtain ⟨T15, h15, X15, e15, W15, st15⟩ := putF X14 hx hZ hown (host := "") (Or.inl (hw _ (List.mem_of_getElem? (i := 16) rfl))) Via.refl (e14q) F_oa_settled E_oa (Or.inl (hw _ (List.mem_of_getElem? (i := 17) rfl))) (hw _ (List.mem_of_getElem? (i := 1) rfl)) (ty := (.object "com/example/minnow/minnow/typing/Type")) (by decide) rfl rfl (g := (mkF m 19 #[.val (.ref oa)] [(.ref sB), (.ref oa)])) rfl rfl (hb hby own_d4_19)
    have N15 := Fr.snoc X15 N14 g_oa
    have F_oa_settled := F_oa_settled.same W15
    have F_ob_settled := F_ob_settled.other W15 (Or.inl (Ne.symm ne_oa_ob))
    have F_oc_settled := F_oc_settled.other W15 (Or.inl (Ne.symm ne_oa_oc))
    have E_oa := E_oa.wr W15
    have E_ob := E_ob.wr W15
    have E_oc := E_oc.wr W15
    have E_sU := E_sU.wr W15
    have E_sB := E_sB.wr W15
    have E_sI := E_sI.wr W15
    have K15 : Keep h0 h15 [oa, ob, oc] := (Keep.refl h0 [oa, ob, oc]).wr W15 (Or.inl (List.mem_of_getElem? (i := 0) rfl))
    have Z15 := Nat.le_trans Z0 (Keep.of_wr W15).1
    obtain ⟨lc15, X15, N15⟩ : ∃ lc, Stand p l e ({ frames := 3, cells := 0, slots := 0, locals := 39 } : Room) s m #[(.ref oa)] below meth c T15 lc 0 0 ∧ Fr n0 lc := ⟨_, X15, N15⟩
    refine Go.of st15 ?_
    show Go p e below Φ T15 (mkF m 22 #[.val (.ref oa)] [])
    refine Go.of (fun t k => XS.aloadN X15.here hx rfl (hb hby own_d4_22) rfl rfl  k) ?_
    show Go p e below Φ T15 (mkF m 23 #[.val (.ref oa)] [(.ref oa)])
    obtain ⟨T16, X16, e16, st16⟩ := getF X15 hx hZ hown (host := "") (Or.inl (hw _ (List.mem_of_getElem? (i := 16) rfl))) Via.refl e15 F_oa_settled (g := (mkF m 23 #[.val (.ref oa)] [(.ref oa)])) rfl rfl (hb hby own_d4_23)
    refine Go.of st16 ?_
    show Go p e below Φ T16 (mkF m 26 #[.val (.ref oa)] [(.ref sB)])
    rw [hΦ]
    refine Go.ret X16 hx Bd.notSynchronized Bd.returns rfl (Or.inr (Or.inr (Or.inr (Or.inr ⟨rfl, rfl, rfl⟩)))) (hb hby own_d4_26) (by decide) (by decide) ?_
    rw [e16]
    exact ⟨by simp [own_ra, own_na, own_nab, nU, nB, nI, mU, mB, mI, ne_ob_oc, Ne.symm ne_ob_oc], N15, K15, E_oa, E_ob, E_oc, (by first | exact F_oa_settled | (simp [own_ra, own_na, own_nab, nU, nB, nI, mU, mB, mI, ne_ob_oc, Ne.symm ne_ob_oc]; exact F_oa_settled)), (by first | exact F_ob_settled | (simp [own_ra, own_na, own_nab, nU, nB, nI, mU, mB, mI, ne_ob_oc, Ne.symm ne_ob_oc]; exact F_ob_settled)), (by first | exact F_oc_settled | (simp [own_ra, own_na, own_nab, nU, nB, nI, mU, mB, mI, ne_ob_oc, Ne.symm ne_ob_oc]; exact F_oc_settled))⟩
  · show Go p e below Φ s₁ (mkF m 0 #[.val (.ref oa)] [])
    refine Go.of (fun t k => XS.aloadN X0.here hx rfl (hb hby own_d4_0) rfl rfl  k) ?_
    show Go p e below Φ s₁ (mkF m 1 #[.val (.ref oa)] [(.ref oa)])
    obtain ⟨T17, X17, e17, st17⟩ := getF X0 hx hZ hown (host := "") (Or.inl (hw _ (List.mem_of_getElem? (i := 16) rfl))) Via.refl e0 F_oa_settled (g := (mkF m 1 #[.val (.ref oa)] [(.ref oa)])) rfl rfl (hb hby own_d4_1)
    refine Go.of st17 ?_
    show Go p e below Φ T17 (mkF m 4 #[.val (.ref oa)] [(.ref sI)])
    refine Go.of (fun t k => XS.ifnonnullYes X17.here hx rfl (pc0 := 4) (pc' := 9) rfl (hb hby own_d4_4) rfl (by decide) (by decide) k) ?_
    show Go p e below Φ T17 (mkF m 9 #[.val (.ref oa)] [])
    refine Go.of (fun t k => XS.aloadN X17.here hx rfl (hb hby own_d4_9) rfl rfl  k) ?_
    show Go p e below Φ T17 (mkF m 10 #[.val (.ref oa)] [(.ref oa)])
    refine Go.of (fun t k => XS.aloadN X17.here hx rfl (hb hby own_d4_10) rfl rfl  k) ?_
    show Go p e below Φ T17 (mkF m 11 #[.val (.ref oa)] [(.ref oa), (.ref oa)])
    obtain ⟨T18, X18, e18, st18⟩ := getF X17 hx hZ hown (host := "") (Or.inl (hw _ (List.mem_of_getElem? (i := 16) rfl))) Via.refl e17 F_oa_settled (g := (mkF m 11 #[.val (.ref oa)] [(.ref oa), (.ref oa)])) rfl rfl (hb hby own_d4_11)
    refine Go.of st18 ?_
    show Go p e below Φ T18 (mkF m 14 #[.val (.ref oa)] [(.ref sI), (.ref oa)])
    obtain ⟨cq19, kq19, q19a, q19b, q19c⟩ := isOf hZ e18 E_sI
    obtain ⟨_, _, ⟨T19, L19, k19, n19⟩, -, X19, ⟨Lc19, hQ19, l19, y19, z19⟩, st19⟩ := X18.interfaceBackD hx (xi := (⟨"com/example/minnow/minnow/typing/Type", "resolved", "()Lcom/example/minnow/minnow/typing/Type;"⟩ : MethodName)) (y := (⟨"com/example/minnow/minnow/typing/Type", "resolved", "()Lcom/example/minnow/minnow/typing/Type;"⟩ : MethodName)) hown (mvT hZ (hw _ (List.mem_of_getElem? (i := 23) rfl))) (mvT hZ (hw _ (List.mem_of_getElem? (i := 24) rfl))) (mvT hZ (hw _ (List.mem_of_getElem? (i := 25) rfl))) (mvD hZ (hw _ (List.mem_of_getElem? (i := 35) rfl))) (mvT hZ (hw _ (List.mem_of_getElem? (i := 36) rfl))) (mvT hZ (hw _ (List.mem_of_getElem? (i := 37) rfl))) (mvT hZ (hw _ (List.mem_of_getElem? (i := 38) rfl))) (by decide) (backOf (W := 1) (rm5 l Z a0 hw [] sI h0 n0 Z0 ) hZ (hw _ (List.mem_of_getElem? (i := 39) rfl)) (hw _ (List.mem_of_getElem? (i := 31) rfl)) (by decide) (by decide)) q19a q19b q19c (g := (mkF m 14 #[.val (.ref oa)] [(.ref sI), (.ref oa)])) rfl (by rw [hml]; rfl) (Steps.refl _) (argsL := []) (rest := [(.ref oa)]) (lenOf own_pd0 rfl) rfl (by show 2 * 0 + _ ≤ _; exact Nat.le_of_eq rfl) (hb hby own_d4_14) (fun _ _ => ⟨rfl, e18, (by decide : 0 + 0 ≤ _), (by decide : 0 + 0 ≤ _)⟩)
    dsimp only [Pt.U, Pt.locs, Pt.cells, Pt.slots] at X19 l19 y19 z19 st19 hQ19
    subst l19 y19 z19
    obtain ⟨rfl, N19q, e19q⟩ := hQ19
    have N19 := Fr.app N0 N19q
    obtain ⟨lc19, X19, N19⟩ : ∃ lc, Stand p l e ({ frames := 3, cells := 0, slots := 0, locals := 39 } : Room) s m #[(.ref oa)] below meth c T19 lc 0 0 ∧ Fr n0 lc := ⟨_, X19, N19⟩
    refine Go.tr st19 ?_
    show Go p e below Φ T19 (mkF m 19 #[.val (.ref oa)] [(.ref sI), (.ref oa)])
    obtain ⟨T20, h20, X20, e20, W20, st20⟩ := putF X19 hx hZ hown (host := "") (Or.inl (hw _ (List.mem_of_getElem? (i := 16) rfl))) Via.refl (e19q) F_oa_settled E_oa (Or.inl (hw _ (List.mem_of_getElem? (i := 17) rfl))) (hw _ (List.mem_of_getElem? (i := 1) rfl)) (ty := (.object "com/example/minnow/minnow/typing/Type")) (by decide) rfl rfl (g := (mkF m 19 #[.val (.ref oa)] [(.ref sI), (.ref oa)])) rfl rfl (hb hby own_d4_19)
    have N20 := Fr.snoc X20 N19 g_oa
    have F_oa_settled := F_oa_settled.same W20
    have F_ob_settled := F_ob_settled.other W20 (Or.inl (Ne.symm ne_oa_ob))
    have F_oc_settled := F_oc_settled.other W20 (Or.inl (Ne.symm ne_oa_oc))
    have E_oa := E_oa.wr W20
    have E_ob := E_ob.wr W20
    have E_oc := E_oc.wr W20
    have E_sU := E_sU.wr W20
    have E_sB := E_sB.wr W20
    have E_sI := E_sI.wr W20
    have K20 : Keep h0 h20 [oa, ob, oc] := (Keep.refl h0 [oa, ob, oc]).wr W20 (Or.inl (List.mem_of_getElem? (i := 0) rfl))
    have Z20 := Nat.le_trans Z0 (Keep.of_wr W20).1
    obtain ⟨lc20, X20, N20⟩ : ∃ lc, Stand p l e ({ frames := 3, cells := 0, slots := 0, locals := 39 } : Room) s m #[(.ref oa)] below meth c T20 lc 0 0 ∧ Fr n0 lc := ⟨_, X20, N20⟩
    refine Go.of st20 ?_
    show Go p e below Φ T20 (mkF m 22 #[.val (.ref oa)] [])
    refine Go.of (fun t k => XS.aloadN X20.here hx rfl (hb hby own_d4_22) rfl rfl  k) ?_
    show Go p e below Φ T20 (mkF m 23 #[.val (.ref oa)] [(.ref oa)])
    obtain ⟨T21, X21, e21, st21⟩ := getF X20 hx hZ hown (host := "") (Or.inl (hw _ (List.mem_of_getElem? (i := 16) rfl))) Via.refl e20 F_oa_settled (g := (mkF m 23 #[.val (.ref oa)] [(.ref oa)])) rfl rfl (hb hby own_d4_23)
    refine Go.of st21 ?_
    show Go p e below Φ T21 (mkF m 26 #[.val (.ref oa)] [(.ref sI)])
    rw [hΦ]
    refine Go.ret X21 hx Bd.notSynchronized Bd.returns rfl (Or.inr (Or.inr (Or.inr (Or.inr ⟨rfl, rfl, rfl⟩)))) (hb hby own_d4_26) (by decide) (by decide) ?_
    rw [e21]
    exact ⟨by simp [own_ra, own_na, own_nab, nU, nB, nI, mU, mB, mI, ne_ob_oc, Ne.symm ne_ob_oc], N20, K20, E_oa, E_ob, E_oc, (by first | exact F_oa_settled | (simp [own_ra, own_na, own_nab, nU, nB, nI, mU, mB, mI, ne_ob_oc, Ne.symm ne_ob_oc]; exact F_oa_settled)), (by first | exact F_ob_settled | (simp [own_ra, own_na, own_nab, nU, nB, nI, mU, mB, mI, ne_ob_oc, Ne.symm ne_ob_oc]; exact F_ob_settled)), (by first | exact F_oc_settled | (simp [own_ra, own_na, own_nab, nU, nB, nI, mU, mB, mI, ne_ob_oc, Ne.symm ne_ob_oc]; exact F_oc_settled))⟩
  · show Go p e below Φ s₁ (mkF m 0 #[.val (.ref oa)] [])
    refine Go.of (fun t k => XS.aloadN X0.here hx rfl (hb hby own_d4_0) rfl rfl  k) ?_
    show Go p e below Φ s₁ (mkF m 1 #[.val (.ref oa)] [(.ref oa)])
    obtain ⟨T22, X22, e22, st22⟩ := getF X0 hx hZ hown (host := "") (Or.inl (hw _ (List.mem_of_getElem? (i := 16) rfl))) Via.refl e0 F_oa_settled (g := (mkF m 1 #[.val (.ref oa)] [(.ref oa)])) rfl rfl (hb hby own_d4_1)
    refine Go.of st22 ?_
    show Go p e below Φ T22 (mkF m 4 #[.val (.ref oa)] [(.ref sU)])
    refine Go.of (fun t k => XS.ifnonnullYes X22.here hx rfl (pc0 := 4) (pc' := 9) rfl (hb hby own_d4_4) rfl (by decide) (by decide) k) ?_
    show Go p e below Φ T22 (mkF m 9 #[.val (.ref oa)] [])
    refine Go.of (fun t k => XS.aloadN X22.here hx rfl (hb hby own_d4_9) rfl rfl  k) ?_
    show Go p e below Φ T22 (mkF m 10 #[.val (.ref oa)] [(.ref oa)])
    refine Go.of (fun t k => XS.aloadN X22.here hx rfl (hb hby own_d4_10) rfl rfl  k) ?_
    show Go p e below Φ T22 (mkF m 11 #[.val (.ref oa)] [(.ref oa), (.ref oa)])
    obtain ⟨T23, X23, e23, st23⟩ := getF X22 hx hZ hown (host := "") (Or.inl (hw _ (List.mem_of_getElem? (i := 16) rfl))) Via.refl e22 F_oa_settled (g := (mkF m 11 #[.val (.ref oa)] [(.ref oa), (.ref oa)])) rfl rfl (hb hby own_d4_11)
    refine Go.of st23 ?_
    show Go p e below Φ T23 (mkF m 14 #[.val (.ref oa)] [(.ref sU), (.ref oa)])
    obtain ⟨cq24, kq24, q24a, q24b, q24c⟩ := isOf hZ e23 E_sU
    obtain ⟨_, _, ⟨T24, L24, k24, n24⟩, -, X24, ⟨Lc24, hQ24, l24, y24, z24⟩, st24⟩ := X23.interfaceBackD hx (xi := (⟨"com/example/minnow/minnow/typing/Type", "resolved", "()Lcom/example/minnow/minnow/typing/Type;"⟩ : MethodName)) (y := (⟨"com/example/minnow/minnow/typing/Type", "resolved", "()Lcom/example/minnow/minnow/typing/Type;"⟩ : MethodName)) hown (mvT hZ (hw _ (List.mem_of_getElem? (i := 23) rfl))) (mvT hZ (hw _ (List.mem_of_getElem? (i := 24) rfl))) (mvT hZ (hw _ (List.mem_of_getElem? (i := 25) rfl))) (mvD hZ (hw _ (List.mem_of_getElem? (i := 35) rfl))) (mvT hZ (hw _ (List.mem_of_getElem? (i := 36) rfl))) (mvT hZ (hw _ (List.mem_of_getElem? (i := 37) rfl))) (mvT hZ (hw _ (List.mem_of_getElem? (i := 38) rfl))) (by decide) (backOf (W := 1) (rm5 l Z a0 hw [] sU h0 n0 Z0 ) hZ (hw _ (List.mem_of_getElem? (i := 39) rfl)) (hw _ (List.mem_of_getElem? (i := 31) rfl)) (by decide) (by decide)) q24a q24b q24c (g := (mkF m 14 #[.val (.ref oa)] [(.ref sU), (.ref oa)])) rfl (by rw [hml]; rfl) (Steps.refl _) (argsL := []) (rest := [(.ref oa)]) (lenOf own_pd0 rfl) rfl (by show 2 * 0 + _ ≤ _; exact Nat.le_of_eq rfl) (hb hby own_d4_14) (fun _ _ => ⟨rfl, e23, (by decide : 0 + 0 ≤ _), (by decide : 0 + 0 ≤ _)⟩)
    dsimp only [Pt.U, Pt.locs, Pt.cells, Pt.slots] at X24 l24 y24 z24 st24 hQ24
    subst l24 y24 z24
    obtain ⟨rfl, N24q, e24q⟩ := hQ24
    have N24 := Fr.app N0 N24q
    obtain ⟨lc24, X24, N24⟩ : ∃ lc, Stand p l e ({ frames := 3, cells := 0, slots := 0, locals := 39 } : Room) s m #[(.ref oa)] below meth c T24 lc 0 0 ∧ Fr n0 lc := ⟨_, X24, N24⟩
    refine Go.tr st24 ?_
    show Go p e below Φ T24 (mkF m 19 #[.val (.ref oa)] [(.ref sU), (.ref oa)])
    obtain ⟨T25, h25, X25, e25, W25, st25⟩ := putF X24 hx hZ hown (host := "") (Or.inl (hw _ (List.mem_of_getElem? (i := 16) rfl))) Via.refl (e24q) F_oa_settled E_oa (Or.inl (hw _ (List.mem_of_getElem? (i := 17) rfl))) (hw _ (List.mem_of_getElem? (i := 1) rfl)) (ty := (.object "com/example/minnow/minnow/typing/Type")) (by decide) rfl rfl (g := (mkF m 19 #[.val (.ref oa)] [(.ref sU), (.ref oa)])) rfl rfl (hb hby own_d4_19)
    have N25 := Fr.snoc X25 N24 g_oa
    have F_oa_settled := F_oa_settled.same W25
    have F_ob_settled := F_ob_settled.other W25 (Or.inl (Ne.symm ne_oa_ob))
    have F_oc_settled := F_oc_settled.other W25 (Or.inl (Ne.symm ne_oa_oc))
    have E_oa := E_oa.wr W25
    have E_ob := E_ob.wr W25
    have E_oc := E_oc.wr W25
    have E_sU := E_sU.wr W25
    have E_sB := E_sB.wr W25
    have E_sI := E_sI.wr W25
    have K25 : Keep h0 h25 [oa, ob, oc] := (Keep.refl h0 [oa, ob, oc]).wr W25 (Or.inl (List.mem_of_getElem? (i := 0) rfl))
    have Z25 := Nat.le_trans Z0 (Keep.of_wr W25).1
    obtain ⟨lc25, X25, N25⟩ : ∃ lc, Stand p l e ({ frames := 3, cells := 0, slots := 0, locals := 39 } : Room) s m #[(.ref oa)] below meth c T25 lc 0 0 ∧ Fr n0 lc := ⟨_, X25, N25⟩
    refine Go.of st25 ?_
    show Go p e below Φ T25 (mkF m 22 #[.val (.ref oa)] [])
    refine Go.of (fun t k => XS.aloadN X25.here hx rfl (hb hby own_d4_22) rfl rfl  k) ?_
    show Go p e below Φ T25 (mkF m 23 #[.val (.ref oa)] [(.ref oa)])
    obtain ⟨T26, X26, e26, st26⟩ := getF X25 hx hZ hown (host := "") (Or.inl (hw _ (List.mem_of_getElem? (i := 16) rfl))) Via.refl e25 F_oa_settled (g := (mkF m 23 #[.val (.ref oa)] [(.ref oa)])) rfl rfl (hb hby own_d4_23)
    refine Go.of st26 ?_
    show Go p e below Φ T26 (mkF m 26 #[.val (.ref oa)] [(.ref sU)])
    rw [hΦ]
    refine Go.ret X26 hx Bd.notSynchronized Bd.returns rfl (Or.inr (Or.inr (Or.inr (Or.inr ⟨rfl, rfl, rfl⟩)))) (hb hby own_d4_26) (by decide) (by decide) ?_
    rw [e26]
    exact ⟨by simp [own_ra, own_na, own_nab, nU, nB, nI, mU, mB, mI, ne_ob_oc, Ne.symm ne_ob_oc], N25, K25, E_oa, E_ob, E_oc, (by first | exact F_oa_settled | (simp [own_ra, own_na, own_nab, nU, nB, nI, mU, mB, mI, ne_ob_oc, Ne.symm ne_ob_oc]; exact F_oa_settled)), (by first | exact F_ob_settled | (simp [own_ra, own_na, own_nab, nU, nB, nI, mU, mB, mI, ne_ob_oc, Ne.symm ne_ob_oc]; exact F_ob_settled)), (by first | exact F_oc_settled | (simp [own_ra, own_na, own_nab, nU, nB, nI, mU, mB, mI, ne_ob_oc, Ne.symm ne_ob_oc]; exact F_oc_settled))⟩
section Exp
variable {oa ob oc sU sB sI : Addr} {ua ub uc : Value} {x33 x40 x47 : Int32}
theorem own_okc0 (h : uc = (if x47 = (1 : Int32) then (.ref sU) else .null)) : own_okc sU uc := by
  rw [h]; split <;> simp [own_okc]
theorem own_okb0 (h : ub = (if x40 = (1 : Int32) then (.ref oc) else (if x40 = (2 : Int32) then (.ref sB) else (if x40 = (3 : Int32) then (.ref sI) else .null)))) : own_okb oc sB sI sU ub := by
  rw [h]; repeat' split
  all_goals simp [own_okb]
theorem own_oka0 (h : ua = (if x33 = (1 : Int32) then (.ref ob) else (if x33 = (2 : Int32) then (.ref sI) else (if x33 = (3 : Int32) then (.ref oc) else .null)))) : own_oka ob oc sB sI sU ua := by
  rw [h]; repeat' split
  all_goals simp [own_oka]
end Exp
theorem own_eqC (oc sU : Addr) (x47 : Int32) (v186 : Addr) (uc : Value) (hc : uc = (if x47 = (1 : Int32) then (.ref sU) else .null)) (h1 : v186 = (if x47 = (1 : Int32) then sU else oc)) : own_rc oc uc = .ref v186 := by
  rw [hc, h1]; split <;> simp [own_rc]
theorem own_eqB (ob oc sU sB sI : Addr) (x40 x47 : Int32) (v186 v228 : Addr) (ub uc : Value) (hb : ub = (if x40 = (1 : Int32) then (.ref oc) else (if x40 = (2 : Int32) then (.ref sB) else (if x40 = (3 : Int32) then (.ref sI) else .null)))) (hc : uc = (if x47 = (1 : Int32) then (.ref sU) else .null)) (h1 : v186 = (if x47 = (1 : Int32) then sU else oc)) (h2 : v228 = (if x40 = (1 : Int32) then v186 else (if x40 = (2 : Int32) then sB else (if x40 = (3 : Int32) then sI else ob)))) (nU : sU ≠ oc) (nB : sB ≠ oc) (nI : sI ≠ oc) (a3 : ob ≠ oc) : own_rb ob oc ub uc = .ref v228 := by
  have e := own_eqC oc sU x47 v186 uc hc h1
  rw [hb, h2]
  by_cases p1 : x40 = 1
  · rw [if_pos p1, if_pos p1, own_rb, if_neg (by simp), if_pos rfl, e]
  · rw [if_neg p1, if_neg p1]
    by_cases p2 : x40 = 2
    · rw [if_pos p2, if_pos p2]; simp [own_rb, nB]
    · rw [if_neg p2, if_neg p2]
      by_cases p3 : x40 = 3
      · rw [if_pos p3, if_pos p3]; simp [own_rb, nI]
      · rw [if_neg p3, if_neg p3]; simp [own_rb]
theorem own_eqA (oa ob oc sU sB sI : Addr) (x33 x40 x47 : Int32) (v186 v228 v269 : Addr) (ua ub uc : Value) (ha : ua = (if x33 = (1 : Int32) then (.ref ob) else (if x33 = (2 : Int32) then (.ref sI) else (if x33 = (3 : Int32) then (.ref oc) else .null)))) (hb : ub = (if x40 = (1 : Int32) then (.ref oc) else (if x40 = (2 : Int32) then (.ref sB) else (if x40 = (3 : Int32) then (.ref sI) else .null)))) (hc : uc = (if x47 = (1 : Int32) then (.ref sU) else .null)) (h1 : v186 = (if x47 = (1 : Int32) then sU else oc)) (h2 : v228 = (if x40 = (1 : Int32) then v186 else (if x40 = (2 : Int32) then sB else (if x40 = (3 : Int32) then sI else ob)))) (h3 : v269 = (if x33 = (1 : Int32) then v228 else (if x33 = (2 : Int32) then sI else (if x33 = (3 : Int32) then v186 else oa)))) (nU : sU ≠ oc) (nB : sB ≠ oc) (nI : sI ≠ oc) (mU : sU ≠ ob) (mB : sB ≠ ob) (mI : sI ≠ ob) (a1 : oa ≠ ob) (a2 : oa ≠ oc) (a3 : ob ≠ oc) : own_ra oa ob oc ua ub uc = .ref v269 := by
  have eC := own_eqC oc sU x47 v186 uc hc h1
  have eB := own_eqB ob oc sU sB sI x40 x47 v186 v228 ub uc hb hc h1 h2 nU nB nI a3
  rw [ha, h3]
  by_cases p1 : x33 = 1
  · rw [if_pos p1, if_pos p1, own_ra, if_neg (by simp), if_pos rfl, eB]
  · rw [if_neg p1, if_neg p1]
    by_cases p2 : x33 = 2
    · rw [if_pos p2, if_pos p2]; simp [own_ra, mI, nI]
    · rw [if_neg p2, if_neg p2]
      by_cases p3 : x33 = 3
      · rw [if_pos p3, if_pos p3, own_ra, if_neg (by simp), if_neg (by simp [Ne.symm a3]), if_pos rfl, eC]
      · rw [if_neg p3, if_neg p3]; simp [own_ra]
theorem own_ef0 (m : MethodId) (i0 : Int32) (i1 : Int32) (i2 : Int32) (i3 : Int32) : entryFrame m #[(.int i0), (.int i1), (.int i2), (.int i3)] maxLocals = mkF m 0 #[.val (.int i0), .val (.int i1), .val (.int i2), .val (.int i3), .unset, .unset, .unset, .unset, .unset, .unset, .unset, .unset, .unset, .unset, .unset, .unset, .unset, .unset] [] := by first | (simp [entryFrame, mkF, argsToLocals, Value.category, maxLocals]; done) | rfl
def Q0 (Z : State) (i0 : Int32) (i1 : Int32) (i2 : Int32) (i3 : Int32) (sU : Addr) (sB : Addr) (sI : Addr) (h0 : Heap) (n0 : Nat) (vr : Option Value) (hr : Heap) (Lr : List Loc) : Prop := vr = some (.int 1) ∧ Fr n0 Lr
set_option maxRecDepth 65536 in
set_option maxHeartbeats 40000000 in
theorem rm0 (l : Launch) (Z : State) (a0 : Array Value) (hw : ∀ d ∈ tables_1, d.before a0 Z = true) (ws : List Jvm.Cond) (i0 : Int32) (i1 : Int32) (i2 : Int32) (i3 : Int32) (sU : Addr) (sB : Addr) (sI : Addr) (h0 : Heap) (n0 : Nat) (Z0 : n0 ≤ h0.size) (O0 : Old Z n0 h0) (S_UNIT : Sta Z Z.heap "com/example/minnow/minnow/typing/Type" "UNIT" "Lcom/example/minnow/minnow/typing/Type;" (.ref sU)) (S_BOOL : Sta Z Z.heap "com/example/minnow/minnow/typing/Type" "BOOL" "Lcom/example/minnow/minnow/typing/Type;" (.ref sB)) (S_INT : Sta Z Z.heap "com/example/minnow/minnow/typing/Type" "INT" "Lcom/example/minnow/minnow/typing/Type;" (.ref sI)) (E_sU : Exa Z Z.heap sU "com/example/minnow/minnow/typing/Type$Constructed") (E_sB : Exa Z Z.heap sB "com/example/minnow/minnow/typing/Type$Constructed") (E_sI : Exa Z Z.heap sI "com/example/minnow/minnow/typing/Type$Constructed") :
    MetFree l x (head1 (Jvm.Cond.code x code maxLocals ret :: ws) room_1) (fun aQ UQ => aQ = #[(.int i0), (.int i1), (.int i2), (.int i3)] ∧ Z.Warmed39 UQ.vm ∧ UQ.heap = h0) (fun _ _ _ _ _ => True) (fun _ UQ oQ VQ => ∃ vQ LQ, oQ = .returned vQ ∧ Q0 Z i0 i1 i2 i3 sU sB sI h0 n0 vQ VQ.heap LQ ∧ FrameEnd UQ oQ VQ LQ 16 128) := by
  refine MetFree.of_bodySF (plainFor_of_name own_pn2) hisR ?_
  intro p e s m args below meth c s₁ Bd hml0 hP hK
  obtain ⟨rfl, hZ, hh⟩ := hP
  have hx := Bd.exec
  have hby := Bd.bytes
  have hml : c.maxLocals = 18 := hml0
  have hown : s.vm.findClass "com/example/minnow/minnow/typing/VariableResolvedPinLaw" = some m.cls := findClass_of_methodNamed Bd.named
  have hnm := (name_of_methodNamed Bd.named Bd.method).1
  have X0 : Stand p l e room_1 s m #[(.int i0), (.int i1), (.int i2), (.int i3)] below meth c s₁ [] 0 0 := Stand.of_body Bd
  have e0 : s₁.heap = h0 := by rw [← hh, Bd.state]; rfl
  have N0 := Fr.nil n0
  show Go p e below (EndQ s below (Q0 Z i0 i1 i2 i3 sU sB sI h0 n0) 16 128) s₁ (entryFrame m #[(.int i0), (.int i1), (.int i2), (.int i3)] maxLocals)
  obtain ⟨Φ, hΦ⟩ : ∃ Φ, Φ = EndQ s below (Q0 Z i0 i1 i2 i3 sU sB sI h0 n0) 16 128 := ⟨_, rfl⟩
  rw [← hΦ, own_ef0]
  show Go p e below Φ s₁ (mkF m 0 #[.val (.int i0), .val (.int i1), .val (.int i2), .val (.int i3), .unset, .unset, .unset, .unset, .unset, .unset, .unset, .unset, .unset, .unset, .unset, .unset, .unset, .unset] [])
  obtain ⟨T1, h1, X1, e1, E1, A1, D1, -, st1⟩ := newO X0 hx hZ hown (hw _ (List.mem_of_getElem? (i := 0) rfl)) (hw _ (List.mem_of_getElem? (i := 1) rfl)) (hw _ (List.mem_of_getElem? (i := 2) rfl)) e0 (g := (mkF m 0 #[.val (.int i0), .val (.int i1), .val (.int i2), .val (.int i3), .unset, .unset, .unset, .unset, .unset, .unset, .unset, .unset, .unset, .unset, .unset, .unset, .unset, .unset] [])) rfl (hb hby at_0) (by decide) (by decide)
  obtain ⟨b1, g1⟩ : ∃ z, z = h0.size := ⟨_, rfl⟩
  rw [← g1] at A1 D1 st1
  have g_b1 : n0 ≤ b1 := Nat.le_trans Z0 (Nat.le_of_eq g1.symm)
  have Z1 := Nat.le_trans Z0 E1.1
  have O1 := O0.ext E1
  have E_b1 := A1
  have F_b1_level : Fld Z h1 b1 "com/example/minnow/minnow/typing/Type$Variable" "level" "I" (.int (0 : Int32)) := D1 (Or.inl (hw _ (List.mem_of_getElem? (i := 10) rfl))) (ty := .int) (by decide)
  have F_b1_settled : Fld Z h1 b1 "com/example/minnow/minnow/typing/Type$Variable" "settled" "Lcom/example/minnow/minnow/typing/Type;" .null := D1 (Or.inl (hw _ (List.mem_of_getElem? (i := 17) rfl))) (ty := (.object "com/example/minnow/minnow/typing/Type")) (by decide)
  refine Go.of st1 ?_
  show Go p e below Φ T1 (mkF m 3 #[.val (.int i0), .val (.int i1), .val (.int i2), .val (.int i3), .unset, .unset, .unset, .unset, .unset, .unset, .unset, .unset, .unset, .unset, .unset, .unset, .unset, .unset] [(.ref b1)])
  refine Go.of (fun t k => XS.dup X1.here hx rfl (hb hby at_3) rfl rfl k) ?_
  show Go p e below Φ T1 (mkF m 4 #[.val (.int i0), .val (.int i1), .val (.int i2), .val (.int i3), .unset, .unset, .unset, .unset, .unset, .unset, .unset, .unset, .unset, .unset, .unset, .unset, .unset, .unset] [(.ref b1), (.ref b1)])
  refine Go.of (fun t k => XS.iloadN X1.here hx rfl (hb hby at_4) rfl  k) ?_
  show Go p e below Φ T1 (mkF m 5 #[.val (.int i0), .val (.int i1), .val (.int i2), .val (.int i3), .unset, .unset, .unset, .unset, .unset, .unset, .unset, .unset, .unset, .unset, .unset, .unset, .unset, .unset] [(.int i0), (.ref b1), (.ref b1)])
  obtain ⟨_, _, ⟨T2, L2, k2, n2⟩, -, X2, ⟨Lc2, hQ2, l2, y2, z2⟩, st2⟩ := X1.specialBack hx (y := (⟨"com/example/minnow/minnow/typing/Type$Variable", "<init>", "(I)V"⟩ : MethodName)) rfl hown (mvT hZ (hw _ (List.mem_of_getElem? (i := 3) rfl))) (mvT hZ (hw _ (List.mem_of_getElem? (i := 4) rfl))) (mvT hZ (hw _ (List.mem_of_getElem? (i := 5) rfl))) (by decide) (backOf (W := 1) (rm1 l Z a0 hw [] b1 i0 (0 : Int32) .null h1 n0 Z1 F_b1_level F_b1_settled E_b1 g_b1) hZ (hw _ (List.mem_of_getElem? (i := 5) rfl)) (hw _ (List.mem_of_getElem? (i := 2) rfl)) (by decide) (by decide)) (g := (mkF m 5 #[.val (.int i0), .val (.int i1), .val (.int i2), .val (.int i3), .unset, .unset, .unset, .unset, .unset, .unset, .unset, .unset, .unset, .unset, .unset, .unset, .unset, .unset] [(.int i0), (.ref b1), (.ref b1)])) rfl (by rw [hml]; rfl) (Steps.refl _) (a := b1) (argsL := [(.int i0)]) (rest := [(.ref b1)]) (lenOf own_pd1 rfl) rfl (by show 2 * 0 + _ ≤ _; exact Nat.le_of_eq rfl) (hb hby at_5) (fun _ _ => ⟨rfl, e1, (by decide : 1 + 0 ≤ _), (by decide : 3 + 0 ≤ _)⟩)
  dsimp only [Pt.U, Pt.locs, Pt.cells, Pt.slots] at X2 l2 y2 z2 st2 hQ2
  subst l2 y2 z2
  obtain ⟨rfl, N2q, K2q, c2_0, c2_1⟩ := hQ2
  have N2 := Fr.app N0 N2q
  obtain ⟨lc2, X2, N2⟩ : ∃ lc, Stand p l e room_1 s m #[(.int i0), (.int i1), (.int i2), (.int i3)] below meth c T2 lc 1 3 ∧ Fr n0 lc := ⟨_, X2, N2⟩
  have E_b1 := c2_0
  have F_b1_settled := c2_1
  have Z2 := Nat.le_trans Z1 K2q.1
  have O2 := O1.keep K2q (allS g_b1 all0)
  refine Go.tr st2 ?_
  show Go p e below Φ T2 (mkF m 8 #[.val (.int i0), .val (.int i1), .val (.int i2), .val (.int i3), .unset, .unset, .unset, .unset, .unset, .unset, .unset, .unset, .unset, .unset, .unset, .unset, .unset, .unset] [(.ref b1)])
  refine Go.of (fun t k => XS.astore X2.here hx rfl (hb hby at_8) rfl rfl (l' := #[.val (.int i0), .val (.int i1), .val (.int i2), .val (.int i3), .val (.ref b1), .unset, .unset, .unset, .unset, .unset, .unset, .unset, .unset, .unset, .unset, .unset, .unset, .unset]) rfl k) ?_
  show Go p e below Φ T2 (mkF m 10 #[.val (.int i0), .val (.int i1), .val (.int i2), .val (.int i3), .val (.ref b1), .unset, .unset, .unset, .unset, .unset, .unset, .unset, .unset, .unset, .unset, .unset, .unset, .unset] [])
  obtain ⟨T3, h3, X3, e3, E3, A3, D3, -, st3⟩ := newO X2 hx hZ hown (hw _ (List.mem_of_getElem? (i := 0) rfl)) (hw _ (List.mem_of_getElem? (i := 1) rfl)) (hw _ (List.mem_of_getElem? (i := 2) rfl)) rfl (g := (mkF m 10 #[.val (.int i0), .val (.int i1), .val (.int i2), .val (.int i3), .val (.ref b1), .unset, .unset, .unset, .unset, .unset, .unset, .unset, .unset, .unset, .unset, .unset, .unset, .unset] [])) rfl (hb hby at_10) (by decide) (by decide)
  obtain ⟨b3, g3⟩ : ∃ z, z = T2.heap.size := ⟨_, rfl⟩
  rw [← g3] at A3 D3 st3
  have ne_b1_b3 : b1 ≠ b3 := Nat.ne_of_lt (Nat.lt_of_lt_of_le E_b1.lt (Nat.le_of_eq g3.symm))
  have g_b3 : n0 ≤ b3 := Nat.le_trans Z2 (Nat.le_of_eq g3.symm)
  have Z3 := Nat.le_trans Z2 E3.1
  have O3 := O2.ext E3
  have E_b1 := E_b1.ext E3
  have F_b1_settled := F_b1_settled.ext E3
  have E_b3 := A3
  have F_b3_level : Fld Z h3 b3 "com/example/minnow/minnow/typing/Type$Variable" "level" "I" (.int (0 : Int32)) := D3 (Or.inl (hw _ (List.mem_of_getElem? (i := 10) rfl))) (ty := .int) (by decide)
  have F_b3_settled : Fld Z h3 b3 "com/example/minnow/minnow/typing/Type$Variable" "settled" "Lcom/example/minnow/minnow/typing/Type;" .null := D3 (Or.inl (hw _ (List.mem_of_getElem? (i := 17) rfl))) (ty := (.object "com/example/minnow/minnow/typing/Type")) (by decide)
  refine Go.of st3 ?_
  show Go p e below Φ T3 (mkF m 13 #[.val (.int i0), .val (.int i1), .val (.int i2), .val (.int i3), .val (.ref b1), .unset, .unset, .unset, .unset, .unset, .unset, .unset, .unset, .unset, .unset, .unset, .unset, .unset] [(.ref b3)])
  refine Go.of (fun t k => XS.dup X3.here hx rfl (hb hby at_13) rfl rfl k) ?_
  show Go p e below Φ T3 (mkF m 14 #[.val (.int i0), .val (.int i1), .val (.int i2), .val (.int i3), .val (.ref b1), .unset, .unset, .unset, .unset, .unset, .unset, .unset, .unset, .unset, .unset, .unset, .unset, .unset] [(.ref b3), (.ref b3)])
  refine Go.of (fun t k => XS.iloadN X3.here hx rfl (hb hby at_14) rfl  k) ?_
  show Go p e below Φ T3 (mkF m 15 #[.val (.int i0), .val (.int i1), .val (.int i2), .val (.int i3), .val (.ref b1), .unset, .unset, .unset, .unset, .unset, .unset, .unset, .unset, .unset, .unset, .unset, .unset, .unset] [(.int i1), (.ref b3), (.ref b3)])
  obtain ⟨_, _, ⟨T4, L4, k4, n4⟩, -, X4, ⟨Lc4, hQ4, l4, y4, z4⟩, st4⟩ := X3.specialBack hx (y := (⟨"com/example/minnow/minnow/typing/Type$Variable", "<init>", "(I)V"⟩ : MethodName)) rfl hown (mvT hZ (hw _ (List.mem_of_getElem? (i := 3) rfl))) (mvT hZ (hw _ (List.mem_of_getElem? (i := 4) rfl))) (mvT hZ (hw _ (List.mem_of_getElem? (i := 5) rfl))) (by decide) (backOf (W := 1) (rm1 l Z a0 hw [] b3 i1 (0 : Int32) .null h3 n0 Z3 F_b3_level F_b3_settled E_b3 g_b3) hZ (hw _ (List.mem_of_getElem? (i := 5) rfl)) (hw _ (List.mem_of_getElem? (i := 2) rfl)) (by decide) (by decide)) (g := (mkF m 15 #[.val (.int i0), .val (.int i1), .val (.int i2), .val (.int i3), .val (.ref b1), .unset, .unset, .unset, .unset, .unset, .unset, .unset, .unset, .unset, .unset, .unset, .unset, .unset] [(.int i1), (.ref b3), (.ref b3)])) rfl (by rw [hml]; rfl) (Steps.refl _) (a := b3) (argsL := [(.int i1)]) (rest := [(.ref b3)]) (lenOf own_pd1 rfl) rfl (by show 2 * 0 + _ ≤ _; exact Nat.le_of_eq rfl) (hb hby at_15) (fun _ _ => ⟨rfl, e3, (by decide : 2 + 0 ≤ _), (by decide : 6 + 0 ≤ _)⟩)
  dsimp only [Pt.U, Pt.locs, Pt.cells, Pt.slots] at X4 l4 y4 z4 st4 hQ4
  subst l4 y4 z4
  obtain ⟨rfl, N4q, K4q, c4_0, c4_1⟩ := hQ4
  have N4 := Fr.app N2 N4q
  obtain ⟨lc4, X4, N4⟩ : ∃ lc, Stand p l e room_1 s m #[(.int i0), (.int i1), (.int i2), (.int i3)] below meth c T4 lc 2 6 ∧ Fr n0 lc := ⟨_, X4, N4⟩
  have E_b1 := E_b1.keep K4q
  have F_b1_settled := F_b1_settled.keep K4q (ninS ne_b1_b3 nin0)
  have E_b3 := c4_0
  have F_b3_settled := c4_1
  have Z4 := Nat.le_trans Z3 K4q.1
  have O4 := O3.keep K4q (allS g_b3 all0)
  refine Go.tr st4 ?_
  show Go p e below Φ T4 (mkF m 18 #[.val (.int i0), .val (.int i1), .val (.int i2), .val (.int i3), .val (.ref b1), .unset, .unset, .unset, .unset, .unset, .unset, .unset, .unset, .unset, .unset, .unset, .unset, .unset] [(.ref b3)])
  refine Go.of (fun t k => XS.astore X4.here hx rfl (hb hby at_18) rfl rfl (l' := #[.val (.int i0), .val (.int i1), .val (.int i2), .val (.int i3), .val (.ref b1), .val (.ref b3), .unset, .unset, .unset, .unset, .unset, .unset, .unset, .unset, .unset, .unset, .unset, .unset]) rfl k) ?_
  show Go p e below Φ T4 (mkF m 20 #[.val (.int i0), .val (.int i1), .val (.int i2), .val (.int i3), .val (.ref b1), .val (.ref b3), .unset, .unset, .unset, .unset, .unset, .unset, .unset, .unset, .unset, .unset, .unset, .unset] [])
  obtain ⟨T5, h5, X5, e5, E5, A5, D5, -, st5⟩ := newO X4 hx hZ hown (hw _ (List.mem_of_getElem? (i := 0) rfl)) (hw _ (List.mem_of_getElem? (i := 1) rfl)) (hw _ (List.mem_of_getElem? (i := 2) rfl)) rfl (g := (mkF m 20 #[.val (.int i0), .val (.int i1), .val (.int i2), .val (.int i3), .val (.ref b1), .val (.ref b3), .unset, .unset, .unset, .unset, .unset, .unset, .unset, .unset, .unset, .unset, .unset, .unset] [])) rfl (hb hby at_20) (by decide) (by decide)
  obtain ⟨b5, g5⟩ : ∃ z, z = T4.heap.size := ⟨_, rfl⟩
  rw [← g5] at A5 D5 st5
  have ne_b1_b5 : b1 ≠ b5 := Nat.ne_of_lt (Nat.lt_of_lt_of_le E_b1.lt (Nat.le_of_eq g5.symm))
  have ne_b3_b5 : b3 ≠ b5 := Nat.ne_of_lt (Nat.lt_of_lt_of_le E_b3.lt (Nat.le_of_eq g5.symm))
  have g_b5 : n0 ≤ b5 := Nat.le_trans Z4 (Nat.le_of_eq g5.symm)
  have Z5 := Nat.le_trans Z4 E5.1
  have O5 := O4.ext E5
  have E_b1 := E_b1.ext E5
  have F_b1_settled := F_b1_settled.ext E5
  have E_b3 := E_b3.ext E5
  have F_b3_settled := F_b3_settled.ext E5
  have E_b5 := A5
  have F_b5_level : Fld Z h5 b5 "com/example/minnow/minnow/typing/Type$Variable" "level" "I" (.int (0 : Int32)) := D5 (Or.inl (hw _ (List.mem_of_getElem? (i := 10) rfl))) (ty := .int) (by decide)
  have F_b5_settled : Fld Z h5 b5 "com/example/minnow/minnow/typing/Type$Variable" "settled" "Lcom/example/minnow/minnow/typing/Type;" .null := D5 (Or.inl (hw _ (List.mem_of_getElem? (i := 17) rfl))) (ty := (.object "com/example/minnow/minnow/typing/Type")) (by decide)
  refine Go.of st5 ?_
  show Go p e below Φ T5 (mkF m 23 #[.val (.int i0), .val (.int i1), .val (.int i2), .val (.int i3), .val (.ref b1), .val (.ref b3), .unset, .unset, .unset, .unset, .unset, .unset, .unset, .unset, .unset, .unset, .unset, .unset] [(.ref b5)])
  refine Go.of (fun t k => XS.dup X5.here hx rfl (hb hby at_23) rfl rfl k) ?_
  show Go p e below Φ T5 (mkF m 24 #[.val (.int i0), .val (.int i1), .val (.int i2), .val (.int i3), .val (.ref b1), .val (.ref b3), .unset, .unset, .unset, .unset, .unset, .unset, .unset, .unset, .unset, .unset, .unset, .unset] [(.ref b5), (.ref b5)])
  refine Go.of (fun t k => XS.iloadN X5.here hx rfl (hb hby at_24) rfl  k) ?_
  show Go p e below Φ T5 (mkF m 25 #[.val (.int i0), .val (.int i1), .val (.int i2), .val (.int i3), .val (.ref b1), .val (.ref b3), .unset, .unset, .unset, .unset, .unset, .unset, .unset, .unset, .unset, .unset, .unset, .unset] [(.int i2), (.ref b5), (.ref b5)])
  obtain ⟨_, _, ⟨T6, L6, k6, n6⟩, -, X6, ⟨Lc6, hQ6, l6, y6, z6⟩, st6⟩ := X5.specialBack hx (y := (⟨"com/example/minnow/minnow/typing/Type$Variable", "<init>", "(I)V"⟩ : MethodName)) rfl hown (mvT hZ (hw _ (List.mem_of_getElem? (i := 3) rfl))) (mvT hZ (hw _ (List.mem_of_getElem? (i := 4) rfl))) (mvT hZ (hw _ (List.mem_of_getElem? (i := 5) rfl))) (by decide) (backOf (W := 1) (rm1 l Z a0 hw [] b5 i2 (0 : Int32) .null h5 n0 Z5 F_b5_level F_b5_settled E_b5 g_b5) hZ (hw _ (List.mem_of_getElem? (i := 5) rfl)) (hw _ (List.mem_of_getElem? (i := 2) rfl)) (by decide) (by decide)) (g := (mkF m 25 #[.val (.int i0), .val (.int i1), .val (.int i2), .val (.int i3), .val (.ref b1), .val (.ref b3), .unset, .unset, .unset, .unset, .unset, .unset, .unset, .unset, .unset, .unset, .unset, .unset] [(.int i2), (.ref b5), (.ref b5)])) rfl (by rw [hml]; rfl) (Steps.refl _) (a := b5) (argsL := [(.int i2)]) (rest := [(.ref b5)]) (lenOf own_pd1 rfl) rfl (by show 2 * 0 + _ ≤ _; exact Nat.le_of_eq rfl) (hb hby at_25) (fun _ _ => ⟨rfl, e5, (by decide : 3 + 0 ≤ _), (by decide : 9 + 0 ≤ _)⟩)
  dsimp only [Pt.U, Pt.locs, Pt.cells, Pt.slots] at X6 l6 y6 z6 st6 hQ6
  subst l6 y6 z6
  obtain ⟨rfl, N6q, K6q, c6_0, c6_1⟩ := hQ6
  have N6 := Fr.app N4 N6q
  obtain ⟨lc6, X6, N6⟩ : ∃ lc, Stand p l e room_1 s m #[(.int i0), (.int i1), (.int i2), (.int i3)] below meth c T6 lc 3 9 ∧ Fr n0 lc := ⟨_, X6, N6⟩
  have E_b1 := E_b1.keep K6q
  have F_b1_settled := F_b1_settled.keep K6q (ninS ne_b1_b5 nin0)
  have E_b3 := E_b3.keep K6q
  have F_b3_settled := F_b3_settled.keep K6q (ninS ne_b3_b5 nin0)
  have E_b5 := c6_0
  have F_b5_settled := c6_1
  have Z6 := Nat.le_trans Z5 K6q.1
  have O6 := O5.keep K6q (allS g_b5 all0)
  refine Go.tr st6 ?_
  show Go p e below Φ T6 (mkF m 28 #[.val (.int i0), .val (.int i1), .val (.int i2), .val (.int i3), .val (.ref b1), .val (.ref b3), .unset, .unset, .unset, .unset, .unset, .unset, .unset, .unset, .unset, .unset, .unset, .unset] [(.ref b5)])
  refine Go.of (fun t k => XS.astore X6.here hx rfl (hb hby at_28) rfl rfl (l' := #[.val (.int i0), .val (.int i1), .val (.int i2), .val (.int i3), .val (.ref b1), .val (.ref b3), .val (.ref b5), .unset, .unset, .unset, .unset, .unset, .unset, .unset, .unset, .unset, .unset, .unset]) rfl k) ?_
  show Go p e below Φ T6 (mkF m 30 #[.val (.int i0), .val (.int i1), .val (.int i2), .val (.int i3), .val (.ref b1), .val (.ref b3), .val (.ref b5), .unset, .unset, .unset, .unset, .unset, .unset, .unset, .unset, .unset, .unset, .unset] [])
  refine Go.of (fun t k => XS.iloadN X6.here hx rfl (hb hby at_30) rfl  k) ?_
  show Go p e below Φ T6 (mkF m 31 #[.val (.int i0), .val (.int i1), .val (.int i2), .val (.int i3), .val (.ref b1), .val (.ref b3), .val (.ref b5), .unset, .unset, .unset, .unset, .unset, .unset, .unset, .unset, .unset, .unset, .unset] [(.int i3)])
  refine Go.of (fun t k => XS.iconst X6.here hx rfl (hb hby at_31) k) ?_
  show Go p e below Φ T6 (mkF m 32 #[.val (.int i0), .val (.int i1), .val (.int i2), .val (.int i3), .val (.ref b1), .val (.ref b3), .val (.ref b5), .unset, .unset, .unset, .unset, .unset, .unset, .unset, .unset, .unset, .unset, .unset] [(.int (3 : Int32)), (.int i3)])
  refine Go.of (fun t k => XS.iand X6.here hx rfl (hb hby at_32) rfl k) ?_
  show Go p e below Φ T6 (mkF m 33 #[.val (.int i0), .val (.int i1), .val (.int i2), .val (.int i3), .val (.ref b1), .val (.ref b3), .val (.ref b5), .unset, .unset, .unset, .unset, .unset, .unset, .unset, .unset, .unset, .unset, .unset] [(.int (i3 &&& (3 : Int32)))])
  obtain ⟨x33, hx33⟩ : ∃ z : Int32, z = (i3 &&& (3 : Int32)) := ⟨_, rfl⟩
  rw [← hx33]
  refine Go.of (fun t k => XS.istore X6.here hx rfl (hb hby at_33) rfl (l' := #[.val (.int i0), .val (.int i1), .val (.int i2), .val (.int i3), .val (.ref b1), .val (.ref b3), .val (.ref b5), .val (.int x33), .unset, .unset, .unset, .unset, .unset, .unset, .unset, .unset, .unset, .unset]) rfl k) ?_
  show Go p e below Φ T6 (mkF m 35 #[.val (.int i0), .val (.int i1), .val (.int i2), .val (.int i3), .val (.ref b1), .val (.ref b3), .val (.ref b5), .val (.int x33), .unset, .unset, .unset, .unset, .unset, .unset, .unset, .unset, .unset, .unset] [])
  refine Go.of (fun t k => XS.iloadN X6.here hx rfl (hb hby at_35) rfl  k) ?_
  show Go p e below Φ T6 (mkF m 36 #[.val (.int i0), .val (.int i1), .val (.int i2), .val (.int i3), .val (.ref b1), .val (.ref b3), .val (.ref b5), .val (.int x33), .unset, .unset, .unset, .unset, .unset, .unset, .unset, .unset, .unset, .unset] [(.int i3)])
  refine Go.of (fun t k => XS.iconst X6.here hx rfl (hb hby at_36) k) ?_
  show Go p e below Φ T6 (mkF m 37 #[.val (.int i0), .val (.int i1), .val (.int i2), .val (.int i3), .val (.ref b1), .val (.ref b3), .val (.ref b5), .val (.int x33), .unset, .unset, .unset, .unset, .unset, .unset, .unset, .unset, .unset, .unset] [(.int (2 : Int32)), (.int i3)])
  refine Go.of (fun t k => XS.iushr X6.here hx rfl (hb hby at_37) rfl k) ?_
  show Go p e below Φ T6 (mkF m 38 #[.val (.int i0), .val (.int i1), .val (.int i2), .val (.int i3), .val (.ref b1), .val (.ref b3), .val (.ref b5), .val (.int x33), .unset, .unset, .unset, .unset, .unset, .unset, .unset, .unset, .unset, .unset] [(.int (own_ushr i3 (2 : Int32)))])
  refine Go.of (fun t k => XS.iconst X6.here hx rfl (hb hby at_38) k) ?_
  show Go p e below Φ T6 (mkF m 39 #[.val (.int i0), .val (.int i1), .val (.int i2), .val (.int i3), .val (.ref b1), .val (.ref b3), .val (.ref b5), .val (.int x33), .unset, .unset, .unset, .unset, .unset, .unset, .unset, .unset, .unset, .unset] [(.int (3 : Int32)), (.int (own_ushr i3 (2 : Int32)))])
  refine Go.of (fun t k => XS.iand X6.here hx rfl (hb hby at_39) rfl k) ?_
  show Go p e below Φ T6 (mkF m 40 #[.val (.int i0), .val (.int i1), .val (.int i2), .val (.int i3), .val (.ref b1), .val (.ref b3), .val (.ref b5), .val (.int x33), .unset, .unset, .unset, .unset, .unset, .unset, .unset, .unset, .unset, .unset] [(.int ((own_ushr i3 (2 : Int32)) &&& (3 : Int32)))])
  obtain ⟨x40, hx40⟩ : ∃ z : Int32, z = ((own_ushr i3 (2 : Int32)) &&& (3 : Int32)) := ⟨_, rfl⟩
  rw [← hx40]
  refine Go.of (fun t k => XS.istore X6.here hx rfl (hb hby at_40) rfl (l' := #[.val (.int i0), .val (.int i1), .val (.int i2), .val (.int i3), .val (.ref b1), .val (.ref b3), .val (.ref b5), .val (.int x33), .val (.int x40), .unset, .unset, .unset, .unset, .unset, .unset, .unset, .unset, .unset]) rfl k) ?_
  show Go p e below Φ T6 (mkF m 42 #[.val (.int i0), .val (.int i1), .val (.int i2), .val (.int i3), .val (.ref b1), .val (.ref b3), .val (.ref b5), .val (.int x33), .val (.int x40), .unset, .unset, .unset, .unset, .unset, .unset, .unset, .unset, .unset] [])
  refine Go.of (fun t k => XS.iloadN X6.here hx rfl (hb hby at_42) rfl  k) ?_
  show Go p e below Φ T6 (mkF m 43 #[.val (.int i0), .val (.int i1), .val (.int i2), .val (.int i3), .val (.ref b1), .val (.ref b3), .val (.ref b5), .val (.int x33), .val (.int x40), .unset, .unset, .unset, .unset, .unset, .unset, .unset, .unset, .unset] [(.int i3)])
  refine Go.of (fun t k => XS.iconst X6.here hx rfl (hb hby at_43) k) ?_
  show Go p e below Φ T6 (mkF m 44 #[.val (.int i0), .val (.int i1), .val (.int i2), .val (.int i3), .val (.ref b1), .val (.ref b3), .val (.ref b5), .val (.int x33), .val (.int x40), .unset, .unset, .unset, .unset, .unset, .unset, .unset, .unset, .unset] [(.int (4 : Int32)), (.int i3)])
  refine Go.of (fun t k => XS.iushr X6.here hx rfl (hb hby at_44) rfl k) ?_
  show Go p e below Φ T6 (mkF m 45 #[.val (.int i0), .val (.int i1), .val (.int i2), .val (.int i3), .val (.ref b1), .val (.ref b3), .val (.ref b5), .val (.int x33), .val (.int x40), .unset, .unset, .unset, .unset, .unset, .unset, .unset, .unset, .unset] [(.int (own_ushr i3 (4 : Int32)))])
  refine Go.of (fun t k => XS.iconst X6.here hx rfl (hb hby at_45) k) ?_
  show Go p e below Φ T6 (mkF m 46 #[.val (.int i0), .val (.int i1), .val (.int i2), .val (.int i3), .val (.ref b1), .val (.ref b3), .val (.ref b5), .val (.int x33), .val (.int x40), .unset, .unset, .unset, .unset, .unset, .unset, .unset, .unset, .unset] [(.int (1 : Int32)), (.int (own_ushr i3 (4 : Int32)))])
  refine Go.of (fun t k => XS.iand X6.here hx rfl (hb hby at_46) rfl k) ?_
  show Go p e below Φ T6 (mkF m 47 #[.val (.int i0), .val (.int i1), .val (.int i2), .val (.int i3), .val (.ref b1), .val (.ref b3), .val (.ref b5), .val (.int x33), .val (.int x40), .unset, .unset, .unset, .unset, .unset, .unset, .unset, .unset, .unset] [(.int ((own_ushr i3 (4 : Int32)) &&& (1 : Int32)))])
  obtain ⟨x47, hx47⟩ : ∃ z : Int32, z = ((own_ushr i3 (4 : Int32)) &&& (1 : Int32)) := ⟨_, rfl⟩
  rw [← hx47]
  refine Go.of (fun t k => XS.istore X6.here hx rfl (hb hby at_47) rfl (l' := #[.val (.int i0), .val (.int i1), .val (.int i2), .val (.int i3), .val (.ref b1), .val (.ref b3), .val (.ref b5), .val (.int x33), .val (.int x40), .val (.int x47), .unset, .unset, .unset, .unset, .unset, .unset, .unset, .unset]) rfl k) ?_
  show Go p e below Φ T6 (mkF m 49 #[.val (.int i0), .val (.int i1), .val (.int i2), .val (.int i3), .val (.ref b1), .val (.ref b3), .val (.ref b5), .val (.int x33), .val (.int x40), .val (.int x47), .unset, .unset, .unset, .unset, .unset, .unset, .unset, .unset] [])
  refine Go.of (fun t k => XS.iloadN X6.here hx rfl (hb hby at_49) rfl  k) ?_
  show Go p e below Φ T6 (mkF m 50 #[.val (.int i0), .val (.int i1), .val (.int i2), .val (.int i3), .val (.ref b1), .val (.ref b3), .val (.ref b5), .val (.int x33), .val (.int x40), .val (.int x47), .unset, .unset, .unset, .unset, .unset, .unset, .unset, .unset] [(.int i3)])
  refine Go.of (fun t k => XS.iconst X6.here hx rfl (hb hby at_50) k) ?_
  show Go p e below Φ T6 (mkF m 51 #[.val (.int i0), .val (.int i1), .val (.int i2), .val (.int i3), .val (.ref b1), .val (.ref b3), .val (.ref b5), .val (.int x33), .val (.int x40), .val (.int x47), .unset, .unset, .unset, .unset, .unset, .unset, .unset, .unset] [(.int (5 : Int32)), (.int i3)])
  refine Go.of (fun t k => XS.iushr X6.here hx rfl (hb hby at_51) rfl k) ?_
  show Go p e below Φ T6 (mkF m 52 #[.val (.int i0), .val (.int i1), .val (.int i2), .val (.int i3), .val (.ref b1), .val (.ref b3), .val (.ref b5), .val (.int x33), .val (.int x40), .val (.int x47), .unset, .unset, .unset, .unset, .unset, .unset, .unset, .unset] [(.int (own_ushr i3 (5 : Int32)))])
  refine Go.of (fun t k => XS.iconst X6.here hx rfl (hb hby at_52) k) ?_
  show Go p e below Φ T6 (mkF m 53 #[.val (.int i0), .val (.int i1), .val (.int i2), .val (.int i3), .val (.ref b1), .val (.ref b3), .val (.ref b5), .val (.int x33), .val (.int x40), .val (.int x47), .unset, .unset, .unset, .unset, .unset, .unset, .unset, .unset] [(.int (1 : Int32)), (.int (own_ushr i3 (5 : Int32)))])
  refine Go.of (fun t k => XS.iand X6.here hx rfl (hb hby at_53) rfl k) ?_
  show Go p e below Φ T6 (mkF m 54 #[.val (.int i0), .val (.int i1), .val (.int i2), .val (.int i3), .val (.ref b1), .val (.ref b3), .val (.ref b5), .val (.int x33), .val (.int x40), .val (.int x47), .unset, .unset, .unset, .unset, .unset, .unset, .unset, .unset] [(.int ((own_ushr i3 (5 : Int32)) &&& (1 : Int32)))])
  suffices j62_7 :  ∀ v62 : Int32, v62 = (if ((own_ushr i3 (5 : Int32)) &&& (1 : Int32)) = (0 : Int32) then (0 : Int32) else (1 : Int32)) → Go p e below Φ T6 (mkF m 62 #[.val (.int i0), .val (.int i1), .val (.int i2), .val (.int i3), .val (.ref b1), .val (.ref b3), .val (.ref b5), .val (.int x33), .val (.int x40), .val (.int x47), .unset, .unset, .unset, .unset, .unset, .unset, .unset, .unset] [(.int v62)]) by
    by_cases hc54 : ((own_ushr i3 (5 : Int32)) &&& (1 : Int32)) = (0 : Int32)
    · refine Go.of (fun t k => XS.ifYes X6.here hx rfl (pc0 := 54) (pc' := 61) rfl (hb hby at_54) rfl (XT.i0_eq_t hc54) (by decide) (by decide) k) ?_
      show Go p e below Φ T6 (mkF m 61 #[.val (.int i0), .val (.int i1), .val (.int i2), .val (.int i3), .val (.ref b1), .val (.ref b3), .val (.ref b5), .val (.int x33), .val (.int x40), .val (.int x47), .unset, .unset, .unset, .unset, .unset, .unset, .unset, .unset] [])
      refine Go.of (fun t k => XS.iconst X6.here hx rfl (hb hby at_61) k) ?_
      show Go p e below Φ T6 (mkF m 62 #[.val (.int i0), .val (.int i1), .val (.int i2), .val (.int i3), .val (.ref b1), .val (.ref b3), .val (.ref b5), .val (.int x33), .val (.int x40), .val (.int x47), .unset, .unset, .unset, .unset, .unset, .unset, .unset, .unset] [(.int (0 : Int32))])
      exact j62_7 _ (by rw [if_pos hc54])
    · refine Go.of (fun t k => XS.ifNo X6.here hx rfl (hb hby at_54) rfl (XT.i0_eq_f hc54) k) ?_
      show Go p e below Φ T6 (mkF m 57 #[.val (.int i0), .val (.int i1), .val (.int i2), .val (.int i3), .val (.ref b1), .val (.ref b3), .val (.ref b5), .val (.int x33), .val (.int x40), .val (.int x47), .unset, .unset, .unset, .unset, .unset, .unset, .unset, .unset] [])
      refine Go.of (fun t k => XS.iconst X6.here hx rfl (hb hby at_57) k) ?_
      show Go p e below Φ T6 (mkF m 58 #[.val (.int i0), .val (.int i1), .val (.int i2), .val (.int i3), .val (.ref b1), .val (.ref b3), .val (.ref b5), .val (.int x33), .val (.int x40), .val (.int x47), .unset, .unset, .unset, .unset, .unset, .unset, .unset, .unset] [(.int (1 : Int32))])
      refine Go.of (fun t k => XS.goto X6.here hx rfl (pc0 := 58) (pc' := 62) rfl (hb hby at_58) (by decide) (by decide) k) ?_
      show Go p e below Φ T6 (mkF m 62 #[.val (.int i0), .val (.int i1), .val (.int i2), .val (.int i3), .val (.ref b1), .val (.ref b3), .val (.ref b5), .val (.int x33), .val (.int x40), .val (.int x47), .unset, .unset, .unset, .unset, .unset, .unset, .unset, .unset] [(.int (1 : Int32))])
      exact j62_7 _ (by rw [if_neg hc54])
  intro v62 hv62
  show Go p e below Φ T6 (mkF m 62 #[.val (.int i0), .val (.int i1), .val (.int i2), .val (.int i3), .val (.ref b1), .val (.ref b3), .val (.ref b5), .val (.int x33), .val (.int x40), .val (.int x47), .unset, .unset, .unset, .unset, .unset, .unset, .unset, .unset] [(.int v62)])
  refine Go.of (fun t k => XS.istore X6.here hx rfl (hb hby at_62) rfl (l' := #[.val (.int i0), .val (.int i1), .val (.int i2), .val (.int i3), .val (.ref b1), .val (.ref b3), .val (.ref b5), .val (.int x33), .val (.int x40), .val (.int x47), .val (.int v62), .unset, .unset, .unset, .unset, .unset, .unset, .unset]) rfl k) ?_
  show Go p e below Φ T6 (mkF m 64 #[.val (.int i0), .val (.int i1), .val (.int i2), .val (.int i3), .val (.ref b1), .val (.ref b3), .val (.ref b5), .val (.int x33), .val (.int x40), .val (.int x47), .val (.int v62), .unset, .unset, .unset, .unset, .unset, .unset, .unset] [])
  refine Go.of (fun t k => XS.iload X6.here hx rfl (hb hby at_64) rfl  k) ?_
  show Go p e below Φ T6 (mkF m 66 #[.val (.int i0), .val (.int i1), .val (.int i2), .val (.int i3), .val (.ref b1), .val (.ref b3), .val (.ref b5), .val (.int x33), .val (.int x40), .val (.int x47), .val (.int v62), .unset, .unset, .unset, .unset, .unset, .unset, .unset] [(.int x47)])
  refine Go.of (fun t k => XS.iconst X6.here hx rfl (hb hby at_66) k) ?_
  show Go p e below Φ T6 (mkF m 67 #[.val (.int i0), .val (.int i1), .val (.int i2), .val (.int i3), .val (.ref b1), .val (.ref b3), .val (.ref b5), .val (.int x33), .val (.int x40), .val (.int x47), .val (.int v62), .unset, .unset, .unset, .unset, .unset, .unset, .unset] [(.int (1 : Int32)), (.int x47)])
  suffices j78_8 : ∀ (T8 : State) (h8 : Heap) (lc8 : List Loc), Stand p l e room_1 s m #[(.int i0), (.int i1), (.int i2), (.int i3)] below meth c T8 lc8 3 9 → T8.heap = h8 → Fr n0 lc8 → n0 ≤ h8.size → Old Z n0 h8 → ∀ u78_b5 : Value, u78_b5 = (if x47 = (1 : Int32) then (.ref sU) else .null) → (Exa Z h8 b1 "com/example/minnow/minnow/typing/Type$Variable") → (Fld Z h8 b1 "com/example/minnow/minnow/typing/Type$Variable" "settled" "Lcom/example/minnow/minnow/typing/Type;" .null) → (Exa Z h8 b3 "com/example/minnow/minnow/typing/Type$Variable") → (Fld Z h8 b3 "com/example/minnow/minnow/typing/Type$Variable" "settled" "Lcom/example/minnow/minnow/typing/Type;" .null) → (Exa Z h8 b5 "com/example/minnow/minnow/typing/Type$Variable") → (Fld Z h8 b5 "com/example/minnow/minnow/typing/Type$Variable" "settled" "Lcom/example/minnow/minnow/typing/Type;" u78_b5) → Go p e below Φ T8 (mkF m 78 #[.val (.int i0), .val (.int i1), .val (.int i2), .val (.int i3), .val (.ref b1), .val (.ref b3), .val (.ref b5), .val (.int x33), .val (.int x40), .val (.int x47), .val (.int v62), .unset, .unset, .unset, .unset, .unset, .unset, .unset] []) by
    by_cases hc67 : x47 = (1 : Int32)
    · refine Go.of (fun t k => XS.icmpNo X6.here hx rfl (hb hby at_67) rfl (XT.ii_ne_f hc67) k) ?_
      show Go p e below Φ T6 (mkF m 70 #[.val (.int i0), .val (.int i1), .val (.int i2), .val (.int i3), .val (.ref b1), .val (.ref b3), .val (.ref b5), .val (.int x33), .val (.int x40), .val (.int x47), .val (.int v62), .unset, .unset, .unset, .unset, .unset, .unset, .unset] [])
      refine Go.of (fun t k => XS.aload X6.here hx rfl (hb hby at_70) rfl rfl  k) ?_
      show Go p e below Φ T6 (mkF m 72 #[.val (.int i0), .val (.int i1), .val (.int i2), .val (.int i3), .val (.ref b1), .val (.ref b3), .val (.ref b5), .val (.int x33), .val (.int x40), .val (.int x47), .val (.int v62), .unset, .unset, .unset, .unset, .unset, .unset, .unset] [(.ref b5)])
      obtain ⟨T9, X9, e9, st9⟩ := getS2 X6 hx hZ hown (host := "") (Or.inl (hw _ (List.mem_of_getElem? (i := 40) rfl))) Via.refl rfl (S_UNIT.ext O6.2) (g := (mkF m 72 #[.val (.int i0), .val (.int i1), .val (.int i2), .val (.int i3), .val (.ref b1), .val (.ref b3), .val (.ref b5), .val (.int x33), .val (.int x40), .val (.int x47), .val (.int v62), .unset, .unset, .unset, .unset, .unset, .unset, .unset] [(.ref b5)])) rfl (hb hby at_72)
      refine Go.of st9 ?_
      show Go p e below Φ T9 (mkF m 75 #[.val (.int i0), .val (.int i1), .val (.int i2), .val (.int i3), .val (.ref b1), .val (.ref b3), .val (.ref b5), .val (.int x33), .val (.int x40), .val (.int x47), .val (.int v62), .unset, .unset, .unset, .unset, .unset, .unset, .unset] [(.ref sU), (.ref b5)])
      obtain ⟨cq10, kq10, q10a, q10b, q10c⟩ := isOf hZ e9 E_b5
      obtain ⟨_, _, ⟨T10, L10, k10, n10⟩, -, X10, ⟨Lc10, hQ10, l10, y10, z10⟩, st10⟩ := X9.virtualBack hx (y := (⟨"com/example/minnow/minnow/typing/Type$Variable", "settle", "(Lcom/example/minnow/minnow/typing/Type;)V"⟩ : MethodName)) (z := (⟨"com/example/minnow/minnow/typing/Type$Variable", "settle", "(Lcom/example/minnow/minnow/typing/Type;)V"⟩ : MethodName)) hown (mvT hZ (hw _ (List.mem_of_getElem? (i := 11) rfl))) (mvT hZ (hw _ (List.mem_of_getElem? (i := 12) rfl))) (notFace_of_selects (args := #[]) (mvT hZ (hw _ (List.mem_of_getElem? (i := 14) rfl)))) (mvT hZ (hw _ (List.mem_of_getElem? (i := 14) rfl))) (mvT hZ (hw _ (List.mem_of_getElem? (i := 13) rfl))) (by decide) (backOf (W := 0) (rm3 l Z a0 hw [] b5 sU .null T6.heap n0 Z6 F_b5_settled E_b5 g_b5) hZ (hw _ (List.mem_of_getElem? (i := 15) rfl)) (hw _ (List.mem_of_getElem? (i := 2) rfl)) (by decide) (by decide)) q10a q10c (g := (mkF m 75 #[.val (.int i0), .val (.int i1), .val (.int i2), .val (.int i3), .val (.ref b1), .val (.ref b3), .val (.ref b5), .val (.int x33), .val (.int x40), .val (.int x47), .val (.int v62), .unset, .unset, .unset, .unset, .unset, .unset, .unset] [(.ref sU), (.ref b5)])) rfl (by rw [hml]; rfl) (Steps.refl _) (argsL := [(.ref sU)]) (rest := []) (lenOf own_pd2 rfl) rfl (by show 2 * 0 + _ ≤ _; exact Nat.le_of_eq rfl) (hb hby at_75) (fun _ _ => ⟨rfl, e9, (by decide : 3 + 0 ≤ _), (by decide : 9 + 0 ≤ _)⟩)
      dsimp only [Pt.U, Pt.locs, Pt.cells, Pt.slots] at X10 l10 y10 z10 st10 hQ10
      subst l10 y10 z10
      obtain ⟨rfl, N10q, K10q, c10_0, c10_1⟩ := hQ10
      have N10 := Fr.app N6 N10q
      obtain ⟨lc10, X10, N10⟩ : ∃ lc, Stand p l e room_1 s m #[(.int i0), (.int i1), (.int i2), (.int i3)] below meth c T10 lc 3 9 ∧ Fr n0 lc := ⟨_, X10, N10⟩
      have E_b1 := E_b1.keep K10q
      have F_b1_settled := F_b1_settled.keep K10q (ninS ne_b1_b5 nin0)
      have E_b3 := E_b3.keep K10q
      have F_b3_settled := F_b3_settled.keep K10q (ninS ne_b3_b5 nin0)
      have E_b5 := c10_0
      have F_b5_settled := c10_1
      have Z10 := Nat.le_trans Z6 K10q.1
      have O10 := O6.keep K10q (allS g_b5 all0)
      refine Go.tr st10 ?_
      show Go p e below Φ T10 (mkF m 78 #[.val (.int i0), .val (.int i1), .val (.int i2), .val (.int i3), .val (.ref b1), .val (.ref b3), .val (.ref b5), .val (.int x33), .val (.int x40), .val (.int x47), .val (.int v62), .unset, .unset, .unset, .unset, .unset, .unset, .unset] [])
      exact j78_8 _ _ _ (X10.more (by decide) (by decide)) rfl N10 Z10 O10 _ (by rw [if_pos hc67]) E_b1 F_b1_settled E_b3 F_b3_settled E_b5 F_b5_settled
    · refine Go.of (fun t k => XS.icmpYes X6.here hx rfl (pc0 := 67) (pc' := 78) rfl (hb hby at_67) rfl (XT.ii_ne_t hc67) (by decide) (by decide) k) ?_
      show Go p e below Φ T6 (mkF m 78 #[.val (.int i0), .val (.int i1), .val (.int i2), .val (.int i3), .val (.ref b1), .val (.ref b3), .val (.ref b5), .val (.int x33), .val (.int x40), .val (.int x47), .val (.int v62), .unset, .unset, .unset, .unset, .unset, .unset, .unset] [])
      exact j78_8 _ _ _ (X6.more (by decide) (by decide)) rfl N6 Z6 O6 _ (by rw [if_neg hc67]) E_b1 F_b1_settled E_b3 F_b3_settled E_b5 F_b5_settled
  intro T8 h8 lc8 X8 e8 N8 Z8 O8 u78_b5 hu78_b5 E_b1 F_b1_settled E_b3 F_b3_settled E_b5 F_b5_settled
  have hu78_b5r : u78_b5.isRef = true := by rw [hu78_b5]; (repeat' split) <;> first | rfl | assumption
  show Go p e below Φ T8 (mkF m 78 #[.val (.int i0), .val (.int i1), .val (.int i2), .val (.int i3), .val (.ref b1), .val (.ref b3), .val (.ref b5), .val (.int x33), .val (.int x40), .val (.int x47), .val (.int v62), .unset, .unset, .unset, .unset, .unset, .unset, .unset] [])
  refine Go.of (fun t k => XS.iload X8.here hx rfl (hb hby at_78) rfl  k) ?_
  show Go p e below Φ T8 (mkF m 80 #[.val (.int i0), .val (.int i1), .val (.int i2), .val (.int i3), .val (.ref b1), .val (.ref b3), .val (.ref b5), .val (.int x33), .val (.int x40), .val (.int x47), .val (.int v62), .unset, .unset, .unset, .unset, .unset, .unset, .unset] [(.int x40)])
  refine Go.of (fun t k => XS.iconst X8.here hx rfl (hb hby at_80) k) ?_
  show Go p e below Φ T8 (mkF m 81 #[.val (.int i0), .val (.int i1), .val (.int i2), .val (.int i3), .val (.ref b1), .val (.ref b3), .val (.ref b5), .val (.int x33), .val (.int x40), .val (.int x47), .val (.int v62), .unset, .unset, .unset, .unset, .unset, .unset, .unset] [(.int (1 : Int32)), (.int x40)])
  suffices j125_11 : ∀ (T11 : State) (h11 : Heap) (lc11 : List Loc), Stand p l e room_1 s m #[(.int i0), (.int i1), (.int i2), (.int i3)] below meth c T11 lc11 3 9 → T11.heap = h11 → Fr n0 lc11 → n0 ≤ h11.size → Old Z n0 h11 → ∀ u125_b3 : Value, u125_b3 = (if x40 = (1 : Int32) then (.ref b5) else (if x40 = (2 : Int32) then (.ref sB) else (if x40 = (3 : Int32) then (.ref sI) else .null))) → (Exa Z h11 b1 "com/example/minnow/minnow/typing/Type$Variable") → (Fld Z h11 b1 "com/example/minnow/minnow/typing/Type$Variable" "settled" "Lcom/example/minnow/minnow/typing/Type;" .null) → (Exa Z h11 b3 "com/example/minnow/minnow/typing/Type$Variable") → (Fld Z h11 b3 "com/example/minnow/minnow/typing/Type$Variable" "settled" "Lcom/example/minnow/minnow/typing/Type;" u125_b3) → (Exa Z h11 b5 "com/example/minnow/minnow/typing/Type$Variable") → (Fld Z h11 b5 "com/example/minnow/minnow/typing/Type$Variable" "settled" "Lcom/example/minnow/minnow/typing/Type;" u78_b5) → Go p e below Φ T11 (mkF m 125 #[.val (.int i0), .val (.int i1), .val (.int i2), .val (.int i3), .val (.ref b1), .val (.ref b3), .val (.ref b5), .val (.int x33), .val (.int x40), .val (.int x47), .val (.int v62), .unset, .unset, .unset, .unset, .unset, .unset, .unset] []) by
    by_cases hc81 : x40 = (1 : Int32)
    · refine Go.of (fun t k => XS.icmpNo X8.here hx rfl (hb hby at_81) rfl (XT.ii_ne_f hc81) k) ?_
      show Go p e below Φ T8 (mkF m 84 #[.val (.int i0), .val (.int i1), .val (.int i2), .val (.int i3), .val (.ref b1), .val (.ref b3), .val (.ref b5), .val (.int x33), .val (.int x40), .val (.int x47), .val (.int v62), .unset, .unset, .unset, .unset, .unset, .unset, .unset] [])
      refine Go.of (fun t k => XS.aload X8.here hx rfl (hb hby at_84) rfl rfl  k) ?_
      show Go p e below Φ T8 (mkF m 86 #[.val (.int i0), .val (.int i1), .val (.int i2), .val (.int i3), .val (.ref b1), .val (.ref b3), .val (.ref b5), .val (.int x33), .val (.int x40), .val (.int x47), .val (.int v62), .unset, .unset, .unset, .unset, .unset, .unset, .unset] [(.ref b3)])
      refine Go.of (fun t k => XS.aload X8.here hx rfl (hb hby at_86) rfl rfl  k) ?_
      show Go p e below Φ T8 (mkF m 88 #[.val (.int i0), .val (.int i1), .val (.int i2), .val (.int i3), .val (.ref b1), .val (.ref b3), .val (.ref b5), .val (.int x33), .val (.int x40), .val (.int x47), .val (.int v62), .unset, .unset, .unset, .unset, .unset, .unset, .unset] [(.ref b5), (.ref b3)])
      obtain ⟨cq12, kq12, q12a, q12b, q12c⟩ := isOf hZ e8 E_b3
      obtain ⟨_, _, ⟨T12, L12, k12, n12⟩, -, X12, ⟨Lc12, hQ12, l12, y12, z12⟩, st12⟩ := X8.virtualBack hx (y := (⟨"com/example/minnow/minnow/typing/Type$Variable", "settle", "(Lcom/example/minnow/minnow/typing/Type;)V"⟩ : MethodName)) (z := (⟨"com/example/minnow/minnow/typing/Type$Variable", "settle", "(Lcom/example/minnow/minnow/typing/Type;)V"⟩ : MethodName)) hown (mvT hZ (hw _ (List.mem_of_getElem? (i := 11) rfl))) (mvT hZ (hw _ (List.mem_of_getElem? (i := 12) rfl))) (notFace_of_selects (args := #[]) (mvT hZ (hw _ (List.mem_of_getElem? (i := 14) rfl)))) (mvT hZ (hw _ (List.mem_of_getElem? (i := 14) rfl))) (mvT hZ (hw _ (List.mem_of_getElem? (i := 13) rfl))) (by decide) (backOf (W := 0) (rm3 l Z a0 hw [] b3 b5 .null h8 n0 Z8 F_b3_settled E_b3 g_b3) hZ (hw _ (List.mem_of_getElem? (i := 15) rfl)) (hw _ (List.mem_of_getElem? (i := 2) rfl)) (by decide) (by decide)) q12a q12c (g := (mkF m 88 #[.val (.int i0), .val (.int i1), .val (.int i2), .val (.int i3), .val (.ref b1), .val (.ref b3), .val (.ref b5), .val (.int x33), .val (.int x40), .val (.int x47), .val (.int v62), .unset, .unset, .unset, .unset, .unset, .unset, .unset] [(.ref b5), (.ref b3)])) rfl (by rw [hml]; rfl) (Steps.refl _) (argsL := [(.ref b5)]) (rest := []) (lenOf own_pd2 rfl) rfl (by show 2 * 0 + _ ≤ _; exact Nat.le_of_eq rfl) (hb hby at_88) (fun _ _ => ⟨rfl, e8, (by decide : 3 + 0 ≤ _), (by decide : 9 + 0 ≤ _)⟩)
      dsimp only [Pt.U, Pt.locs, Pt.cells, Pt.slots] at X12 l12 y12 z12 st12 hQ12
      subst l12 y12 z12
      obtain ⟨rfl, N12q, K12q, c12_0, c12_1⟩ := hQ12
      have N12 := Fr.app N8 N12q
      obtain ⟨lc12, X12, N12⟩ : ∃ lc, Stand p l e room_1 s m #[(.int i0), (.int i1), (.int i2), (.int i3)] below meth c T12 lc 3 9 ∧ Fr n0 lc := ⟨_, X12, N12⟩
      have E_b1 := E_b1.keep K12q
      have F_b1_settled := F_b1_settled.keep K12q (ninS ne_b1_b3 nin0)
      have E_b5 := E_b5.keep K12q
      have F_b5_settled := F_b5_settled.keep K12q (ninS (Ne.symm ne_b3_b5) nin0)
      have E_b3 := c12_0
      have F_b3_settled := c12_1
      have Z12 := Nat.le_trans Z8 K12q.1
      have O12 := O8.keep K12q (allS g_b3 all0)
      refine Go.tr st12 ?_
      show Go p e below Φ T12 (mkF m 91 #[.val (.int i0), .val (.int i1), .val (.int i2), .val (.int i3), .val (.ref b1), .val (.ref b3), .val (.ref b5), .val (.int x33), .val (.int x40), .val (.int x47), .val (.int v62), .unset, .unset, .unset, .unset, .unset, .unset, .unset] [])
      refine Go.of (fun t k => XS.goto X12.here hx rfl (pc0 := 91) (pc' := 125) rfl (hb hby at_91) (by decide) (by decide) k) ?_
      show Go p e below Φ T12 (mkF m 125 #[.val (.int i0), .val (.int i1), .val (.int i2), .val (.int i3), .val (.ref b1), .val (.ref b3), .val (.ref b5), .val (.int x33), .val (.int x40), .val (.int x47), .val (.int v62), .unset, .unset, .unset, .unset, .unset, .unset, .unset] [])
      exact j125_11 _ _ _ (X12.more (by decide) (by decide)) rfl N12 Z12 O12 _ (by rw [if_pos hc81]) E_b1 F_b1_settled E_b3 F_b3_settled E_b5 F_b5_settled
    · refine Go.of (fun t k => XS.icmpYes X8.here hx rfl (pc0 := 81) (pc' := 94) rfl (hb hby at_81) rfl (XT.ii_ne_t hc81) (by decide) (by decide) k) ?_
      show Go p e below Φ T8 (mkF m 94 #[.val (.int i0), .val (.int i1), .val (.int i2), .val (.int i3), .val (.ref b1), .val (.ref b3), .val (.ref b5), .val (.int x33), .val (.int x40), .val (.int x47), .val (.int v62), .unset, .unset, .unset, .unset, .unset, .unset, .unset] [])
      refine Go.of (fun t k => XS.iload X8.here hx rfl (hb hby at_94) rfl  k) ?_
      show Go p e below Φ T8 (mkF m 96 #[.val (.int i0), .val (.int i1), .val (.int i2), .val (.int i3), .val (.ref b1), .val (.ref b3), .val (.ref b5), .val (.int x33), .val (.int x40), .val (.int x47), .val (.int v62), .unset, .unset, .unset, .unset, .unset, .unset, .unset] [(.int x40)])
      refine Go.of (fun t k => XS.iconst X8.here hx rfl (hb hby at_96) k) ?_
      show Go p e below Φ T8 (mkF m 97 #[.val (.int i0), .val (.int i1), .val (.int i2), .val (.int i3), .val (.ref b1), .val (.ref b3), .val (.ref b5), .val (.int x33), .val (.int x40), .val (.int x47), .val (.int v62), .unset, .unset, .unset, .unset, .unset, .unset, .unset] [(.int (2 : Int32)), (.int x40)])
      by_cases hc97 : x40 = (2 : Int32)
      · refine Go.of (fun t k => XS.icmpNo X8.here hx rfl (hb hby at_97) rfl (XT.ii_ne_f hc97) k) ?_
        show Go p e below Φ T8 (mkF m 100 #[.val (.int i0), .val (.int i1), .val (.int i2), .val (.int i3), .val (.ref b1), .val (.ref b3), .val (.ref b5), .val (.int x33), .val (.int x40), .val (.int x47), .val (.int v62), .unset, .unset, .unset, .unset, .unset, .unset, .unset] [])
        refine Go.of (fun t k => XS.aload X8.here hx rfl (hb hby at_100) rfl rfl  k) ?_
        show Go p e below Φ T8 (mkF m 102 #[.val (.int i0), .val (.int i1), .val (.int i2), .val (.int i3), .val (.ref b1), .val (.ref b3), .val (.ref b5), .val (.int x33), .val (.int x40), .val (.int x47), .val (.int v62), .unset, .unset, .unset, .unset, .unset, .unset, .unset] [(.ref b3)])
        obtain ⟨T13, X13, e13, st13⟩ := getS2 X8 hx hZ hown (host := "") (Or.inl (hw _ (List.mem_of_getElem? (i := 30) rfl))) Via.refl e8 (S_BOOL.ext O8.2) (g := (mkF m 102 #[.val (.int i0), .val (.int i1), .val (.int i2), .val (.int i3), .val (.ref b1), .val (.ref b3), .val (.ref b5), .val (.int x33), .val (.int x40), .val (.int x47), .val (.int v62), .unset, .unset, .unset, .unset, .unset, .unset, .unset] [(.ref b3)])) rfl (hb hby at_102)
        refine Go.of st13 ?_
        show Go p e below Φ T13 (mkF m 105 #[.val (.int i0), .val (.int i1), .val (.int i2), .val (.int i3), .val (.ref b1), .val (.ref b3), .val (.ref b5), .val (.int x33), .val (.int x40), .val (.int x47), .val (.int v62), .unset, .unset, .unset, .unset, .unset, .unset, .unset] [(.ref sB), (.ref b3)])
        obtain ⟨cq14, kq14, q14a, q14b, q14c⟩ := isOf hZ e13 E_b3
        obtain ⟨_, _, ⟨T14, L14, k14, n14⟩, -, X14, ⟨Lc14, hQ14, l14, y14, z14⟩, st14⟩ := X13.virtualBack hx (y := (⟨"com/example/minnow/minnow/typing/Type$Variable", "settle", "(Lcom/example/minnow/minnow/typing/Type;)V"⟩ : MethodName)) (z := (⟨"com/example/minnow/minnow/typing/Type$Variable", "settle", "(Lcom/example/minnow/minnow/typing/Type;)V"⟩ : MethodName)) hown (mvT hZ (hw _ (List.mem_of_getElem? (i := 11) rfl))) (mvT hZ (hw _ (List.mem_of_getElem? (i := 12) rfl))) (notFace_of_selects (args := #[]) (mvT hZ (hw _ (List.mem_of_getElem? (i := 14) rfl)))) (mvT hZ (hw _ (List.mem_of_getElem? (i := 14) rfl))) (mvT hZ (hw _ (List.mem_of_getElem? (i := 13) rfl))) (by decide) (backOf (W := 0) (rm3 l Z a0 hw [] b3 sB .null h8 n0 Z8 F_b3_settled E_b3 g_b3) hZ (hw _ (List.mem_of_getElem? (i := 15) rfl)) (hw _ (List.mem_of_getElem? (i := 2) rfl)) (by decide) (by decide)) q14a q14c (g := (mkF m 105 #[.val (.int i0), .val (.int i1), .val (.int i2), .val (.int i3), .val (.ref b1), .val (.ref b3), .val (.ref b5), .val (.int x33), .val (.int x40), .val (.int x47), .val (.int v62), .unset, .unset, .unset, .unset, .unset, .unset, .unset] [(.ref sB), (.ref b3)])) rfl (by rw [hml]; rfl) (Steps.refl _) (argsL := [(.ref sB)]) (rest := []) (lenOf own_pd2 rfl) rfl (by show 2 * 0 + _ ≤ _; exact Nat.le_of_eq rfl) (hb hby at_105) (fun _ _ => ⟨rfl, e13, (by decide : 3 + 0 ≤ _), (by decide : 9 + 0 ≤ _)⟩)
        dsimp only [Pt.U, Pt.locs, Pt.cells, Pt.slots] at X14 l14 y14 z14 st14 hQ14
        subst l14 y14 z14
        obtain ⟨rfl, N14q, K14q, c14_0, c14_1⟩ := hQ14
        have N14 := Fr.app N8 N14q
        obtain ⟨lc14, X14, N14⟩ : ∃ lc, Stand p l e room_1 s m #[(.int i0), (.int i1), (.int i2), (.int i3)] below meth c T14 lc 3 9 ∧ Fr n0 lc := ⟨_, X14, N14⟩
        have E_b1 := E_b1.keep K14q
        have F_b1_settled := F_b1_settled.keep K14q (ninS ne_b1_b3 nin0)
        have E_b5 := E_b5.keep K14q
        have F_b5_settled := F_b5_settled.keep K14q (ninS (Ne.symm ne_b3_b5) nin0)
        have E_b3 := c14_0
        have F_b3_settled := c14_1
        have Z14 := Nat.le_trans Z8 K14q.1
        have O14 := O8.keep K14q (allS g_b3 all0)
        refine Go.tr st14 ?_
        show Go p e below Φ T14 (mkF m 108 #[.val (.int i0), .val (.int i1), .val (.int i2), .val (.int i3), .val (.ref b1), .val (.ref b3), .val (.ref b5), .val (.int x33), .val (.int x40), .val (.int x47), .val (.int v62), .unset, .unset, .unset, .unset, .unset, .unset, .unset] [])
        refine Go.of (fun t k => XS.goto X14.here hx rfl (pc0 := 108) (pc' := 125) rfl (hb hby at_108) (by decide) (by decide) k) ?_
        show Go p e below Φ T14 (mkF m 125 #[.val (.int i0), .val (.int i1), .val (.int i2), .val (.int i3), .val (.ref b1), .val (.ref b3), .val (.ref b5), .val (.int x33), .val (.int x40), .val (.int x47), .val (.int v62), .unset, .unset, .unset, .unset, .unset, .unset, .unset] [])
        exact j125_11 _ _ _ (X14.more (by decide) (by decide)) rfl N14 Z14 O14 _ (by rw [if_neg hc81, if_pos hc97]) E_b1 F_b1_settled E_b3 F_b3_settled E_b5 F_b5_settled
      · refine Go.of (fun t k => XS.icmpYes X8.here hx rfl (pc0 := 97) (pc' := 111) rfl (hb hby at_97) rfl (XT.ii_ne_t hc97) (by decide) (by decide) k) ?_
        show Go p e below Φ T8 (mkF m 111 #[.val (.int i0), .val (.int i1), .val (.int i2), .val (.int i3), .val (.ref b1), .val (.ref b3), .val (.ref b5), .val (.int x33), .val (.int x40), .val (.int x47), .val (.int v62), .unset, .unset, .unset, .unset, .unset, .unset, .unset] [])
        refine Go.of (fun t k => XS.iload X8.here hx rfl (hb hby at_111) rfl  k) ?_
        show Go p e below Φ T8 (mkF m 113 #[.val (.int i0), .val (.int i1), .val (.int i2), .val (.int i3), .val (.ref b1), .val (.ref b3), .val (.ref b5), .val (.int x33), .val (.int x40), .val (.int x47), .val (.int v62), .unset, .unset, .unset, .unset, .unset, .unset, .unset] [(.int x40)])
        refine Go.of (fun t k => XS.iconst X8.here hx rfl (hb hby at_113) k) ?_
        show Go p e below Φ T8 (mkF m 114 #[.val (.int i0), .val (.int i1), .val (.int i2), .val (.int i3), .val (.ref b1), .val (.ref b3), .val (.ref b5), .val (.int x33), .val (.int x40), .val (.int x47), .val (.int v62), .unset, .unset, .unset, .unset, .unset, .unset, .unset] [(.int (3 : Int32)), (.int x40)])
        by_cases hc114 : x40 = (3 : Int32)
        · refine Go.of (fun t k => XS.icmpNo X8.here hx rfl (hb hby at_114) rfl (XT.ii_ne_f hc114) k) ?_
          show Go p e below Φ T8 (mkF m 117 #[.val (.int i0), .val (.int i1), .val (.int i2), .val (.int i3), .val (.ref b1), .val (.ref b3), .val (.ref b5), .val (.int x33), .val (.int x40), .val (.int x47), .val (.int v62), .unset, .unset, .unset, .unset, .unset, .unset, .unset] [])
          refine Go.of (fun t k => XS.aload X8.here hx rfl (hb hby at_117) rfl rfl  k) ?_
          show Go p e below Φ T8 (mkF m 119 #[.val (.int i0), .val (.int i1), .val (.int i2), .val (.int i3), .val (.ref b1), .val (.ref b3), .val (.ref b5), .val (.int x33), .val (.int x40), .val (.int x47), .val (.int v62), .unset, .unset, .unset, .unset, .unset, .unset, .unset] [(.ref b3)])
          obtain ⟨T15, X15, e15, st15⟩ := getS2 X8 hx hZ hown (host := "") (Or.inl (hw _ (List.mem_of_getElem? (i := 33) rfl))) Via.refl e8 (S_INT.ext O8.2) (g := (mkF m 119 #[.val (.int i0), .val (.int i1), .val (.int i2), .val (.int i3), .val (.ref b1), .val (.ref b3), .val (.ref b5), .val (.int x33), .val (.int x40), .val (.int x47), .val (.int v62), .unset, .unset, .unset, .unset, .unset, .unset, .unset] [(.ref b3)])) rfl (hb hby at_119)
          refine Go.of st15 ?_
          show Go p e below Φ T15 (mkF m 122 #[.val (.int i0), .val (.int i1), .val (.int i2), .val (.int i3), .val (.ref b1), .val (.ref b3), .val (.ref b5), .val (.int x33), .val (.int x40), .val (.int x47), .val (.int v62), .unset, .unset, .unset, .unset, .unset, .unset, .unset] [(.ref sI), (.ref b3)])
          obtain ⟨cq16, kq16, q16a, q16b, q16c⟩ := isOf hZ e15 E_b3
          obtain ⟨_, _, ⟨T16, L16, k16, n16⟩, -, X16, ⟨Lc16, hQ16, l16, y16, z16⟩, st16⟩ := X15.virtualBack hx (y := (⟨"com/example/minnow/minnow/typing/Type$Variable", "settle", "(Lcom/example/minnow/minnow/typing/Type;)V"⟩ : MethodName)) (z := (⟨"com/example/minnow/minnow/typing/Type$Variable", "settle", "(Lcom/example/minnow/minnow/typing/Type;)V"⟩ : MethodName)) hown (mvT hZ (hw _ (List.mem_of_getElem? (i := 11) rfl))) (mvT hZ (hw _ (List.mem_of_getElem? (i := 12) rfl))) (notFace_of_selects (args := #[]) (mvT hZ (hw _ (List.mem_of_getElem? (i := 14) rfl)))) (mvT hZ (hw _ (List.mem_of_getElem? (i := 14) rfl))) (mvT hZ (hw _ (List.mem_of_getElem? (i := 13) rfl))) (by decide) (backOf (W := 0) (rm3 l Z a0 hw [] b3 sI .null h8 n0 Z8 F_b3_settled E_b3 g_b3) hZ (hw _ (List.mem_of_getElem? (i := 15) rfl)) (hw _ (List.mem_of_getElem? (i := 2) rfl)) (by decide) (by decide)) q16a q16c (g := (mkF m 122 #[.val (.int i0), .val (.int i1), .val (.int i2), .val (.int i3), .val (.ref b1), .val (.ref b3), .val (.ref b5), .val (.int x33), .val (.int x40), .val (.int x47), .val (.int v62), .unset, .unset, .unset, .unset, .unset, .unset, .unset] [(.ref sI), (.ref b3)])) rfl (by rw [hml]; rfl) (Steps.refl _) (argsL := [(.ref sI)]) (rest := []) (lenOf own_pd2 rfl) rfl (by show 2 * 0 + _ ≤ _; exact Nat.le_of_eq rfl) (hb hby at_122) (fun _ _ => ⟨rfl, e15, (by decide : 3 + 0 ≤ _), (by decide : 9 + 0 ≤ _)⟩)
          dsimp only [Pt.U, Pt.locs, Pt.cells, Pt.slots] at X16 l16 y16 z16 st16 hQ16
          subst l16 y16 z16
          obtain ⟨rfl, N16q, K16q, c16_0, c16_1⟩ := hQ16
          have N16 := Fr.app N8 N16q
          obtain ⟨lc16, X16, N16⟩ : ∃ lc, Stand p l e room_1 s m #[(.int i0), (.int i1), (.int i2), (.int i3)] below meth c T16 lc 3 9 ∧ Fr n0 lc := ⟨_, X16, N16⟩
          have E_b1 := E_b1.keep K16q
          have F_b1_settled := F_b1_settled.keep K16q (ninS ne_b1_b3 nin0)
          have E_b5 := E_b5.keep K16q
          have F_b5_settled := F_b5_settled.keep K16q (ninS (Ne.symm ne_b3_b5) nin0)
          have E_b3 := c16_0
          have F_b3_settled := c16_1
          have Z16 := Nat.le_trans Z8 K16q.1
          have O16 := O8.keep K16q (allS g_b3 all0)
          refine Go.tr st16 ?_
          show Go p e below Φ T16 (mkF m 125 #[.val (.int i0), .val (.int i1), .val (.int i2), .val (.int i3), .val (.ref b1), .val (.ref b3), .val (.ref b5), .val (.int x33), .val (.int x40), .val (.int x47), .val (.int v62), .unset, .unset, .unset, .unset, .unset, .unset, .unset] [])
          exact j125_11 _ _ _ (X16.more (by decide) (by decide)) rfl N16 Z16 O16 _ (by rw [if_neg hc81, if_neg hc97, if_pos hc114]) E_b1 F_b1_settled E_b3 F_b3_settled E_b5 F_b5_settled
        · refine Go.of (fun t k => XS.icmpYes X8.here hx rfl (pc0 := 114) (pc' := 125) rfl (hb hby at_114) rfl (XT.ii_ne_t hc114) (by decide) (by decide) k) ?_
          show Go p e below Φ T8 (mkF m 125 #[.val (.int i0), .val (.int i1), .val (.int i2), .val (.int i3), .val (.ref b1), .val (.ref b3), .val (.ref b5), .val (.int x33), .val (.int x40), .val (.int x47), .val (.int v62), .unset, .unset, .unset, .unset, .unset, .unset, .unset] [])
          exact j125_11 _ _ _ (X8.more (by decide) (by decide)) e8 N8 Z8 O8 _ (by rw [if_neg hc81, if_neg hc97, if_neg hc114]) E_b1 F_b1_settled E_b3 F_b3_settled E_b5 F_b5_settled
  intro T11 h11 lc11 X11 e11 N11 Z11 O11 u125_b3 hu125_b3 E_b1 F_b1_settled E_b3 F_b3_settled E_b5 F_b5_settled
  have hu125_b3r : u125_b3.isRef = true := by rw [hu125_b3]; (repeat' split) <;> first | rfl | assumption
  show Go p e below Φ T11 (mkF m 125 #[.val (.int i0), .val (.int i1), .val (.int i2), .val (.int i3), .val (.ref b1), .val (.ref b3), .val (.ref b5), .val (.int x33), .val (.int x40), .val (.int x47), .val (.int v62), .unset, .unset, .unset, .unset, .unset, .unset, .unset] [])
  refine Go.of (fun t k => XS.iload X11.here hx rfl (hb hby at_125) rfl  k) ?_
  show Go p e below Φ T11 (mkF m 127 #[.val (.int i0), .val (.int i1), .val (.int i2), .val (.int i3), .val (.ref b1), .val (.ref b3), .val (.ref b5), .val (.int x33), .val (.int x40), .val (.int x47), .val (.int v62), .unset, .unset, .unset, .unset, .unset, .unset, .unset] [(.int x33)])
  refine Go.of (fun t k => XS.iconst X11.here hx rfl (hb hby at_127) k) ?_
  show Go p e below Φ T11 (mkF m 128 #[.val (.int i0), .val (.int i1), .val (.int i2), .val (.int i3), .val (.ref b1), .val (.ref b3), .val (.ref b5), .val (.int x33), .val (.int x40), .val (.int x47), .val (.int v62), .unset, .unset, .unset, .unset, .unset, .unset, .unset] [(.int (1 : Int32)), (.int x33)])
  suffices j171_17 : ∀ (T17 : State) (h17 : Heap) (lc17 : List Loc), Stand p l e room_1 s m #[(.int i0), (.int i1), (.int i2), (.int i3)] below meth c T17 lc17 3 9 → T17.heap = h17 → Fr n0 lc17 → n0 ≤ h17.size → Old Z n0 h17 → ∀ u171_b1 : Value, u171_b1 = (if x33 = (1 : Int32) then (.ref b3) else (if x33 = (2 : Int32) then (.ref sI) else (if x33 = (3 : Int32) then (.ref b5) else .null))) → (Exa Z h17 b1 "com/example/minnow/minnow/typing/Type$Variable") → (Fld Z h17 b1 "com/example/minnow/minnow/typing/Type$Variable" "settled" "Lcom/example/minnow/minnow/typing/Type;" u171_b1) → (Exa Z h17 b3 "com/example/minnow/minnow/typing/Type$Variable") → (Fld Z h17 b3 "com/example/minnow/minnow/typing/Type$Variable" "settled" "Lcom/example/minnow/minnow/typing/Type;" u125_b3) → (Exa Z h17 b5 "com/example/minnow/minnow/typing/Type$Variable") → (Fld Z h17 b5 "com/example/minnow/minnow/typing/Type$Variable" "settled" "Lcom/example/minnow/minnow/typing/Type;" u78_b5) → Go p e below Φ T17 (mkF m 171 #[.val (.int i0), .val (.int i1), .val (.int i2), .val (.int i3), .val (.ref b1), .val (.ref b3), .val (.ref b5), .val (.int x33), .val (.int x40), .val (.int x47), .val (.int v62), .unset, .unset, .unset, .unset, .unset, .unset, .unset] []) by
    by_cases hc128 : x33 = (1 : Int32)
    · refine Go.of (fun t k => XS.icmpNo X11.here hx rfl (hb hby at_128) rfl (XT.ii_ne_f hc128) k) ?_
      show Go p e below Φ T11 (mkF m 131 #[.val (.int i0), .val (.int i1), .val (.int i2), .val (.int i3), .val (.ref b1), .val (.ref b3), .val (.ref b5), .val (.int x33), .val (.int x40), .val (.int x47), .val (.int v62), .unset, .unset, .unset, .unset, .unset, .unset, .unset] [])
      refine Go.of (fun t k => XS.aload X11.here hx rfl (hb hby at_131) rfl rfl  k) ?_
      show Go p e below Φ T11 (mkF m 133 #[.val (.int i0), .val (.int i1), .val (.int i2), .val (.int i3), .val (.ref b1), .val (.ref b3), .val (.ref b5), .val (.int x33), .val (.int x40), .val (.int x47), .val (.int v62), .unset, .unset, .unset, .unset, .unset, .unset, .unset] [(.ref b1)])
      refine Go.of (fun t k => XS.aload X11.here hx rfl (hb hby at_133) rfl rfl  k) ?_
      show Go p e below Φ T11 (mkF m 135 #[.val (.int i0), .val (.int i1), .val (.int i2), .val (.int i3), .val (.ref b1), .val (.ref b3), .val (.ref b5), .val (.int x33), .val (.int x40), .val (.int x47), .val (.int v62), .unset, .unset, .unset, .unset, .unset, .unset, .unset] [(.ref b3), (.ref b1)])
      obtain ⟨cq18, kq18, q18a, q18b, q18c⟩ := isOf hZ e11 E_b1
      obtain ⟨_, _, ⟨T18, L18, k18, n18⟩, -, X18, ⟨Lc18, hQ18, l18, y18, z18⟩, st18⟩ := X11.virtualBack hx (y := (⟨"com/example/minnow/minnow/typing/Type$Variable", "settle", "(Lcom/example/minnow/minnow/typing/Type;)V"⟩ : MethodName)) (z := (⟨"com/example/minnow/minnow/typing/Type$Variable", "settle", "(Lcom/example/minnow/minnow/typing/Type;)V"⟩ : MethodName)) hown (mvT hZ (hw _ (List.mem_of_getElem? (i := 11) rfl))) (mvT hZ (hw _ (List.mem_of_getElem? (i := 12) rfl))) (notFace_of_selects (args := #[]) (mvT hZ (hw _ (List.mem_of_getElem? (i := 14) rfl)))) (mvT hZ (hw _ (List.mem_of_getElem? (i := 14) rfl))) (mvT hZ (hw _ (List.mem_of_getElem? (i := 13) rfl))) (by decide) (backOf (W := 0) (rm3 l Z a0 hw [] b1 b3 .null h11 n0 Z11 F_b1_settled E_b1 g_b1) hZ (hw _ (List.mem_of_getElem? (i := 15) rfl)) (hw _ (List.mem_of_getElem? (i := 2) rfl)) (by decide) (by decide)) q18a q18c (g := (mkF m 135 #[.val (.int i0), .val (.int i1), .val (.int i2), .val (.int i3), .val (.ref b1), .val (.ref b3), .val (.ref b5), .val (.int x33), .val (.int x40), .val (.int x47), .val (.int v62), .unset, .unset, .unset, .unset, .unset, .unset, .unset] [(.ref b3), (.ref b1)])) rfl (by rw [hml]; rfl) (Steps.refl _) (argsL := [(.ref b3)]) (rest := []) (lenOf own_pd2 rfl) rfl (by show 2 * 0 + _ ≤ _; exact Nat.le_of_eq rfl) (hb hby at_135) (fun _ _ => ⟨rfl, e11, (by decide : 3 + 0 ≤ _), (by decide : 9 + 0 ≤ _)⟩)
      dsimp only [Pt.U, Pt.locs, Pt.cells, Pt.slots] at X18 l18 y18 z18 st18 hQ18
      subst l18 y18 z18
      obtain ⟨rfl, N18q, K18q, c18_0, c18_1⟩ := hQ18
      have N18 := Fr.app N11 N18q
      obtain ⟨lc18, X18, N18⟩ : ∃ lc, Stand p l e room_1 s m #[(.int i0), (.int i1), (.int i2), (.int i3)] below meth c T18 lc 3 9 ∧ Fr n0 lc := ⟨_, X18, N18⟩
      have E_b3 := E_b3.keep K18q
      have F_b3_settled := F_b3_settled.keep K18q (ninS (Ne.symm ne_b1_b3) nin0)
      have E_b5 := E_b5.keep K18q
      have F_b5_settled := F_b5_settled.keep K18q (ninS (Ne.symm ne_b1_b5) nin0)
      have E_b1 := c18_0
      have F_b1_settled := c18_1
      have Z18 := Nat.le_trans Z11 K18q.1
      have O18 := O11.keep K18q (allS g_b1 all0)
      refine Go.tr st18 ?_
      show Go p e below Φ T18 (mkF m 138 #[.val (.int i0), .val (.int i1), .val (.int i2), .val (.int i3), .val (.ref b1), .val (.ref b3), .val (.ref b5), .val (.int x33), .val (.int x40), .val (.int x47), .val (.int v62), .unset, .unset, .unset, .unset, .unset, .unset, .unset] [])
      refine Go.of (fun t k => XS.goto X18.here hx rfl (pc0 := 138) (pc' := 171) rfl (hb hby at_138) (by decide) (by decide) k) ?_
      show Go p e below Φ T18 (mkF m 171 #[.val (.int i0), .val (.int i1), .val (.int i2), .val (.int i3), .val (.ref b1), .val (.ref b3), .val (.ref b5), .val (.int x33), .val (.int x40), .val (.int x47), .val (.int v62), .unset, .unset, .unset, .unset, .unset, .unset, .unset] [])
      exact j171_17 _ _ _ (X18.more (by decide) (by decide)) rfl N18 Z18 O18 _ (by rw [if_pos hc128]) E_b1 F_b1_settled E_b3 F_b3_settled E_b5 F_b5_settled
    · refine Go.of (fun t k => XS.icmpYes X11.here hx rfl (pc0 := 128) (pc' := 141) rfl (hb hby at_128) rfl (XT.ii_ne_t hc128) (by decide) (by decide) k) ?_
      show Go p e below Φ T11 (mkF m 141 #[.val (.int i0), .val (.int i1), .val (.int i2), .val (.int i3), .val (.ref b1), .val (.ref b3), .val (.ref b5), .val (.int x33), .val (.int x40), .val (.int x47), .val (.int v62), .unset, .unset, .unset, .unset, .unset, .unset, .unset] [])
      refine Go.of (fun t k => XS.iload X11.here hx rfl (hb hby at_141) rfl  k) ?_
      show Go p e below Φ T11 (mkF m 143 #[.val (.int i0), .val (.int i1), .val (.int i2), .val (.int i3), .val (.ref b1), .val (.ref b3), .val (.ref b5), .val (.int x33), .val (.int x40), .val (.int x47), .val (.int v62), .unset, .unset, .unset, .unset, .unset, .unset, .unset] [(.int x33)])
      refine Go.of (fun t k => XS.iconst X11.here hx rfl (hb hby at_143) k) ?_
      show Go p e below Φ T11 (mkF m 144 #[.val (.int i0), .val (.int i1), .val (.int i2), .val (.int i3), .val (.ref b1), .val (.ref b3), .val (.ref b5), .val (.int x33), .val (.int x40), .val (.int x47), .val (.int v62), .unset, .unset, .unset, .unset, .unset, .unset, .unset] [(.int (2 : Int32)), (.int x33)])
      by_cases hc144 : x33 = (2 : Int32)
      · refine Go.of (fun t k => XS.icmpNo X11.here hx rfl (hb hby at_144) rfl (XT.ii_ne_f hc144) k) ?_
        show Go p e below Φ T11 (mkF m 147 #[.val (.int i0), .val (.int i1), .val (.int i2), .val (.int i3), .val (.ref b1), .val (.ref b3), .val (.ref b5), .val (.int x33), .val (.int x40), .val (.int x47), .val (.int v62), .unset, .unset, .unset, .unset, .unset, .unset, .unset] [])
        refine Go.of (fun t k => XS.aload X11.here hx rfl (hb hby at_147) rfl rfl  k) ?_
        show Go p e below Φ T11 (mkF m 149 #[.val (.int i0), .val (.int i1), .val (.int i2), .val (.int i3), .val (.ref b1), .val (.ref b3), .val (.ref b5), .val (.int x33), .val (.int x40), .val (.int x47), .val (.int v62), .unset, .unset, .unset, .unset, .unset, .unset, .unset] [(.ref b1)])
        obtain ⟨T19, X19, e19, st19⟩ := getS2 X11 hx hZ hown (host := "") (Or.inl (hw _ (List.mem_of_getElem? (i := 33) rfl))) Via.refl e11 (S_INT.ext O11.2) (g := (mkF m 149 #[.val (.int i0), .val (.int i1), .val (.int i2), .val (.int i3), .val (.ref b1), .val (.ref b3), .val (.ref b5), .val (.int x33), .val (.int x40), .val (.int x47), .val (.int v62), .unset, .unset, .unset, .unset, .unset, .unset, .unset] [(.ref b1)])) rfl (hb hby at_149)
        refine Go.of st19 ?_
        show Go p e below Φ T19 (mkF m 152 #[.val (.int i0), .val (.int i1), .val (.int i2), .val (.int i3), .val (.ref b1), .val (.ref b3), .val (.ref b5), .val (.int x33), .val (.int x40), .val (.int x47), .val (.int v62), .unset, .unset, .unset, .unset, .unset, .unset, .unset] [(.ref sI), (.ref b1)])
        obtain ⟨cq20, kq20, q20a, q20b, q20c⟩ := isOf hZ e19 E_b1
        obtain ⟨_, _, ⟨T20, L20, k20, n20⟩, -, X20, ⟨Lc20, hQ20, l20, y20, z20⟩, st20⟩ := X19.virtualBack hx (y := (⟨"com/example/minnow/minnow/typing/Type$Variable", "settle", "(Lcom/example/minnow/minnow/typing/Type;)V"⟩ : MethodName)) (z := (⟨"com/example/minnow/minnow/typing/Type$Variable", "settle", "(Lcom/example/minnow/minnow/typing/Type;)V"⟩ : MethodName)) hown (mvT hZ (hw _ (List.mem_of_getElem? (i := 11) rfl))) (mvT hZ (hw _ (List.mem_of_getElem? (i := 12) rfl))) (notFace_of_selects (args := #[]) (mvT hZ (hw _ (List.mem_of_getElem? (i := 14) rfl)))) (mvT hZ (hw _ (List.mem_of_getElem? (i := 14) rfl))) (mvT hZ (hw _ (List.mem_of_getElem? (i := 13) rfl))) (by decide) (backOf (W := 0) (rm3 l Z a0 hw [] b1 sI .null h11 n0 Z11 F_b1_settled E_b1 g_b1) hZ (hw _ (List.mem_of_getElem? (i := 15) rfl)) (hw _ (List.mem_of_getElem? (i := 2) rfl)) (by decide) (by decide)) q20a q20c (g := (mkF m 152 #[.val (.int i0), .val (.int i1), .val (.int i2), .val (.int i3), .val (.ref b1), .val (.ref b3), .val (.ref b5), .val (.int x33), .val (.int x40), .val (.int x47), .val (.int v62), .unset, .unset, .unset, .unset, .unset, .unset, .unset] [(.ref sI), (.ref b1)])) rfl (by rw [hml]; rfl) (Steps.refl _) (argsL := [(.ref sI)]) (rest := []) (lenOf own_pd2 rfl) rfl (by show 2 * 0 + _ ≤ _; exact Nat.le_of_eq rfl) (hb hby at_152) (fun _ _ => ⟨rfl, e19, (by decide : 3 + 0 ≤ _), (by decide : 9 + 0 ≤ _)⟩)
        dsimp only [Pt.U, Pt.locs, Pt.cells, Pt.slots] at X20 l20 y20 z20 st20 hQ20
        subst l20 y20 z20
        obtain ⟨rfl, N20q, K20q, c20_0, c20_1⟩ := hQ20
        have N20 := Fr.app N11 N20q
        obtain ⟨lc20, X20, N20⟩ : ∃ lc, Stand p l e room_1 s m #[(.int i0), (.int i1), (.int i2), (.int i3)] below meth c T20 lc 3 9 ∧ Fr n0 lc := ⟨_, X20, N20⟩
        have E_b3 := E_b3.keep K20q
        have F_b3_settled := F_b3_settled.keep K20q (ninS (Ne.symm ne_b1_b3) nin0)
        have E_b5 := E_b5.keep K20q
        have F_b5_settled := F_b5_settled.keep K20q (ninS (Ne.symm ne_b1_b5) nin0)
        have E_b1 := c20_0
        have F_b1_settled := c20_1
        have Z20 := Nat.le_trans Z11 K20q.1
        have O20 := O11.keep K20q (allS g_b1 all0)
        refine Go.tr st20 ?_
        show Go p e below Φ T20 (mkF m 155 #[.val (.int i0), .val (.int i1), .val (.int i2), .val (.int i3), .val (.ref b1), .val (.ref b3), .val (.ref b5), .val (.int x33), .val (.int x40), .val (.int x47), .val (.int v62), .unset, .unset, .unset, .unset, .unset, .unset, .unset] [])
        refine Go.of (fun t k => XS.goto X20.here hx rfl (pc0 := 155) (pc' := 171) rfl (hb hby at_155) (by decide) (by decide) k) ?_
        show Go p e below Φ T20 (mkF m 171 #[.val (.int i0), .val (.int i1), .val (.int i2), .val (.int i3), .val (.ref b1), .val (.ref b3), .val (.ref b5), .val (.int x33), .val (.int x40), .val (.int x47), .val (.int v62), .unset, .unset, .unset, .unset, .unset, .unset, .unset] [])
        exact j171_17 _ _ _ (X20.more (by decide) (by decide)) rfl N20 Z20 O20 _ (by rw [if_neg hc128, if_pos hc144]) E_b1 F_b1_settled E_b3 F_b3_settled E_b5 F_b5_settled
      · refine Go.of (fun t k => XS.icmpYes X11.here hx rfl (pc0 := 144) (pc' := 158) rfl (hb hby at_144) rfl (XT.ii_ne_t hc144) (by decide) (by decide) k) ?_
        show Go p e below Φ T11 (mkF m 158 #[.val (.int i0), .val (.int i1), .val (.int i2), .val (.int i3), .val (.ref b1), .val (.ref b3), .val (.ref b5), .val (.int x33), .val (.int x40), .val (.int x47), .val (.int v62), .unset, .unset, .unset, .unset, .unset, .unset, .unset] [])
        refine Go.of (fun t k => XS.iload X11.here hx rfl (hb hby at_158) rfl  k) ?_
        show Go p e below Φ T11 (mkF m 160 #[.val (.int i0), .val (.int i1), .val (.int i2), .val (.int i3), .val (.ref b1), .val (.ref b3), .val (.ref b5), .val (.int x33), .val (.int x40), .val (.int x47), .val (.int v62), .unset, .unset, .unset, .unset, .unset, .unset, .unset] [(.int x33)])
        refine Go.of (fun t k => XS.iconst X11.here hx rfl (hb hby at_160) k) ?_
        show Go p e below Φ T11 (mkF m 161 #[.val (.int i0), .val (.int i1), .val (.int i2), .val (.int i3), .val (.ref b1), .val (.ref b3), .val (.ref b5), .val (.int x33), .val (.int x40), .val (.int x47), .val (.int v62), .unset, .unset, .unset, .unset, .unset, .unset, .unset] [(.int (3 : Int32)), (.int x33)])
        by_cases hc161 : x33 = (3 : Int32)
        · refine Go.of (fun t k => XS.icmpNo X11.here hx rfl (hb hby at_161) rfl (XT.ii_ne_f hc161) k) ?_
          show Go p e below Φ T11 (mkF m 164 #[.val (.int i0), .val (.int i1), .val (.int i2), .val (.int i3), .val (.ref b1), .val (.ref b3), .val (.ref b5), .val (.int x33), .val (.int x40), .val (.int x47), .val (.int v62), .unset, .unset, .unset, .unset, .unset, .unset, .unset] [])
          refine Go.of (fun t k => XS.aload X11.here hx rfl (hb hby at_164) rfl rfl  k) ?_
          show Go p e below Φ T11 (mkF m 166 #[.val (.int i0), .val (.int i1), .val (.int i2), .val (.int i3), .val (.ref b1), .val (.ref b3), .val (.ref b5), .val (.int x33), .val (.int x40), .val (.int x47), .val (.int v62), .unset, .unset, .unset, .unset, .unset, .unset, .unset] [(.ref b1)])
          refine Go.of (fun t k => XS.aload X11.here hx rfl (hb hby at_166) rfl rfl  k) ?_
          show Go p e below Φ T11 (mkF m 168 #[.val (.int i0), .val (.int i1), .val (.int i2), .val (.int i3), .val (.ref b1), .val (.ref b3), .val (.ref b5), .val (.int x33), .val (.int x40), .val (.int x47), .val (.int v62), .unset, .unset, .unset, .unset, .unset, .unset, .unset] [(.ref b5), (.ref b1)])
          obtain ⟨cq21, kq21, q21a, q21b, q21c⟩ := isOf hZ e11 E_b1
          obtain ⟨_, _, ⟨T21, L21, k21, n21⟩, -, X21, ⟨Lc21, hQ21, l21, y21, z21⟩, st21⟩ := X11.virtualBack hx (y := (⟨"com/example/minnow/minnow/typing/Type$Variable", "settle", "(Lcom/example/minnow/minnow/typing/Type;)V"⟩ : MethodName)) (z := (⟨"com/example/minnow/minnow/typing/Type$Variable", "settle", "(Lcom/example/minnow/minnow/typing/Type;)V"⟩ : MethodName)) hown (mvT hZ (hw _ (List.mem_of_getElem? (i := 11) rfl))) (mvT hZ (hw _ (List.mem_of_getElem? (i := 12) rfl))) (notFace_of_selects (args := #[]) (mvT hZ (hw _ (List.mem_of_getElem? (i := 14) rfl)))) (mvT hZ (hw _ (List.mem_of_getElem? (i := 14) rfl))) (mvT hZ (hw _ (List.mem_of_getElem? (i := 13) rfl))) (by decide) (backOf (W := 0) (rm3 l Z a0 hw [] b1 b5 .null h11 n0 Z11 F_b1_settled E_b1 g_b1) hZ (hw _ (List.mem_of_getElem? (i := 15) rfl)) (hw _ (List.mem_of_getElem? (i := 2) rfl)) (by decide) (by decide)) q21a q21c (g := (mkF m 168 #[.val (.int i0), .val (.int i1), .val (.int i2), .val (.int i3), .val (.ref b1), .val (.ref b3), .val (.ref b5), .val (.int x33), .val (.int x40), .val (.int x47), .val (.int v62), .unset, .unset, .unset, .unset, .unset, .unset, .unset] [(.ref b5), (.ref b1)])) rfl (by rw [hml]; rfl) (Steps.refl _) (argsL := [(.ref b5)]) (rest := []) (lenOf own_pd2 rfl) rfl (by show 2 * 0 + _ ≤ _; exact Nat.le_of_eq rfl) (hb hby at_168) (fun _ _ => ⟨rfl, e11, (by decide : 3 + 0 ≤ _), (by decide : 9 + 0 ≤ _)⟩)
          dsimp only [Pt.U, Pt.locs, Pt.cells, Pt.slots] at X21 l21 y21 z21 st21 hQ21
          subst l21 y21 z21
          obtain ⟨rfl, N21q, K21q, c21_0, c21_1⟩ := hQ21
          have N21 := Fr.app N11 N21q
          obtain ⟨lc21, X21, N21⟩ : ∃ lc, Stand p l e room_1 s m #[(.int i0), (.int i1), (.int i2), (.int i3)] below meth c T21 lc 3 9 ∧ Fr n0 lc := ⟨_, X21, N21⟩
          have E_b3 := E_b3.keep K21q
          have F_b3_settled := F_b3_settled.keep K21q (ninS (Ne.symm ne_b1_b3) nin0)
          have E_b5 := E_b5.keep K21q
          have F_b5_settled := F_b5_settled.keep K21q (ninS (Ne.symm ne_b1_b5) nin0)
          have E_b1 := c21_0
          have F_b1_settled := c21_1
          have Z21 := Nat.le_trans Z11 K21q.1
          have O21 := O11.keep K21q (allS g_b1 all0)
          refine Go.tr st21 ?_
          show Go p e below Φ T21 (mkF m 171 #[.val (.int i0), .val (.int i1), .val (.int i2), .val (.int i3), .val (.ref b1), .val (.ref b3), .val (.ref b5), .val (.int x33), .val (.int x40), .val (.int x47), .val (.int v62), .unset, .unset, .unset, .unset, .unset, .unset, .unset] [])
          exact j171_17 _ _ _ (X21.more (by decide) (by decide)) rfl N21 Z21 O21 _ (by rw [if_neg hc128, if_neg hc144, if_pos hc161]) E_b1 F_b1_settled E_b3 F_b3_settled E_b5 F_b5_settled
        · refine Go.of (fun t k => XS.icmpYes X11.here hx rfl (pc0 := 161) (pc' := 171) rfl (hb hby at_161) rfl (XT.ii_ne_t hc161) (by decide) (by decide) k) ?_
          show Go p e below Φ T11 (mkF m 171 #[.val (.int i0), .val (.int i1), .val (.int i2), .val (.int i3), .val (.ref b1), .val (.ref b3), .val (.ref b5), .val (.int x33), .val (.int x40), .val (.int x47), .val (.int v62), .unset, .unset, .unset, .unset, .unset, .unset, .unset] [])
          exact j171_17 _ _ _ (X11.more (by decide) (by decide)) e11 N11 Z11 O11 _ (by rw [if_neg hc128, if_neg hc144, if_neg hc161]) E_b1 F_b1_settled E_b3 F_b3_settled E_b5 F_b5_settled
  intro T17 h17 lc17 X17 e17 N17 Z17 O17 u171_b1 hu171_b1 E_b1 F_b1_settled E_b3 F_b3_settled E_b5 F_b5_settled
  have hu171_b1r : u171_b1.isRef = true := by rw [hu171_b1]; (repeat' split) <;> first | rfl | assumption
  show Go p e below Φ T17 (mkF m 171 #[.val (.int i0), .val (.int i1), .val (.int i2), .val (.int i3), .val (.ref b1), .val (.ref b3), .val (.ref b5), .val (.int x33), .val (.int x40), .val (.int x47), .val (.int v62), .unset, .unset, .unset, .unset, .unset, .unset, .unset] [])
  refine Go.of (fun t k => XS.aload X17.here hx rfl (hb hby at_171) rfl rfl  k) ?_
  show Go p e below Φ T17 (mkF m 173 #[.val (.int i0), .val (.int i1), .val (.int i2), .val (.int i3), .val (.ref b1), .val (.ref b3), .val (.ref b5), .val (.int x33), .val (.int x40), .val (.int x47), .val (.int v62), .unset, .unset, .unset, .unset, .unset, .unset, .unset] [(.ref b5)])
  refine Go.of (fun t k => XS.astore X17.here hx rfl (hb hby at_173) rfl rfl (l' := #[.val (.int i0), .val (.int i1), .val (.int i2), .val (.int i3), .val (.ref b1), .val (.ref b3), .val (.ref b5), .val (.int x33), .val (.int x40), .val (.int x47), .val (.int v62), .val (.ref b5), .unset, .unset, .unset, .unset, .unset, .unset]) rfl k) ?_
  show Go p e below Φ T17 (mkF m 175 #[.val (.int i0), .val (.int i1), .val (.int i2), .val (.int i3), .val (.ref b1), .val (.ref b3), .val (.ref b5), .val (.int x33), .val (.int x40), .val (.int x47), .val (.int v62), .val (.ref b5), .unset, .unset, .unset, .unset, .unset, .unset] [])
  refine Go.of (fun t k => XS.iload X17.here hx rfl (hb hby at_175) rfl  k) ?_
  show Go p e below Φ T17 (mkF m 177 #[.val (.int i0), .val (.int i1), .val (.int i2), .val (.int i3), .val (.ref b1), .val (.ref b3), .val (.ref b5), .val (.int x33), .val (.int x40), .val (.int x47), .val (.int v62), .val (.ref b5), .unset, .unset, .unset, .unset, .unset, .unset] [(.int x47)])
  refine Go.of (fun t k => XS.iconst X17.here hx rfl (hb hby at_177) k) ?_
  show Go p e below Φ T17 (mkF m 178 #[.val (.int i0), .val (.int i1), .val (.int i2), .val (.int i3), .val (.ref b1), .val (.ref b3), .val (.ref b5), .val (.int x33), .val (.int x40), .val (.int x47), .val (.int v62), .val (.ref b5), .unset, .unset, .unset, .unset, .unset, .unset] [(.int (1 : Int32)), (.int x47)])
  suffices j186_22 : ∀ T22 : State, Stand p l e room_1 s m #[(.int i0), (.int i1), (.int i2), (.int i3)] below meth c T22 lc17 3 9 → T22.heap = h17 → ∀ v186 : Addr, v186 = (if x47 = (1 : Int32) then sU else b5) → Go p e below Φ T22 (mkF m 186 #[.val (.int i0), .val (.int i1), .val (.int i2), .val (.int i3), .val (.ref b1), .val (.ref b3), .val (.ref b5), .val (.int x33), .val (.int x40), .val (.int x47), .val (.int v62), .val (.ref v186), .unset, .unset, .unset, .unset, .unset, .unset] []) by
    by_cases hc178 : x47 = (1 : Int32)
    · refine Go.of (fun t k => XS.icmpNo X17.here hx rfl (hb hby at_178) rfl (XT.ii_ne_f hc178) k) ?_
      show Go p e below Φ T17 (mkF m 181 #[.val (.int i0), .val (.int i1), .val (.int i2), .val (.int i3), .val (.ref b1), .val (.ref b3), .val (.ref b5), .val (.int x33), .val (.int x40), .val (.int x47), .val (.int v62), .val (.ref b5), .unset, .unset, .unset, .unset, .unset, .unset] [])
      obtain ⟨T23, X23, e23, st23⟩ := getS2 X17 hx hZ hown (host := "") (Or.inl (hw _ (List.mem_of_getElem? (i := 40) rfl))) Via.refl e17 (S_UNIT.ext O17.2) (g := (mkF m 181 #[.val (.int i0), .val (.int i1), .val (.int i2), .val (.int i3), .val (.ref b1), .val (.ref b3), .val (.ref b5), .val (.int x33), .val (.int x40), .val (.int x47), .val (.int v62), .val (.ref b5), .unset, .unset, .unset, .unset, .unset, .unset] [])) rfl (hb hby at_181)
      refine Go.of st23 ?_
      show Go p e below Φ T23 (mkF m 184 #[.val (.int i0), .val (.int i1), .val (.int i2), .val (.int i3), .val (.ref b1), .val (.ref b3), .val (.ref b5), .val (.int x33), .val (.int x40), .val (.int x47), .val (.int v62), .val (.ref b5), .unset, .unset, .unset, .unset, .unset, .unset] [(.ref sU)])
      refine Go.of (fun t k => XS.astore X23.here hx rfl (hb hby at_184) rfl rfl (l' := #[.val (.int i0), .val (.int i1), .val (.int i2), .val (.int i3), .val (.ref b1), .val (.ref b3), .val (.ref b5), .val (.int x33), .val (.int x40), .val (.int x47), .val (.int v62), .val (.ref sU), .unset, .unset, .unset, .unset, .unset, .unset]) rfl k) ?_
      show Go p e below Φ T23 (mkF m 186 #[.val (.int i0), .val (.int i1), .val (.int i2), .val (.int i3), .val (.ref b1), .val (.ref b3), .val (.ref b5), .val (.int x33), .val (.int x40), .val (.int x47), .val (.int v62), .val (.ref sU), .unset, .unset, .unset, .unset, .unset, .unset] [])
      exact j186_22 _ X23 e23 _ (by rw [if_pos hc178])
    · refine Go.of (fun t k => XS.icmpYes X17.here hx rfl (pc0 := 178) (pc' := 186) rfl (hb hby at_178) rfl (XT.ii_ne_t hc178) (by decide) (by decide) k) ?_
      show Go p e below Φ T17 (mkF m 186 #[.val (.int i0), .val (.int i1), .val (.int i2), .val (.int i3), .val (.ref b1), .val (.ref b3), .val (.ref b5), .val (.int x33), .val (.int x40), .val (.int x47), .val (.int v62), .val (.ref b5), .unset, .unset, .unset, .unset, .unset, .unset] [])
      exact j186_22 _ X17 e17 _ (by rw [if_neg hc178])
  intro T22 X22 e22 v186 hv186
  show Go p e below Φ T22 (mkF m 186 #[.val (.int i0), .val (.int i1), .val (.int i2), .val (.int i3), .val (.ref b1), .val (.ref b3), .val (.ref b5), .val (.int x33), .val (.int x40), .val (.int x47), .val (.int v62), .val (.ref v186), .unset, .unset, .unset, .unset, .unset, .unset] [])
  refine Go.of (fun t k => XS.aload X22.here hx rfl (hb hby at_186) rfl rfl  k) ?_
  show Go p e below Φ T22 (mkF m 188 #[.val (.int i0), .val (.int i1), .val (.int i2), .val (.int i3), .val (.ref b1), .val (.ref b3), .val (.ref b5), .val (.int x33), .val (.int x40), .val (.int x47), .val (.int v62), .val (.ref v186), .unset, .unset, .unset, .unset, .unset, .unset] [(.ref b3)])
  refine Go.of (fun t k => XS.astore X22.here hx rfl (hb hby at_188) rfl rfl (l' := #[.val (.int i0), .val (.int i1), .val (.int i2), .val (.int i3), .val (.ref b1), .val (.ref b3), .val (.ref b5), .val (.int x33), .val (.int x40), .val (.int x47), .val (.int v62), .val (.ref v186), .val (.ref b3), .unset, .unset, .unset, .unset, .unset]) rfl k) ?_
  show Go p e below Φ T22 (mkF m 190 #[.val (.int i0), .val (.int i1), .val (.int i2), .val (.int i3), .val (.ref b1), .val (.ref b3), .val (.ref b5), .val (.int x33), .val (.int x40), .val (.int x47), .val (.int v62), .val (.ref v186), .val (.ref b3), .unset, .unset, .unset, .unset, .unset] [])
  refine Go.of (fun t k => XS.iload X22.here hx rfl (hb hby at_190) rfl  k) ?_
  show Go p e below Φ T22 (mkF m 192 #[.val (.int i0), .val (.int i1), .val (.int i2), .val (.int i3), .val (.ref b1), .val (.ref b3), .val (.ref b5), .val (.int x33), .val (.int x40), .val (.int x47), .val (.int v62), .val (.ref v186), .val (.ref b3), .unset, .unset, .unset, .unset, .unset] [(.int x40)])
  refine Go.of (fun t k => XS.iconst X22.here hx rfl (hb hby at_192) k) ?_
  show Go p e below Φ T22 (mkF m 193 #[.val (.int i0), .val (.int i1), .val (.int i2), .val (.int i3), .val (.ref b1), .val (.ref b3), .val (.ref b5), .val (.int x33), .val (.int x40), .val (.int x47), .val (.int v62), .val (.ref v186), .val (.ref b3), .unset, .unset, .unset, .unset, .unset] [(.int (1 : Int32)), (.int x40)])
  suffices j228_24 : ∀ T24 : State, Stand p l e room_1 s m #[(.int i0), (.int i1), (.int i2), (.int i3)] below meth c T24 lc17 3 9 → T24.heap = h17 → ∀ v228 : Addr, v228 = (if x40 = (1 : Int32) then v186 else (if x40 = (2 : Int32) then sB else (if x40 = (3 : Int32) then sI else b3))) → Go p e below Φ T24 (mkF m 228 #[.val (.int i0), .val (.int i1), .val (.int i2), .val (.int i3), .val (.ref b1), .val (.ref b3), .val (.ref b5), .val (.int x33), .val (.int x40), .val (.int x47), .val (.int v62), .val (.ref v186), .val (.ref v228), .unset, .unset, .unset, .unset, .unset] []) by
    by_cases hc193 : x40 = (1 : Int32)
    · refine Go.of (fun t k => XS.icmpNo X22.here hx rfl (hb hby at_193) rfl (XT.ii_ne_f hc193) k) ?_
      show Go p e below Φ T22 (mkF m 196 #[.val (.int i0), .val (.int i1), .val (.int i2), .val (.int i3), .val (.ref b1), .val (.ref b3), .val (.ref b5), .val (.int x33), .val (.int x40), .val (.int x47), .val (.int v62), .val (.ref v186), .val (.ref b3), .unset, .unset, .unset, .unset, .unset] [])
      refine Go.of (fun t k => XS.aload X22.here hx rfl (hb hby at_196) rfl rfl  k) ?_
      show Go p e below Φ T22 (mkF m 198 #[.val (.int i0), .val (.int i1), .val (.int i2), .val (.int i3), .val (.ref b1), .val (.ref b3), .val (.ref b5), .val (.int x33), .val (.int x40), .val (.int x47), .val (.int v62), .val (.ref v186), .val (.ref b3), .unset, .unset, .unset, .unset, .unset] [(.ref v186)])
      refine Go.of (fun t k => XS.astore X22.here hx rfl (hb hby at_198) rfl rfl (l' := #[.val (.int i0), .val (.int i1), .val (.int i2), .val (.int i3), .val (.ref b1), .val (.ref b3), .val (.ref b5), .val (.int x33), .val (.int x40), .val (.int x47), .val (.int v62), .val (.ref v186), .val (.ref v186), .unset, .unset, .unset, .unset, .unset]) rfl k) ?_
      show Go p e below Φ T22 (mkF m 200 #[.val (.int i0), .val (.int i1), .val (.int i2), .val (.int i3), .val (.ref b1), .val (.ref b3), .val (.ref b5), .val (.int x33), .val (.int x40), .val (.int x47), .val (.int v62), .val (.ref v186), .val (.ref v186), .unset, .unset, .unset, .unset, .unset] [])
      refine Go.of (fun t k => XS.goto X22.here hx rfl (pc0 := 200) (pc' := 228) rfl (hb hby at_200) (by decide) (by decide) k) ?_
      show Go p e below Φ T22 (mkF m 228 #[.val (.int i0), .val (.int i1), .val (.int i2), .val (.int i3), .val (.ref b1), .val (.ref b3), .val (.ref b5), .val (.int x33), .val (.int x40), .val (.int x47), .val (.int v62), .val (.ref v186), .val (.ref v186), .unset, .unset, .unset, .unset, .unset] [])
      exact j228_24 _ X22 e22 _ (by rw [if_pos hc193])
    · refine Go.of (fun t k => XS.icmpYes X22.here hx rfl (pc0 := 193) (pc' := 203) rfl (hb hby at_193) rfl (XT.ii_ne_t hc193) (by decide) (by decide) k) ?_
      show Go p e below Φ T22 (mkF m 203 #[.val (.int i0), .val (.int i1), .val (.int i2), .val (.int i3), .val (.ref b1), .val (.ref b3), .val (.ref b5), .val (.int x33), .val (.int x40), .val (.int x47), .val (.int v62), .val (.ref v186), .val (.ref b3), .unset, .unset, .unset, .unset, .unset] [])
      refine Go.of (fun t k => XS.iload X22.here hx rfl (hb hby at_203) rfl  k) ?_
      show Go p e below Φ T22 (mkF m 205 #[.val (.int i0), .val (.int i1), .val (.int i2), .val (.int i3), .val (.ref b1), .val (.ref b3), .val (.ref b5), .val (.int x33), .val (.int x40), .val (.int x47), .val (.int v62), .val (.ref v186), .val (.ref b3), .unset, .unset, .unset, .unset, .unset] [(.int x40)])
      refine Go.of (fun t k => XS.iconst X22.here hx rfl (hb hby at_205) k) ?_
      show Go p e below Φ T22 (mkF m 206 #[.val (.int i0), .val (.int i1), .val (.int i2), .val (.int i3), .val (.ref b1), .val (.ref b3), .val (.ref b5), .val (.int x33), .val (.int x40), .val (.int x47), .val (.int v62), .val (.ref v186), .val (.ref b3), .unset, .unset, .unset, .unset, .unset] [(.int (2 : Int32)), (.int x40)])
      by_cases hc206 : x40 = (2 : Int32)
      · refine Go.of (fun t k => XS.icmpNo X22.here hx rfl (hb hby at_206) rfl (XT.ii_ne_f hc206) k) ?_
        show Go p e below Φ T22 (mkF m 209 #[.val (.int i0), .val (.int i1), .val (.int i2), .val (.int i3), .val (.ref b1), .val (.ref b3), .val (.ref b5), .val (.int x33), .val (.int x40), .val (.int x47), .val (.int v62), .val (.ref v186), .val (.ref b3), .unset, .unset, .unset, .unset, .unset] [])
        obtain ⟨T25, X25, e25, st25⟩ := getS2 X22 hx hZ hown (host := "") (Or.inl (hw _ (List.mem_of_getElem? (i := 30) rfl))) Via.refl e22 (S_BOOL.ext O17.2) (g := (mkF m 209 #[.val (.int i0), .val (.int i1), .val (.int i2), .val (.int i3), .val (.ref b1), .val (.ref b3), .val (.ref b5), .val (.int x33), .val (.int x40), .val (.int x47), .val (.int v62), .val (.ref v186), .val (.ref b3), .unset, .unset, .unset, .unset, .unset] [])) rfl (hb hby at_209)
        refine Go.of st25 ?_
        show Go p e below Φ T25 (mkF m 212 #[.val (.int i0), .val (.int i1), .val (.int i2), .val (.int i3), .val (.ref b1), .val (.ref b3), .val (.ref b5), .val (.int x33), .val (.int x40), .val (.int x47), .val (.int v62), .val (.ref v186), .val (.ref b3), .unset, .unset, .unset, .unset, .unset] [(.ref sB)])
        refine Go.of (fun t k => XS.astore X25.here hx rfl (hb hby at_212) rfl rfl (l' := #[.val (.int i0), .val (.int i1), .val (.int i2), .val (.int i3), .val (.ref b1), .val (.ref b3), .val (.ref b5), .val (.int x33), .val (.int x40), .val (.int x47), .val (.int v62), .val (.ref v186), .val (.ref sB), .unset, .unset, .unset, .unset, .unset]) rfl k) ?_
        show Go p e below Φ T25 (mkF m 214 #[.val (.int i0), .val (.int i1), .val (.int i2), .val (.int i3), .val (.ref b1), .val (.ref b3), .val (.ref b5), .val (.int x33), .val (.int x40), .val (.int x47), .val (.int v62), .val (.ref v186), .val (.ref sB), .unset, .unset, .unset, .unset, .unset] [])
        refine Go.of (fun t k => XS.goto X25.here hx rfl (pc0 := 214) (pc' := 228) rfl (hb hby at_214) (by decide) (by decide) k) ?_
        show Go p e below Φ T25 (mkF m 228 #[.val (.int i0), .val (.int i1), .val (.int i2), .val (.int i3), .val (.ref b1), .val (.ref b3), .val (.ref b5), .val (.int x33), .val (.int x40), .val (.int x47), .val (.int v62), .val (.ref v186), .val (.ref sB), .unset, .unset, .unset, .unset, .unset] [])
        exact j228_24 _ X25 e25 _ (by rw [if_neg hc193, if_pos hc206])
      · refine Go.of (fun t k => XS.icmpYes X22.here hx rfl (pc0 := 206) (pc' := 217) rfl (hb hby at_206) rfl (XT.ii_ne_t hc206) (by decide) (by decide) k) ?_
        show Go p e below Φ T22 (mkF m 217 #[.val (.int i0), .val (.int i1), .val (.int i2), .val (.int i3), .val (.ref b1), .val (.ref b3), .val (.ref b5), .val (.int x33), .val (.int x40), .val (.int x47), .val (.int v62), .val (.ref v186), .val (.ref b3), .unset, .unset, .unset, .unset, .unset] [])
        refine Go.of (fun t k => XS.iload X22.here hx rfl (hb hby at_217) rfl  k) ?_
        show Go p e below Φ T22 (mkF m 219 #[.val (.int i0), .val (.int i1), .val (.int i2), .val (.int i3), .val (.ref b1), .val (.ref b3), .val (.ref b5), .val (.int x33), .val (.int x40), .val (.int x47), .val (.int v62), .val (.ref v186), .val (.ref b3), .unset, .unset, .unset, .unset, .unset] [(.int x40)])
        refine Go.of (fun t k => XS.iconst X22.here hx rfl (hb hby at_219) k) ?_
        show Go p e below Φ T22 (mkF m 220 #[.val (.int i0), .val (.int i1), .val (.int i2), .val (.int i3), .val (.ref b1), .val (.ref b3), .val (.ref b5), .val (.int x33), .val (.int x40), .val (.int x47), .val (.int v62), .val (.ref v186), .val (.ref b3), .unset, .unset, .unset, .unset, .unset] [(.int (3 : Int32)), (.int x40)])
        by_cases hc220 : x40 = (3 : Int32)
        · refine Go.of (fun t k => XS.icmpNo X22.here hx rfl (hb hby at_220) rfl (XT.ii_ne_f hc220) k) ?_
          show Go p e below Φ T22 (mkF m 223 #[.val (.int i0), .val (.int i1), .val (.int i2), .val (.int i3), .val (.ref b1), .val (.ref b3), .val (.ref b5), .val (.int x33), .val (.int x40), .val (.int x47), .val (.int v62), .val (.ref v186), .val (.ref b3), .unset, .unset, .unset, .unset, .unset] [])
          obtain ⟨T26, X26, e26, st26⟩ := getS2 X22 hx hZ hown (host := "") (Or.inl (hw _ (List.mem_of_getElem? (i := 33) rfl))) Via.refl e22 (S_INT.ext O17.2) (g := (mkF m 223 #[.val (.int i0), .val (.int i1), .val (.int i2), .val (.int i3), .val (.ref b1), .val (.ref b3), .val (.ref b5), .val (.int x33), .val (.int x40), .val (.int x47), .val (.int v62), .val (.ref v186), .val (.ref b3), .unset, .unset, .unset, .unset, .unset] [])) rfl (hb hby at_223)
          refine Go.of st26 ?_
          show Go p e below Φ T26 (mkF m 226 #[.val (.int i0), .val (.int i1), .val (.int i2), .val (.int i3), .val (.ref b1), .val (.ref b3), .val (.ref b5), .val (.int x33), .val (.int x40), .val (.int x47), .val (.int v62), .val (.ref v186), .val (.ref b3), .unset, .unset, .unset, .unset, .unset] [(.ref sI)])
          refine Go.of (fun t k => XS.astore X26.here hx rfl (hb hby at_226) rfl rfl (l' := #[.val (.int i0), .val (.int i1), .val (.int i2), .val (.int i3), .val (.ref b1), .val (.ref b3), .val (.ref b5), .val (.int x33), .val (.int x40), .val (.int x47), .val (.int v62), .val (.ref v186), .val (.ref sI), .unset, .unset, .unset, .unset, .unset]) rfl k) ?_
          show Go p e below Φ T26 (mkF m 228 #[.val (.int i0), .val (.int i1), .val (.int i2), .val (.int i3), .val (.ref b1), .val (.ref b3), .val (.ref b5), .val (.int x33), .val (.int x40), .val (.int x47), .val (.int v62), .val (.ref v186), .val (.ref sI), .unset, .unset, .unset, .unset, .unset] [])
          exact j228_24 _ X26 e26 _ (by rw [if_neg hc193, if_neg hc206, if_pos hc220])
        · refine Go.of (fun t k => XS.icmpYes X22.here hx rfl (pc0 := 220) (pc' := 228) rfl (hb hby at_220) rfl (XT.ii_ne_t hc220) (by decide) (by decide) k) ?_
          show Go p e below Φ T22 (mkF m 228 #[.val (.int i0), .val (.int i1), .val (.int i2), .val (.int i3), .val (.ref b1), .val (.ref b3), .val (.ref b5), .val (.int x33), .val (.int x40), .val (.int x47), .val (.int v62), .val (.ref v186), .val (.ref b3), .unset, .unset, .unset, .unset, .unset] [])
          exact j228_24 _ X22 e22 _ (by rw [if_neg hc193, if_neg hc206, if_neg hc220])
  intro T24 X24 e24 v228 hv228
  show Go p e below Φ T24 (mkF m 228 #[.val (.int i0), .val (.int i1), .val (.int i2), .val (.int i3), .val (.ref b1), .val (.ref b3), .val (.ref b5), .val (.int x33), .val (.int x40), .val (.int x47), .val (.int v62), .val (.ref v186), .val (.ref v228), .unset, .unset, .unset, .unset, .unset] [])
  refine Go.of (fun t k => XS.aload X24.here hx rfl (hb hby at_228) rfl rfl  k) ?_
  show Go p e below Φ T24 (mkF m 230 #[.val (.int i0), .val (.int i1), .val (.int i2), .val (.int i3), .val (.ref b1), .val (.ref b3), .val (.ref b5), .val (.int x33), .val (.int x40), .val (.int x47), .val (.int v62), .val (.ref v186), .val (.ref v228), .unset, .unset, .unset, .unset, .unset] [(.ref b1)])
  refine Go.of (fun t k => XS.astore X24.here hx rfl (hb hby at_230) rfl rfl (l' := #[.val (.int i0), .val (.int i1), .val (.int i2), .val (.int i3), .val (.ref b1), .val (.ref b3), .val (.ref b5), .val (.int x33), .val (.int x40), .val (.int x47), .val (.int v62), .val (.ref v186), .val (.ref v228), .val (.ref b1), .unset, .unset, .unset, .unset]) rfl k) ?_
  show Go p e below Φ T24 (mkF m 232 #[.val (.int i0), .val (.int i1), .val (.int i2), .val (.int i3), .val (.ref b1), .val (.ref b3), .val (.ref b5), .val (.int x33), .val (.int x40), .val (.int x47), .val (.int v62), .val (.ref v186), .val (.ref v228), .val (.ref b1), .unset, .unset, .unset, .unset] [])
  refine Go.of (fun t k => XS.iload X24.here hx rfl (hb hby at_232) rfl  k) ?_
  show Go p e below Φ T24 (mkF m 234 #[.val (.int i0), .val (.int i1), .val (.int i2), .val (.int i3), .val (.ref b1), .val (.ref b3), .val (.ref b5), .val (.int x33), .val (.int x40), .val (.int x47), .val (.int v62), .val (.ref v186), .val (.ref v228), .val (.ref b1), .unset, .unset, .unset, .unset] [(.int x33)])
  refine Go.of (fun t k => XS.iconst X24.here hx rfl (hb hby at_234) k) ?_
  show Go p e below Φ T24 (mkF m 235 #[.val (.int i0), .val (.int i1), .val (.int i2), .val (.int i3), .val (.ref b1), .val (.ref b3), .val (.ref b5), .val (.int x33), .val (.int x40), .val (.int x47), .val (.int v62), .val (.ref v186), .val (.ref v228), .val (.ref b1), .unset, .unset, .unset, .unset] [(.int (1 : Int32)), (.int x33)])
  suffices j269_27 : ∀ T27 : State, Stand p l e room_1 s m #[(.int i0), (.int i1), (.int i2), (.int i3)] below meth c T27 lc17 3 9 → T27.heap = h17 → ∀ v269 : Addr, v269 = (if x33 = (1 : Int32) then v228 else (if x33 = (2 : Int32) then sI else (if x33 = (3 : Int32) then v186 else b1))) → Go p e below Φ T27 (mkF m 269 #[.val (.int i0), .val (.int i1), .val (.int i2), .val (.int i3), .val (.ref b1), .val (.ref b3), .val (.ref b5), .val (.int x33), .val (.int x40), .val (.int x47), .val (.int v62), .val (.ref v186), .val (.ref v228), .val (.ref v269), .unset, .unset, .unset, .unset] []) by
    by_cases hc235 : x33 = (1 : Int32)
    · refine Go.of (fun t k => XS.icmpNo X24.here hx rfl (hb hby at_235) rfl (XT.ii_ne_f hc235) k) ?_
      show Go p e below Φ T24 (mkF m 238 #[.val (.int i0), .val (.int i1), .val (.int i2), .val (.int i3), .val (.ref b1), .val (.ref b3), .val (.ref b5), .val (.int x33), .val (.int x40), .val (.int x47), .val (.int v62), .val (.ref v186), .val (.ref v228), .val (.ref b1), .unset, .unset, .unset, .unset] [])
      refine Go.of (fun t k => XS.aload X24.here hx rfl (hb hby at_238) rfl rfl  k) ?_
      show Go p e below Φ T24 (mkF m 240 #[.val (.int i0), .val (.int i1), .val (.int i2), .val (.int i3), .val (.ref b1), .val (.ref b3), .val (.ref b5), .val (.int x33), .val (.int x40), .val (.int x47), .val (.int v62), .val (.ref v186), .val (.ref v228), .val (.ref b1), .unset, .unset, .unset, .unset] [(.ref v228)])
      refine Go.of (fun t k => XS.astore X24.here hx rfl (hb hby at_240) rfl rfl (l' := #[.val (.int i0), .val (.int i1), .val (.int i2), .val (.int i3), .val (.ref b1), .val (.ref b3), .val (.ref b5), .val (.int x33), .val (.int x40), .val (.int x47), .val (.int v62), .val (.ref v186), .val (.ref v228), .val (.ref v228), .unset, .unset, .unset, .unset]) rfl k) ?_
      show Go p e below Φ T24 (mkF m 242 #[.val (.int i0), .val (.int i1), .val (.int i2), .val (.int i3), .val (.ref b1), .val (.ref b3), .val (.ref b5), .val (.int x33), .val (.int x40), .val (.int x47), .val (.int v62), .val (.ref v186), .val (.ref v228), .val (.ref v228), .unset, .unset, .unset, .unset] [])
      refine Go.of (fun t k => XS.goto X24.here hx rfl (pc0 := 242) (pc' := 269) rfl (hb hby at_242) (by decide) (by decide) k) ?_
      show Go p e below Φ T24 (mkF m 269 #[.val (.int i0), .val (.int i1), .val (.int i2), .val (.int i3), .val (.ref b1), .val (.ref b3), .val (.ref b5), .val (.int x33), .val (.int x40), .val (.int x47), .val (.int v62), .val (.ref v186), .val (.ref v228), .val (.ref v228), .unset, .unset, .unset, .unset] [])
      exact j269_27 _ X24 e24 _ (by rw [if_pos hc235])
    · refine Go.of (fun t k => XS.icmpYes X24.here hx rfl (pc0 := 235) (pc' := 245) rfl (hb hby at_235) rfl (XT.ii_ne_t hc235) (by decide) (by decide) k) ?_
      show Go p e below Φ T24 (mkF m 245 #[.val (.int i0), .val (.int i1), .val (.int i2), .val (.int i3), .val (.ref b1), .val (.ref b3), .val (.ref b5), .val (.int x33), .val (.int x40), .val (.int x47), .val (.int v62), .val (.ref v186), .val (.ref v228), .val (.ref b1), .unset, .unset, .unset, .unset] [])
      refine Go.of (fun t k => XS.iload X24.here hx rfl (hb hby at_245) rfl  k) ?_
      show Go p e below Φ T24 (mkF m 247 #[.val (.int i0), .val (.int i1), .val (.int i2), .val (.int i3), .val (.ref b1), .val (.ref b3), .val (.ref b5), .val (.int x33), .val (.int x40), .val (.int x47), .val (.int v62), .val (.ref v186), .val (.ref v228), .val (.ref b1), .unset, .unset, .unset, .unset] [(.int x33)])
      refine Go.of (fun t k => XS.iconst X24.here hx rfl (hb hby at_247) k) ?_
      show Go p e below Φ T24 (mkF m 248 #[.val (.int i0), .val (.int i1), .val (.int i2), .val (.int i3), .val (.ref b1), .val (.ref b3), .val (.ref b5), .val (.int x33), .val (.int x40), .val (.int x47), .val (.int v62), .val (.ref v186), .val (.ref v228), .val (.ref b1), .unset, .unset, .unset, .unset] [(.int (2 : Int32)), (.int x33)])
      by_cases hc248 : x33 = (2 : Int32)
      · refine Go.of (fun t k => XS.icmpNo X24.here hx rfl (hb hby at_248) rfl (XT.ii_ne_f hc248) k) ?_
        show Go p e below Φ T24 (mkF m 251 #[.val (.int i0), .val (.int i1), .val (.int i2), .val (.int i3), .val (.ref b1), .val (.ref b3), .val (.ref b5), .val (.int x33), .val (.int x40), .val (.int x47), .val (.int v62), .val (.ref v186), .val (.ref v228), .val (.ref b1), .unset, .unset, .unset, .unset] [])
        obtain ⟨T28, X28, e28, st28⟩ := getS2 X24 hx hZ hown (host := "") (Or.inl (hw _ (List.mem_of_getElem? (i := 33) rfl))) Via.refl e24 (S_INT.ext O17.2) (g := (mkF m 251 #[.val (.int i0), .val (.int i1), .val (.int i2), .val (.int i3), .val (.ref b1), .val (.ref b3), .val (.ref b5), .val (.int x33), .val (.int x40), .val (.int x47), .val (.int v62), .val (.ref v186), .val (.ref v228), .val (.ref b1), .unset, .unset, .unset, .unset] [])) rfl (hb hby at_251)
        refine Go.of st28 ?_
        show Go p e below Φ T28 (mkF m 254 #[.val (.int i0), .val (.int i1), .val (.int i2), .val (.int i3), .val (.ref b1), .val (.ref b3), .val (.ref b5), .val (.int x33), .val (.int x40), .val (.int x47), .val (.int v62), .val (.ref v186), .val (.ref v228), .val (.ref b1), .unset, .unset, .unset, .unset] [(.ref sI)])
        refine Go.of (fun t k => XS.astore X28.here hx rfl (hb hby at_254) rfl rfl (l' := #[.val (.int i0), .val (.int i1), .val (.int i2), .val (.int i3), .val (.ref b1), .val (.ref b3), .val (.ref b5), .val (.int x33), .val (.int x40), .val (.int x47), .val (.int v62), .val (.ref v186), .val (.ref v228), .val (.ref sI), .unset, .unset, .unset, .unset]) rfl k) ?_
        show Go p e below Φ T28 (mkF m 256 #[.val (.int i0), .val (.int i1), .val (.int i2), .val (.int i3), .val (.ref b1), .val (.ref b3), .val (.ref b5), .val (.int x33), .val (.int x40), .val (.int x47), .val (.int v62), .val (.ref v186), .val (.ref v228), .val (.ref sI), .unset, .unset, .unset, .unset] [])
        refine Go.of (fun t k => XS.goto X28.here hx rfl (pc0 := 256) (pc' := 269) rfl (hb hby at_256) (by decide) (by decide) k) ?_
        show Go p e below Φ T28 (mkF m 269 #[.val (.int i0), .val (.int i1), .val (.int i2), .val (.int i3), .val (.ref b1), .val (.ref b3), .val (.ref b5), .val (.int x33), .val (.int x40), .val (.int x47), .val (.int v62), .val (.ref v186), .val (.ref v228), .val (.ref sI), .unset, .unset, .unset, .unset] [])
        exact j269_27 _ X28 e28 _ (by rw [if_neg hc235, if_pos hc248])
      · refine Go.of (fun t k => XS.icmpYes X24.here hx rfl (pc0 := 248) (pc' := 259) rfl (hb hby at_248) rfl (XT.ii_ne_t hc248) (by decide) (by decide) k) ?_
        show Go p e below Φ T24 (mkF m 259 #[.val (.int i0), .val (.int i1), .val (.int i2), .val (.int i3), .val (.ref b1), .val (.ref b3), .val (.ref b5), .val (.int x33), .val (.int x40), .val (.int x47), .val (.int v62), .val (.ref v186), .val (.ref v228), .val (.ref b1), .unset, .unset, .unset, .unset] [])
        refine Go.of (fun t k => XS.iload X24.here hx rfl (hb hby at_259) rfl  k) ?_
        show Go p e below Φ T24 (mkF m 261 #[.val (.int i0), .val (.int i1), .val (.int i2), .val (.int i3), .val (.ref b1), .val (.ref b3), .val (.ref b5), .val (.int x33), .val (.int x40), .val (.int x47), .val (.int v62), .val (.ref v186), .val (.ref v228), .val (.ref b1), .unset, .unset, .unset, .unset] [(.int x33)])
        refine Go.of (fun t k => XS.iconst X24.here hx rfl (hb hby at_261) k) ?_
        show Go p e below Φ T24 (mkF m 262 #[.val (.int i0), .val (.int i1), .val (.int i2), .val (.int i3), .val (.ref b1), .val (.ref b3), .val (.ref b5), .val (.int x33), .val (.int x40), .val (.int x47), .val (.int v62), .val (.ref v186), .val (.ref v228), .val (.ref b1), .unset, .unset, .unset, .unset] [(.int (3 : Int32)), (.int x33)])
        by_cases hc262 : x33 = (3 : Int32)
        · refine Go.of (fun t k => XS.icmpNo X24.here hx rfl (hb hby at_262) rfl (XT.ii_ne_f hc262) k) ?_
          show Go p e below Φ T24 (mkF m 265 #[.val (.int i0), .val (.int i1), .val (.int i2), .val (.int i3), .val (.ref b1), .val (.ref b3), .val (.ref b5), .val (.int x33), .val (.int x40), .val (.int x47), .val (.int v62), .val (.ref v186), .val (.ref v228), .val (.ref b1), .unset, .unset, .unset, .unset] [])
          refine Go.of (fun t k => XS.aload X24.here hx rfl (hb hby at_265) rfl rfl  k) ?_
          show Go p e below Φ T24 (mkF m 267 #[.val (.int i0), .val (.int i1), .val (.int i2), .val (.int i3), .val (.ref b1), .val (.ref b3), .val (.ref b5), .val (.int x33), .val (.int x40), .val (.int x47), .val (.int v62), .val (.ref v186), .val (.ref v228), .val (.ref b1), .unset, .unset, .unset, .unset] [(.ref v186)])
          refine Go.of (fun t k => XS.astore X24.here hx rfl (hb hby at_267) rfl rfl (l' := #[.val (.int i0), .val (.int i1), .val (.int i2), .val (.int i3), .val (.ref b1), .val (.ref b3), .val (.ref b5), .val (.int x33), .val (.int x40), .val (.int x47), .val (.int v62), .val (.ref v186), .val (.ref v228), .val (.ref v186), .unset, .unset, .unset, .unset]) rfl k) ?_
          show Go p e below Φ T24 (mkF m 269 #[.val (.int i0), .val (.int i1), .val (.int i2), .val (.int i3), .val (.ref b1), .val (.ref b3), .val (.ref b5), .val (.int x33), .val (.int x40), .val (.int x47), .val (.int v62), .val (.ref v186), .val (.ref v228), .val (.ref v186), .unset, .unset, .unset, .unset] [])
          exact j269_27 _ X24 e24 _ (by rw [if_neg hc235, if_neg hc248, if_pos hc262])
        · refine Go.of (fun t k => XS.icmpYes X24.here hx rfl (pc0 := 262) (pc' := 269) rfl (hb hby at_262) rfl (XT.ii_ne_t hc262) (by decide) (by decide) k) ?_
          show Go p e below Φ T24 (mkF m 269 #[.val (.int i0), .val (.int i1), .val (.int i2), .val (.int i3), .val (.ref b1), .val (.ref b3), .val (.ref b5), .val (.int x33), .val (.int x40), .val (.int x47), .val (.int v62), .val (.ref v186), .val (.ref v228), .val (.ref b1), .unset, .unset, .unset, .unset] [])
          exact j269_27 _ X24 e24 _ (by rw [if_neg hc235, if_neg hc248, if_neg hc262])
  intro T27 X27 e27 v269 hv269
  show Go p e below Φ T27 (mkF m 269 #[.val (.int i0), .val (.int i1), .val (.int i2), .val (.int i3), .val (.ref b1), .val (.ref b3), .val (.ref b5), .val (.int x33), .val (.int x40), .val (.int x47), .val (.int v62), .val (.ref v186), .val (.ref v228), .val (.ref v269), .unset, .unset, .unset, .unset] [])
  -- what the three come to
  have nU : sU ≠ b5 := (O17.ne E_sU.lt g_b5)
  have nB : sB ≠ b5 := (O17.ne E_sB.lt g_b5)
  have nI : sI ≠ b5 := (O17.ne E_sI.lt g_b5)
  have mU : sU ≠ b3 := (O17.ne E_sU.lt g_b3)
  have mB : sB ≠ b3 := (O17.ne E_sB.lt g_b3)
  have mI : sI ≠ b3 := (O17.ne E_sI.lt g_b3)
  have okc0 : own_okc sU u78_b5 := own_okc0 hu78_b5
  have okb0 : own_okb b5 sB sI sU u125_b3 := own_okb0 hu125_b3
  have oka0 : own_oka b3 b5 sB sI sU u171_b1 := own_oka0 hu171_b1
  obtain ⟨RA0, hRA0⟩ : ∃ z : Value, z = own_ra b1 b3 b5 u171_b1 u125_b3 u78_b5 := ⟨_, rfl⟩
  obtain ⟨RB0, hRB0⟩ : ∃ z : Value, z = own_rb b3 b5 u125_b3 u78_b5 := ⟨_, rfl⟩
  obtain ⟨RC0, hRC0⟩ : ∃ z : Value, z = own_rc b5 u78_b5 := ⟨_, rfl⟩
  have Ia0 := hRA0.symm
  have Ib0 := hRB0.symm
  have Ic0 := hRC0.symm
  have rA : RA0.isRef = true := by rw [hRA0]; exact own_rar okc0 okb0 oka0
  have rB : RB0.isRef = true := by rw [hRB0]; exact own_rbr okc0 okb0
  have rC : RC0.isRef = true := by rw [hRC0]; exact own_rcr okc0
  have qA : RA0 = .ref v269 := by rw [hRA0]; exact own_eqA b1 b3 b5 sU sB sI x33 x40 x47 v186 v228 v269 u171_b1 u125_b3 u78_b5 hu171_b1 hu125_b3 hu78_b5 hv186 hv228 hv269 nU nB nI mU mB mI ne_b1_b3 ne_b1_b5 ne_b3_b5
  have qB : RB0 = .ref v228 := by rw [hRB0]; exact own_eqB b3 b5 sU sB sI x40 x47 v186 v228 u125_b3 u78_b5 hu125_b3 hu78_b5 hv186 hv228 nU nB nI ne_b3_b5
  have qC : RC0 = .ref v186 := by rw [hRC0]; exact own_eqC b5 sU x47 v186 u78_b5 hu78_b5 hv186
  show Go p e below Φ T27 (mkF m 269 #[.val (.int i0), .val (.int i1), .val (.int i2), .val (.int i3), .val (.ref b1), .val (.ref b3), .val (.ref b5), .val (.int x33), .val (.int x40), .val (.int x47), .val (.int v62), .val (.ref v186), .val (.ref v228), .val (.ref v269), .unset, .unset, .unset, .unset] [])
  refine Go.of (fun t k => XS.iload X27.here hx rfl (hb hby at_269) rfl  k) ?_
  show Go p e below Φ T27 (mkF m 271 #[.val (.int i0), .val (.int i1), .val (.int i2), .val (.int i3), .val (.ref b1), .val (.ref b3), .val (.ref b5), .val (.int x33), .val (.int x40), .val (.int x47), .val (.int v62), .val (.ref v186), .val (.ref v228), .val (.ref v269), .unset, .unset, .unset, .unset] [(.int v62)])
  by_cases hc271 : v62 = (0 : Int32)
  · refine Go.of (fun t k => XS.ifYes X27.here hx rfl (pc0 := 271) (pc' := 291) rfl (hb hby at_271) rfl (XT.i0_eq_t hc271) (by decide) (by decide) k) ?_
    show Go p e below Φ T27 (mkF m 291 #[.val (.int i0), .val (.int i1), .val (.int i2), .val (.int i3), .val (.ref b1), .val (.ref b3), .val (.ref b5), .val (.int x33), .val (.int x40), .val (.int x47), .val (.int v62), .val (.ref v186), .val (.ref v228), .val (.ref v269), .unset, .unset, .unset, .unset] [])
    refine Go.of (fun t k => XS.aload X27.here hx rfl (hb hby at_291) rfl rfl  k) ?_
    show Go p e below Φ T27 (mkF m 293 #[.val (.int i0), .val (.int i1), .val (.int i2), .val (.int i3), .val (.ref b1), .val (.ref b3), .val (.ref b5), .val (.int x33), .val (.int x40), .val (.int x47), .val (.int v62), .val (.ref v186), .val (.ref v228), .val (.ref v269), .unset, .unset, .unset, .unset] [(.ref b1)])
    obtain ⟨cq29, kq29, q29a, q29b, q29c⟩ := isOf hZ e27 E_b1
    obtain ⟨_, _, ⟨T29, L29, k29, n29⟩, -, X29, ⟨Lc29, hQ29, l29, y29, z29⟩, st29⟩ := X27.virtualBack hx (y := (⟨"com/example/minnow/minnow/typing/Type$Variable", "resolved", "()Lcom/example/minnow/minnow/typing/Type;"⟩ : MethodName)) (z := (⟨"com/example/minnow/minnow/typing/Type$Variable", "resolved", "()Lcom/example/minnow/minnow/typing/Type;"⟩ : MethodName)) hown (mvT hZ (hw _ (List.mem_of_getElem? (i := 18) rfl))) (mvT hZ (hw _ (List.mem_of_getElem? (i := 19) rfl))) (notFace_of_selects (args := #[]) (mvT hZ (hw _ (List.mem_of_getElem? (i := 21) rfl)))) (mvT hZ (hw _ (List.mem_of_getElem? (i := 21) rfl))) (mvT hZ (hw _ (List.mem_of_getElem? (i := 20) rfl))) (by decide) (backOf (W := 0) (rm42 l Z a0 hw [] b1 b3 b5 sU sB sI u171_b1 u125_b3 u78_b5 h17 n0 Z17 F_b1_settled F_b3_settled F_b5_settled E_b1 E_b3 E_b5 g_b1 g_b3 g_b5 ne_b1_b3 ne_b1_b5 ne_b3_b5 (E_sU.ext O17.2) (E_sB.ext O17.2) (E_sI.ext O17.2) nU nB nI mU mB mI okc0 okb0 oka0) hZ (hw _ (List.mem_of_getElem? (i := 22) rfl)) (hw _ (List.mem_of_getElem? (i := 2) rfl)) (by decide) (by decide)) q29a q29c (g := (mkF m 293 #[.val (.int i0), .val (.int i1), .val (.int i2), .val (.int i3), .val (.ref b1), .val (.ref b3), .val (.ref b5), .val (.int x33), .val (.int x40), .val (.int x47), .val (.int v62), .val (.ref v186), .val (.ref v228), .val (.ref v269), .unset, .unset, .unset, .unset] [(.ref b1)])) rfl (by rw [hml]; rfl) (Steps.refl _) (argsL := []) (rest := []) (lenOf own_pd0 rfl) rfl (by show 2 * 0 + _ ≤ _; exact Nat.le_of_eq rfl) (hb hby at_293) (fun _ _ => ⟨rfl, e27, (by decide : 3 + 0 ≤ _), (by decide : 9 + 0 ≤ _)⟩)
    dsimp only [Pt.U, Pt.locs, Pt.cells, Pt.slots] at X29 l29 y29 z29 st29 hQ29
    subst l29 y29 z29
    obtain ⟨rfl, N29q, K29q, cE29_0, cE29_1, cE29_2, cF29_0, cF29_1, cF29_2⟩ := hQ29
    have N29 := Fr.app N17 N29q
    obtain ⟨lc29, X29, N29⟩ : ∃ lc, Stand p l e room_1 s m #[(.int i0), (.int i1), (.int i2), (.int i3)] below meth c T29 lc 3 9 ∧ Fr n0 lc := ⟨_, X29, N29⟩
    have E_b1 := E_b1.keep K29q
    have E_b3 := E_b3.keep K29q
    have E_b5 := E_b5.keep K29q
    have Z29 := Nat.le_trans Z17 K29q.1
    have O29 := O17.keep K29q (allS g_b1 (allS g_b3 (allS g_b5 all0)))
    have E_b1 := cE29_0
    have F_b1_settled := cF29_0
    have E_b3 := cE29_1
    have F_b3_settled := cF29_1
    have E_b5 := cE29_2
    have F_b5_settled := cF29_2
    have okb29 := own_alAB okc0 okb0 (ua := u171_b1) (ob := b3)
    have oka29 := own_alAA okc0 okb0 oka0
    have Ia29 := (own_invAA b1 okc0 okb0 oka0 nU nB nI mU mB mI ne_b1_b3 ne_b1_b5 ne_b3_b5).trans Ia0
    have Ib29 := (own_invAB b1 okc0 okb0 oka0 nU nB nI mU mB mI ne_b1_b3 ne_b1_b5 ne_b3_b5).trans Ib0
    refine Go.tr st29 ?_
    show Go p e below Φ T29 (mkF m 296 #[.val (.int i0), .val (.int i1), .val (.int i2), .val (.int i3), .val (.ref b1), .val (.ref b3), .val (.ref b5), .val (.int x33), .val (.int x40), .val (.int x47), .val (.int v62), .val (.ref v186), .val (.ref v228), .val (.ref v269), .unset, .unset, .unset, .unset] [(own_ra b1 b3 b5 u171_b1 u125_b3 u78_b5)])
    rw [Ia0]
    show Go p e below Φ T29 (mkF m 296 #[.val (.int i0), .val (.int i1), .val (.int i2), .val (.int i3), .val (.ref b1), .val (.ref b3), .val (.ref b5), .val (.int x33), .val (.int x40), .val (.int x47), .val (.int v62), .val (.ref v186), .val (.ref v228), .val (.ref v269), .unset, .unset, .unset, .unset] [RA0])
    refine Go.of (fun t k => XS.astore X29.here hx rfl (hb hby at_296) rfl rA (l' := #[.val (.int i0), .val (.int i1), .val (.int i2), .val (.int i3), .val (.ref b1), .val (.ref b3), .val (.ref b5), .val (.int x33), .val (.int x40), .val (.int x47), .val (.int v62), .val (.ref v186), .val (.ref v228), .val (.ref v269), .val RA0, .unset, .unset, .unset]) (XS.store1 rfl (Or.inl rfl) (XT.cat1 rA)) k) ?_
    show Go p e below Φ T29 (mkF m 298 #[.val (.int i0), .val (.int i1), .val (.int i2), .val (.int i3), .val (.ref b1), .val (.ref b3), .val (.ref b5), .val (.int x33), .val (.int x40), .val (.int x47), .val (.int v62), .val (.ref v186), .val (.ref v228), .val (.ref v269), .val RA0, .unset, .unset, .unset] [])
    refine Go.of (fun t k => XS.aload X29.here hx rfl (hb hby at_298) rfl rfl  k) ?_
    show Go p e below Φ T29 (mkF m 300 #[.val (.int i0), .val (.int i1), .val (.int i2), .val (.int i3), .val (.ref b1), .val (.ref b3), .val (.ref b5), .val (.int x33), .val (.int x40), .val (.int x47), .val (.int v62), .val (.ref v186), .val (.ref v228), .val (.ref v269), .val RA0, .unset, .unset, .unset] [(.ref b3)])
    obtain ⟨cq30, kq30, q30a, q30b, q30c⟩ := isOf hZ rfl E_b3
    obtain ⟨_, _, ⟨T30, L30, k30, n30⟩, -, X30, ⟨Lc30, hQ30, l30, y30, z30⟩, st30⟩ := X29.virtualBack hx (y := (⟨"com/example/minnow/minnow/typing/Type$Variable", "resolved", "()Lcom/example/minnow/minnow/typing/Type;"⟩ : MethodName)) (z := (⟨"com/example/minnow/minnow/typing/Type$Variable", "resolved", "()Lcom/example/minnow/minnow/typing/Type;"⟩ : MethodName)) hown (mvT hZ (hw _ (List.mem_of_getElem? (i := 18) rfl))) (mvT hZ (hw _ (List.mem_of_getElem? (i := 19) rfl))) (notFace_of_selects (args := #[]) (mvT hZ (hw _ (List.mem_of_getElem? (i := 21) rfl)))) (mvT hZ (hw _ (List.mem_of_getElem? (i := 21) rfl))) (mvT hZ (hw _ (List.mem_of_getElem? (i := 20) rfl))) (by decide) (backOf (W := 0) (rm41 l Z a0 hw [] b3 b5 sU sB sI (own_nab b3 b5 u171_b1 u125_b3 u78_b5) u78_b5 T29.heap n0 Z29 F_b3_settled F_b5_settled E_b3 E_b5 g_b3 g_b5 ne_b3_b5 (E_sU.ext O29.2) (E_sB.ext O29.2) (E_sI.ext O29.2) nU nB nI okc0 okb29) hZ (hw _ (List.mem_of_getElem? (i := 22) rfl)) (hw _ (List.mem_of_getElem? (i := 2) rfl)) (by decide) (by decide)) q30a q30c (g := (mkF m 300 #[.val (.int i0), .val (.int i1), .val (.int i2), .val (.int i3), .val (.ref b1), .val (.ref b3), .val (.ref b5), .val (.int x33), .val (.int x40), .val (.int x47), .val (.int v62), .val (.ref v186), .val (.ref v228), .val (.ref v269), .val RA0, .unset, .unset, .unset] [(.ref b3)])) rfl (by rw [hml]; rfl) (Steps.refl _) (argsL := []) (rest := []) (lenOf own_pd0 rfl) rfl (by show 2 * 0 + _ ≤ _; exact Nat.le_of_eq rfl) (hb hby at_300) (fun _ _ => ⟨rfl, rfl, (by decide : 3 + 0 ≤ _), (by decide : 9 + 0 ≤ _)⟩)
    dsimp only [Pt.U, Pt.locs, Pt.cells, Pt.slots] at X30 l30 y30 z30 st30 hQ30
    subst l30 y30 z30
    obtain ⟨rfl, N30q, K30q, cE30_0, cE30_1, cF30_0, cF30_1⟩ := hQ30
    have N30 := Fr.app N29 N30q
    obtain ⟨lc30, X30, N30⟩ : ∃ lc, Stand p l e room_1 s m #[(.int i0), (.int i1), (.int i2), (.int i3)] below meth c T30 lc 3 9 ∧ Fr n0 lc := ⟨_, X30, N30⟩
    have E_b1 := E_b1.keep K30q
    have E_b3 := E_b3.keep K30q
    have E_b5 := E_b5.keep K30q
    have F_b1_settled := F_b1_settled.keep K30q (ninS ne_b1_b3 (ninS ne_b1_b5 nin0))
    have Z30 := Nat.le_trans Z29 K30q.1
    have O30 := O29.keep K30q (allS g_b3 (allS g_b5 all0))
    have E_b3 := cE30_0
    have F_b3_settled := cF30_0
    have E_b5 := cE30_1
    have F_b5_settled := cF30_1
    have okb30 := own_alB okc0 okb29
    have Ia30 := (own_invBA b1 okc0 okb29 oka29 nU nB nI mU mB mI ne_b1_b3 ne_b1_b5 ne_b3_b5).trans Ia29
    have Ib30 := (own_invBB b1 okc0 okb29 oka29 nU nB nI mU mB mI ne_b1_b3 ne_b1_b5 ne_b3_b5).trans Ib29
    refine Go.tr st30 ?_
    show Go p e below Φ T30 (mkF m 303 #[.val (.int i0), .val (.int i1), .val (.int i2), .val (.int i3), .val (.ref b1), .val (.ref b3), .val (.ref b5), .val (.int x33), .val (.int x40), .val (.int x47), .val (.int v62), .val (.ref v186), .val (.ref v228), .val (.ref v269), .val RA0, .unset, .unset, .unset] [(own_rb b3 b5 (own_nab b3 b5 u171_b1 u125_b3 u78_b5) u78_b5)])
    rw [Ib29]
    show Go p e below Φ T30 (mkF m 303 #[.val (.int i0), .val (.int i1), .val (.int i2), .val (.int i3), .val (.ref b1), .val (.ref b3), .val (.ref b5), .val (.int x33), .val (.int x40), .val (.int x47), .val (.int v62), .val (.ref v186), .val (.ref v228), .val (.ref v269), .val RA0, .unset, .unset, .unset] [RB0])
    refine Go.of (fun t k => XS.astore X30.here hx rfl (hb hby at_303) rfl rB (l' := #[.val (.int i0), .val (.int i1), .val (.int i2), .val (.int i3), .val (.ref b1), .val (.ref b3), .val (.ref b5), .val (.int x33), .val (.int x40), .val (.int x47), .val (.int v62), .val (.ref v186), .val (.ref v228), .val (.ref v269), .val RA0, .val RB0, .unset, .unset]) (XS.store1 rfl (Or.inl rfl) (XT.cat1 rB)) k) ?_
    show Go p e below Φ T30 (mkF m 305 #[.val (.int i0), .val (.int i1), .val (.int i2), .val (.int i3), .val (.ref b1), .val (.ref b3), .val (.ref b5), .val (.int x33), .val (.int x40), .val (.int x47), .val (.int v62), .val (.ref v186), .val (.ref v228), .val (.ref v269), .val RA0, .val RB0, .unset, .unset] [])
    refine Go.of (fun t k => XS.aload X30.here hx rfl (hb hby at_305) rfl rfl  k) ?_
    show Go p e below Φ T30 (mkF m 307 #[.val (.int i0), .val (.int i1), .val (.int i2), .val (.int i3), .val (.ref b1), .val (.ref b3), .val (.ref b5), .val (.int x33), .val (.int x40), .val (.int x47), .val (.int v62), .val (.ref v186), .val (.ref v228), .val (.ref v269), .val RA0, .val RB0, .unset, .unset] [(.ref b1)])
    obtain ⟨cq31, kq31, q31a, q31b, q31c⟩ := isOf hZ rfl E_b1
    obtain ⟨_, _, ⟨T31, L31, k31, n31⟩, -, X31, ⟨Lc31, hQ31, l31, y31, z31⟩, st31⟩ := X30.virtualBack hx (y := (⟨"com/example/minnow/minnow/typing/Type$Variable", "resolved", "()Lcom/example/minnow/minnow/typing/Type;"⟩ : MethodName)) (z := (⟨"com/example/minnow/minnow/typing/Type$Variable", "resolved", "()Lcom/example/minnow/minnow/typing/Type;"⟩ : MethodName)) hown (mvT hZ (hw _ (List.mem_of_getElem? (i := 18) rfl))) (mvT hZ (hw _ (List.mem_of_getElem? (i := 19) rfl))) (notFace_of_selects (args := #[]) (mvT hZ (hw _ (List.mem_of_getElem? (i := 21) rfl)))) (mvT hZ (hw _ (List.mem_of_getElem? (i := 21) rfl))) (mvT hZ (hw _ (List.mem_of_getElem? (i := 20) rfl))) (by decide) (backOf (W := 0) (rm42 l Z a0 hw [] b1 b3 b5 sU sB sI (own_na b3 b5 u171_b1 u125_b3 u78_b5) (own_nb b5 (own_nab b3 b5 u171_b1 u125_b3 u78_b5) u78_b5) u78_b5 T30.heap n0 Z30 F_b1_settled F_b3_settled F_b5_settled E_b1 E_b3 E_b5 g_b1 g_b3 g_b5 ne_b1_b3 ne_b1_b5 ne_b3_b5 (E_sU.ext O30.2) (E_sB.ext O30.2) (E_sI.ext O30.2) nU nB nI mU mB mI okc0 okb30 oka29) hZ (hw _ (List.mem_of_getElem? (i := 22) rfl)) (hw _ (List.mem_of_getElem? (i := 2) rfl)) (by decide) (by decide)) q31a q31c (g := (mkF m 307 #[.val (.int i0), .val (.int i1), .val (.int i2), .val (.int i3), .val (.ref b1), .val (.ref b3), .val (.ref b5), .val (.int x33), .val (.int x40), .val (.int x47), .val (.int v62), .val (.ref v186), .val (.ref v228), .val (.ref v269), .val RA0, .val RB0, .unset, .unset] [(.ref b1)])) rfl (by rw [hml]; rfl) (Steps.refl _) (argsL := []) (rest := []) (lenOf own_pd0 rfl) rfl (by show 2 * 0 + _ ≤ _; exact Nat.le_of_eq rfl) (hb hby at_307) (fun _ _ => ⟨rfl, rfl, (by decide : 3 + 0 ≤ _), (by decide : 9 + 0 ≤ _)⟩)
    dsimp only [Pt.U, Pt.locs, Pt.cells, Pt.slots] at X31 l31 y31 z31 st31 hQ31
    subst l31 y31 z31
    obtain ⟨rfl, N31q, K31q, cE31_0, cE31_1, cE31_2, cF31_0, cF31_1, cF31_2⟩ := hQ31
    have N31 := Fr.app N30 N31q
    obtain ⟨lc31, X31, N31⟩ : ∃ lc, Stand p l e room_1 s m #[(.int i0), (.int i1), (.int i2), (.int i3)] below meth c T31 lc 3 9 ∧ Fr n0 lc := ⟨_, X31, N31⟩
    have E_b1 := E_b1.keep K31q
    have E_b3 := E_b3.keep K31q
    have E_b5 := E_b5.keep K31q
    have Z31 := Nat.le_trans Z30 K31q.1
    have O31 := O30.keep K31q (allS g_b1 (allS g_b3 (allS g_b5 all0)))
    have E_b1 := cE31_0
    have F_b1_settled := cF31_0
    have E_b3 := cE31_1
    have F_b3_settled := cF31_1
    have E_b5 := cE31_2
    have F_b5_settled := cF31_2
    have okb31 := own_alAB okc0 okb30 (ua := (own_na b3 b5 u171_b1 u125_b3 u78_b5)) (ob := b3)
    have oka31 := own_alAA okc0 okb30 oka29
    have Ia31 := (own_invAA b1 okc0 okb30 oka29 nU nB nI mU mB mI ne_b1_b3 ne_b1_b5 ne_b3_b5).trans Ia30
    have Ib31 := (own_invAB b1 okc0 okb30 oka29 nU nB nI mU mB mI ne_b1_b3 ne_b1_b5 ne_b3_b5).trans Ib30
    refine Go.tr st31 ?_
    show Go p e below Φ T31 (mkF m 310 #[.val (.int i0), .val (.int i1), .val (.int i2), .val (.int i3), .val (.ref b1), .val (.ref b3), .val (.ref b5), .val (.int x33), .val (.int x40), .val (.int x47), .val (.int v62), .val (.ref v186), .val (.ref v228), .val (.ref v269), .val RA0, .val RB0, .unset, .unset] [(own_ra b1 b3 b5 (own_na b3 b5 u171_b1 u125_b3 u78_b5) (own_nb b5 (own_nab b3 b5 u171_b1 u125_b3 u78_b5) u78_b5) u78_b5)])
    rw [Ia30]
    show Go p e below Φ T31 (mkF m 310 #[.val (.int i0), .val (.int i1), .val (.int i2), .val (.int i3), .val (.ref b1), .val (.ref b3), .val (.ref b5), .val (.int x33), .val (.int x40), .val (.int x47), .val (.int v62), .val (.ref v186), .val (.ref v228), .val (.ref v269), .val RA0, .val RB0, .unset, .unset] [RA0])
    refine Go.of (fun t k => XS.astore X31.here hx rfl (hb hby at_310) rfl rA (l' := #[.val (.int i0), .val (.int i1), .val (.int i2), .val (.int i3), .val (.ref b1), .val (.ref b3), .val (.ref b5), .val (.int x33), .val (.int x40), .val (.int x47), .val (.int v62), .val (.ref v186), .val (.ref v228), .val (.ref v269), .val RA0, .val RB0, .val RA0, .unset]) (XS.store1 rfl (Or.inl rfl) (XT.cat1 rA)) k) ?_
    show Go p e below Φ T31 (mkF m 312 #[.val (.int i0), .val (.int i1), .val (.int i2), .val (.int i3), .val (.ref b1), .val (.ref b3), .val (.ref b5), .val (.int x33), .val (.int x40), .val (.int x47), .val (.int v62), .val (.ref v186), .val (.ref v228), .val (.ref v269), .val RA0, .val RB0, .val RA0, .unset] [])
    refine Go.of (fun t k => XS.aload X31.here hx rfl (hb hby at_312) rfl rfl  k) ?_
    show Go p e below Φ T31 (mkF m 314 #[.val (.int i0), .val (.int i1), .val (.int i2), .val (.int i3), .val (.ref b1), .val (.ref b3), .val (.ref b5), .val (.int x33), .val (.int x40), .val (.int x47), .val (.int v62), .val (.ref v186), .val (.ref v228), .val (.ref v269), .val RA0, .val RB0, .val RA0, .unset] [(.ref b5)])
    obtain ⟨cq32, kq32, q32a, q32b, q32c⟩ := isOf hZ rfl E_b5
    obtain ⟨_, _, ⟨T32, L32, k32, n32⟩, -, X32, ⟨Lc32, hQ32, l32, y32, z32⟩, st32⟩ := X31.virtualBack hx (y := (⟨"com/example/minnow/minnow/typing/Type$Variable", "resolved", "()Lcom/example/minnow/minnow/typing/Type;"⟩ : MethodName)) (z := (⟨"com/example/minnow/minnow/typing/Type$Variable", "resolved", "()Lcom/example/minnow/minnow/typing/Type;"⟩ : MethodName)) hown (mvT hZ (hw _ (List.mem_of_getElem? (i := 18) rfl))) (mvT hZ (hw _ (List.mem_of_getElem? (i := 19) rfl))) (notFace_of_selects (args := #[]) (mvT hZ (hw _ (List.mem_of_getElem? (i := 21) rfl)))) (mvT hZ (hw _ (List.mem_of_getElem? (i := 21) rfl))) (mvT hZ (hw _ (List.mem_of_getElem? (i := 20) rfl))) (by decide) (backOf (W := 0) (rm40 l Z a0 hw [] b5 sU u78_b5 T31.heap n0 Z31 F_b5_settled E_b5 g_b5 (E_sU.ext O31.2) okc0) hZ (hw _ (List.mem_of_getElem? (i := 22) rfl)) (hw _ (List.mem_of_getElem? (i := 2) rfl)) (by decide) (by decide)) q32a q32c (g := (mkF m 314 #[.val (.int i0), .val (.int i1), .val (.int i2), .val (.int i3), .val (.ref b1), .val (.ref b3), .val (.ref b5), .val (.int x33), .val (.int x40), .val (.int x47), .val (.int v62), .val (.ref v186), .val (.ref v228), .val (.ref v269), .val RA0, .val RB0, .val RA0, .unset] [(.ref b5)])) rfl (by rw [hml]; rfl) (Steps.refl _) (argsL := []) (rest := []) (lenOf own_pd0 rfl) rfl (by show 2 * 0 + _ ≤ _; exact Nat.le_of_eq rfl) (hb hby at_314) (fun _ _ => ⟨rfl, rfl, (by decide : 3 + 0 ≤ _), (by decide : 9 + 0 ≤ _)⟩)
    dsimp only [Pt.U, Pt.locs, Pt.cells, Pt.slots] at X32 l32 y32 z32 st32 hQ32
    subst l32 y32 z32
    obtain ⟨rfl, N32q, K32q, cE32_0, cF32_0⟩ := hQ32
    have N32 := Fr.app N31 N32q
    obtain ⟨lc32, X32, N32⟩ : ∃ lc, Stand p l e room_1 s m #[(.int i0), (.int i1), (.int i2), (.int i3)] below meth c T32 lc 3 9 ∧ Fr n0 lc := ⟨_, X32, N32⟩
    have E_b1 := E_b1.keep K32q
    have E_b3 := E_b3.keep K32q
    have E_b5 := E_b5.keep K32q
    have F_b1_settled := F_b1_settled.keep K32q (ninS ne_b1_b5 nin0)
    have F_b3_settled := F_b3_settled.keep K32q (ninS ne_b3_b5 nin0)
    have Z32 := Nat.le_trans Z31 K32q.1
    have O32 := O31.keep K32q (allS g_b5 all0)
    have E_b5 := cE32_0
    have F_b5_settled := cF32_0
    refine Go.tr st32 ?_
    show Go p e below Φ T32 (mkF m 317 #[.val (.int i0), .val (.int i1), .val (.int i2), .val (.int i3), .val (.ref b1), .val (.ref b3), .val (.ref b5), .val (.int x33), .val (.int x40), .val (.int x47), .val (.int v62), .val (.ref v186), .val (.ref v228), .val (.ref v269), .val RA0, .val RB0, .val RA0, .unset] [(own_rc b5 u78_b5)])
    rw [Ic0]
    show Go p e below Φ T32 (mkF m 317 #[.val (.int i0), .val (.int i1), .val (.int i2), .val (.int i3), .val (.ref b1), .val (.ref b3), .val (.ref b5), .val (.int x33), .val (.int x40), .val (.int x47), .val (.int v62), .val (.ref v186), .val (.ref v228), .val (.ref v269), .val RA0, .val RB0, .val RA0, .unset] [RC0])
    refine Go.of (fun t k => XS.astore X32.here hx rfl (hb hby at_317) rfl rC (l' := #[.val (.int i0), .val (.int i1), .val (.int i2), .val (.int i3), .val (.ref b1), .val (.ref b3), .val (.ref b5), .val (.int x33), .val (.int x40), .val (.int x47), .val (.int v62), .val (.ref v186), .val (.ref v228), .val (.ref v269), .val RA0, .val RB0, .val RA0, .val RC0]) (XS.store1 rfl (Or.inl rfl) (XT.cat1 rC)) k) ?_
    show Go p e below Φ T32 (mkF m 319 #[.val (.int i0), .val (.int i1), .val (.int i2), .val (.int i3), .val (.ref b1), .val (.ref b3), .val (.ref b5), .val (.int x33), .val (.int x40), .val (.int x47), .val (.int v62), .val (.ref v186), .val (.ref v228), .val (.ref v269), .val RA0, .val RB0, .val RA0, .val RC0] [])
    refine Go.of (fun t k => XS.aload X32.here hx rfl (hb hby at_319) rfl rA  k) ?_
    show Go p e below Φ T32 (mkF m 321 #[.val (.int i0), .val (.int i1), .val (.int i2), .val (.int i3), .val (.ref b1), .val (.ref b3), .val (.ref b5), .val (.int x33), .val (.int x40), .val (.int x47), .val (.int v62), .val (.ref v186), .val (.ref v228), .val (.ref v269), .val RA0, .val RB0, .val RA0, .val RC0] [RA0])
    refine Go.of (fun t k => XS.aload X32.here hx rfl (hb hby at_321) rfl rfl  k) ?_
    show Go p e below Φ T32 (mkF m 323 #[.val (.int i0), .val (.int i1), .val (.int i2), .val (.int i3), .val (.ref b1), .val (.ref b3), .val (.ref b5), .val (.int x33), .val (.int x40), .val (.int x47), .val (.int v62), .val (.ref v186), .val (.ref v228), .val (.ref v269), .val RA0, .val RB0, .val RA0, .val RC0] [(.ref v269), RA0])
    refine Go.of (fun t k => Jvm.RoadKit.acmp (g := (mkF m 323 #[.val (.int i0), .val (.int i1), .val (.int i2), .val (.int i3), .val (.ref b1), .val (.ref b3), .val (.ref b5), .val (.int x33), .val (.int x40), .val (.int x47), .val (.int v62), .val (.ref v186), .val (.ref v228), .val (.ref v269), .val RA0, .val RB0, .val RA0, .val RC0] [(.ref v269), RA0])) X32 hx rfl rA rfl (pc0 := 323) (pc' := 326) (same := true) rfl (hb hby at_323) rfl (decide_eq_true qA) (by decide) (by decide) k) ?_
    show Go p e below Φ T32 (mkF m 326 #[.val (.int i0), .val (.int i1), .val (.int i2), .val (.int i3), .val (.ref b1), .val (.ref b3), .val (.ref b5), .val (.int x33), .val (.int x40), .val (.int x47), .val (.int v62), .val (.ref v186), .val (.ref v228), .val (.ref v269), .val RA0, .val RB0, .val RA0, .val RC0] [])
    refine Go.of (fun t k => XS.aload X32.here hx rfl (hb hby at_326) rfl rA  k) ?_
    show Go p e below Φ T32 (mkF m 328 #[.val (.int i0), .val (.int i1), .val (.int i2), .val (.int i3), .val (.ref b1), .val (.ref b3), .val (.ref b5), .val (.int x33), .val (.int x40), .val (.int x47), .val (.int v62), .val (.ref v186), .val (.ref v228), .val (.ref v269), .val RA0, .val RB0, .val RA0, .val RC0] [RA0])
    refine Go.of (fun t k => XS.aload X32.here hx rfl (hb hby at_328) rfl rfl  k) ?_
    show Go p e below Φ T32 (mkF m 330 #[.val (.int i0), .val (.int i1), .val (.int i2), .val (.int i3), .val (.ref b1), .val (.ref b3), .val (.ref b5), .val (.int x33), .val (.int x40), .val (.int x47), .val (.int v62), .val (.ref v186), .val (.ref v228), .val (.ref v269), .val RA0, .val RB0, .val RA0, .val RC0] [(.ref v269), RA0])
    refine Go.of (fun t k => Jvm.RoadKit.acmp (g := (mkF m 330 #[.val (.int i0), .val (.int i1), .val (.int i2), .val (.int i3), .val (.ref b1), .val (.ref b3), .val (.ref b5), .val (.int x33), .val (.int x40), .val (.int x47), .val (.int v62), .val (.ref v186), .val (.ref v228), .val (.ref v269), .val RA0, .val RB0, .val RA0, .val RC0] [(.ref v269), RA0])) X32 hx rfl rA rfl (pc0 := 330) (pc' := 333) (same := true) rfl (hb hby at_330) rfl (decide_eq_true qA) (by decide) (by decide) k) ?_
    show Go p e below Φ T32 (mkF m 333 #[.val (.int i0), .val (.int i1), .val (.int i2), .val (.int i3), .val (.ref b1), .val (.ref b3), .val (.ref b5), .val (.int x33), .val (.int x40), .val (.int x47), .val (.int v62), .val (.ref v186), .val (.ref v228), .val (.ref v269), .val RA0, .val RB0, .val RA0, .val RC0] [])
    refine Go.of (fun t k => XS.aload X32.here hx rfl (hb hby at_333) rfl rB  k) ?_
    show Go p e below Φ T32 (mkF m 335 #[.val (.int i0), .val (.int i1), .val (.int i2), .val (.int i3), .val (.ref b1), .val (.ref b3), .val (.ref b5), .val (.int x33), .val (.int x40), .val (.int x47), .val (.int v62), .val (.ref v186), .val (.ref v228), .val (.ref v269), .val RA0, .val RB0, .val RA0, .val RC0] [RB0])
    refine Go.of (fun t k => XS.aload X32.here hx rfl (hb hby at_335) rfl rfl  k) ?_
    show Go p e below Φ T32 (mkF m 337 #[.val (.int i0), .val (.int i1), .val (.int i2), .val (.int i3), .val (.ref b1), .val (.ref b3), .val (.ref b5), .val (.int x33), .val (.int x40), .val (.int x47), .val (.int v62), .val (.ref v186), .val (.ref v228), .val (.ref v269), .val RA0, .val RB0, .val RA0, .val RC0] [(.ref v228), RB0])
    refine Go.of (fun t k => Jvm.RoadKit.acmp (g := (mkF m 337 #[.val (.int i0), .val (.int i1), .val (.int i2), .val (.int i3), .val (.ref b1), .val (.ref b3), .val (.ref b5), .val (.int x33), .val (.int x40), .val (.int x47), .val (.int v62), .val (.ref v186), .val (.ref v228), .val (.ref v269), .val RA0, .val RB0, .val RA0, .val RC0] [(.ref v228), RB0])) X32 hx rfl rB rfl (pc0 := 337) (pc' := 340) (same := true) rfl (hb hby at_337) rfl (decide_eq_true qB) (by decide) (by decide) k) ?_
    show Go p e below Φ T32 (mkF m 340 #[.val (.int i0), .val (.int i1), .val (.int i2), .val (.int i3), .val (.ref b1), .val (.ref b3), .val (.ref b5), .val (.int x33), .val (.int x40), .val (.int x47), .val (.int v62), .val (.ref v186), .val (.ref v228), .val (.ref v269), .val RA0, .val RB0, .val RA0, .val RC0] [])
    refine Go.of (fun t k => XS.aload X32.here hx rfl (hb hby at_340) rfl rC  k) ?_
    show Go p e below Φ T32 (mkF m 342 #[.val (.int i0), .val (.int i1), .val (.int i2), .val (.int i3), .val (.ref b1), .val (.ref b3), .val (.ref b5), .val (.int x33), .val (.int x40), .val (.int x47), .val (.int v62), .val (.ref v186), .val (.ref v228), .val (.ref v269), .val RA0, .val RB0, .val RA0, .val RC0] [RC0])
    refine Go.of (fun t k => XS.aload X32.here hx rfl (hb hby at_342) rfl rfl  k) ?_
    show Go p e below Φ T32 (mkF m 344 #[.val (.int i0), .val (.int i1), .val (.int i2), .val (.int i3), .val (.ref b1), .val (.ref b3), .val (.ref b5), .val (.int x33), .val (.int x40), .val (.int x47), .val (.int v62), .val (.ref v186), .val (.ref v228), .val (.ref v269), .val RA0, .val RB0, .val RA0, .val RC0] [(.ref v186), RC0])
    refine Go.of (fun t k => Jvm.RoadKit.acmp (g := (mkF m 344 #[.val (.int i0), .val (.int i1), .val (.int i2), .val (.int i3), .val (.ref b1), .val (.ref b3), .val (.ref b5), .val (.int x33), .val (.int x40), .val (.int x47), .val (.int v62), .val (.ref v186), .val (.ref v228), .val (.ref v269), .val RA0, .val RB0, .val RA0, .val RC0] [(.ref v186), RC0])) X32 hx rfl rC rfl (pc0 := 344) (pc' := 347) (same := true) rfl (hb hby at_344) rfl (decide_eq_true qC) (by decide) (by decide) k) ?_
    show Go p e below Φ T32 (mkF m 347 #[.val (.int i0), .val (.int i1), .val (.int i2), .val (.int i3), .val (.ref b1), .val (.ref b3), .val (.ref b5), .val (.int x33), .val (.int x40), .val (.int x47), .val (.int v62), .val (.ref v186), .val (.ref v228), .val (.ref v269), .val RA0, .val RB0, .val RA0, .val RC0] [])
    refine Go.of (fun t k => XS.iconst X32.here hx rfl (hb hby at_347) k) ?_
    show Go p e below Φ T32 (mkF m 348 #[.val (.int i0), .val (.int i1), .val (.int i2), .val (.int i3), .val (.ref b1), .val (.ref b3), .val (.ref b5), .val (.int x33), .val (.int x40), .val (.int x47), .val (.int v62), .val (.ref v186), .val (.ref v228), .val (.ref v269), .val RA0, .val RB0, .val RA0, .val RC0] [(.int (1 : Int32))])
    refine Go.of (fun t k => XS.goto X32.here hx rfl (pc0 := 348) (pc' := 352) rfl (hb hby at_348) (by decide) (by decide) k) ?_
    show Go p e below Φ T32 (mkF m 352 #[.val (.int i0), .val (.int i1), .val (.int i2), .val (.int i3), .val (.ref b1), .val (.ref b3), .val (.ref b5), .val (.int x33), .val (.int x40), .val (.int x47), .val (.int v62), .val (.ref v186), .val (.ref v228), .val (.ref v269), .val RA0, .val RB0, .val RA0, .val RC0] [(.int (1 : Int32))])
    rw [hΦ]
    refine Go.ret X32 hx Bd.notSynchronized Bd.returns rfl (Or.inl ⟨rfl, Or.inr (Or.inl rfl), _, rfl⟩) (hb hby at_352) (by decide) (by decide) ?_
    exact ⟨rfl, N32⟩
  · refine Go.of (fun t k => XS.ifNo X27.here hx rfl (hb hby at_271) rfl (XT.i0_eq_f hc271) k) ?_
    show Go p e below Φ T27 (mkF m 274 #[.val (.int i0), .val (.int i1), .val (.int i2), .val (.int i3), .val (.ref b1), .val (.ref b3), .val (.ref b5), .val (.int x33), .val (.int x40), .val (.int x47), .val (.int v62), .val (.ref v186), .val (.ref v228), .val (.ref v269), .unset, .unset, .unset, .unset] [])
    refine Go.of (fun t k => XS.aload X27.here hx rfl (hb hby at_274) rfl rfl  k) ?_
    show Go p e below Φ T27 (mkF m 276 #[.val (.int i0), .val (.int i1), .val (.int i2), .val (.int i3), .val (.ref b1), .val (.ref b3), .val (.ref b5), .val (.int x33), .val (.int x40), .val (.int x47), .val (.int v62), .val (.ref v186), .val (.ref v228), .val (.ref v269), .unset, .unset, .unset, .unset] [(.ref b3)])
    obtain ⟨cq33, kq33, q33a, q33b, q33c⟩ := isOf hZ e27 E_b3
    obtain ⟨_, _, ⟨T33, L33, k33, n33⟩, -, X33, ⟨Lc33, hQ33, l33, y33, z33⟩, st33⟩ := X27.virtualBack hx (y := (⟨"com/example/minnow/minnow/typing/Type$Variable", "resolved", "()Lcom/example/minnow/minnow/typing/Type;"⟩ : MethodName)) (z := (⟨"com/example/minnow/minnow/typing/Type$Variable", "resolved", "()Lcom/example/minnow/minnow/typing/Type;"⟩ : MethodName)) hown (mvT hZ (hw _ (List.mem_of_getElem? (i := 18) rfl))) (mvT hZ (hw _ (List.mem_of_getElem? (i := 19) rfl))) (notFace_of_selects (args := #[]) (mvT hZ (hw _ (List.mem_of_getElem? (i := 21) rfl)))) (mvT hZ (hw _ (List.mem_of_getElem? (i := 21) rfl))) (mvT hZ (hw _ (List.mem_of_getElem? (i := 20) rfl))) (by decide) (backOf (W := 0) (rm41 l Z a0 hw [] b3 b5 sU sB sI u125_b3 u78_b5 h17 n0 Z17 F_b3_settled F_b5_settled E_b3 E_b5 g_b3 g_b5 ne_b3_b5 (E_sU.ext O17.2) (E_sB.ext O17.2) (E_sI.ext O17.2) nU nB nI okc0 okb0) hZ (hw _ (List.mem_of_getElem? (i := 22) rfl)) (hw _ (List.mem_of_getElem? (i := 2) rfl)) (by decide) (by decide)) q33a q33c (g := (mkF m 276 #[.val (.int i0), .val (.int i1), .val (.int i2), .val (.int i3), .val (.ref b1), .val (.ref b3), .val (.ref b5), .val (.int x33), .val (.int x40), .val (.int x47), .val (.int v62), .val (.ref v186), .val (.ref v228), .val (.ref v269), .unset, .unset, .unset, .unset] [(.ref b3)])) rfl (by rw [hml]; rfl) (Steps.refl _) (argsL := []) (rest := []) (lenOf own_pd0 rfl) rfl (by show 2 * 0 + _ ≤ _; exact Nat.le_of_eq rfl) (hb hby at_276) (fun _ _ => ⟨rfl, e27, (by decide : 3 + 0 ≤ _), (by decide : 9 + 0 ≤ _)⟩)
    dsimp only [Pt.U, Pt.locs, Pt.cells, Pt.slots] at X33 l33 y33 z33 st33 hQ33
    subst l33 y33 z33
    obtain ⟨rfl, N33q, K33q, cE33_0, cE33_1, cF33_0, cF33_1⟩ := hQ33
    have N33 := Fr.app N17 N33q
    obtain ⟨lc33, X33, N33⟩ : ∃ lc, Stand p l e room_1 s m #[(.int i0), (.int i1), (.int i2), (.int i3)] below meth c T33 lc 3 9 ∧ Fr n0 lc := ⟨_, X33, N33⟩
    have E_b1 := E_b1.keep K33q
    have F_b1_settled := F_b1_settled.keep K33q (ninS ne_b1_b3 (ninS ne_b1_b5 nin0))
    have E_b3 := E_b3.keep K33q
    have E_b5 := E_b5.keep K33q
    have Z33 := Nat.le_trans Z17 K33q.1
    have O33 := O17.keep K33q (allS g_b3 (allS g_b5 all0))
    have E_b3 := cE33_0
    have F_b3_settled := cF33_0
    have E_b5 := cE33_1
    have F_b5_settled := cF33_1
    have okb33 := own_alB okc0 okb0
    have Ia33 := (own_invBA b1 okc0 okb0 oka0 nU nB nI mU mB mI ne_b1_b3 ne_b1_b5 ne_b3_b5).trans Ia0
    have Ib33 := (own_invBB b1 okc0 okb0 oka0 nU nB nI mU mB mI ne_b1_b3 ne_b1_b5 ne_b3_b5).trans Ib0
    refine Go.tr st33 ?_
    show Go p e below Φ T33 (mkF m 279 #[.val (.int i0), .val (.int i1), .val (.int i2), .val (.int i3), .val (.ref b1), .val (.ref b3), .val (.ref b5), .val (.int x33), .val (.int x40), .val (.int x47), .val (.int v62), .val (.ref v186), .val (.ref v228), .val (.ref v269), .unset, .unset, .unset, .unset] [(own_rb b3 b5 u125_b3 u78_b5)])
    rw [Ib0]
    show Go p e below Φ T33 (mkF m 279 #[.val (.int i0), .val (.int i1), .val (.int i2), .val (.int i3), .val (.ref b1), .val (.ref b3), .val (.ref b5), .val (.int x33), .val (.int x40), .val (.int x47), .val (.int v62), .val (.ref v186), .val (.ref v228), .val (.ref v269), .unset, .unset, .unset, .unset] [RB0])
    refine Go.of (fun t k => XS.astore X33.here hx rfl (hb hby at_279) rfl rB (l' := #[.val (.int i0), .val (.int i1), .val (.int i2), .val (.int i3), .val (.ref b1), .val (.ref b3), .val (.ref b5), .val (.int x33), .val (.int x40), .val (.int x47), .val (.int v62), .val (.ref v186), .val (.ref v228), .val (.ref v269), .unset, .val RB0, .unset, .unset]) (XS.store1 rfl (Or.inl rfl) (XT.cat1 rB)) k) ?_
    show Go p e below Φ T33 (mkF m 281 #[.val (.int i0), .val (.int i1), .val (.int i2), .val (.int i3), .val (.ref b1), .val (.ref b3), .val (.ref b5), .val (.int x33), .val (.int x40), .val (.int x47), .val (.int v62), .val (.ref v186), .val (.ref v228), .val (.ref v269), .unset, .val RB0, .unset, .unset] [])
    refine Go.of (fun t k => XS.aload X33.here hx rfl (hb hby at_281) rfl rfl  k) ?_
    show Go p e below Φ T33 (mkF m 283 #[.val (.int i0), .val (.int i1), .val (.int i2), .val (.int i3), .val (.ref b1), .val (.ref b3), .val (.ref b5), .val (.int x33), .val (.int x40), .val (.int x47), .val (.int v62), .val (.ref v186), .val (.ref v228), .val (.ref v269), .unset, .val RB0, .unset, .unset] [(.ref b1)])
    obtain ⟨cq34, kq34, q34a, q34b, q34c⟩ := isOf hZ rfl E_b1
    obtain ⟨_, _, ⟨T34, L34, k34, n34⟩, -, X34, ⟨Lc34, hQ34, l34, y34, z34⟩, st34⟩ := X33.virtualBack hx (y := (⟨"com/example/minnow/minnow/typing/Type$Variable", "resolved", "()Lcom/example/minnow/minnow/typing/Type;"⟩ : MethodName)) (z := (⟨"com/example/minnow/minnow/typing/Type$Variable", "resolved", "()Lcom/example/minnow/minnow/typing/Type;"⟩ : MethodName)) hown (mvT hZ (hw _ (List.mem_of_getElem? (i := 18) rfl))) (mvT hZ (hw _ (List.mem_of_getElem? (i := 19) rfl))) (notFace_of_selects (args := #[]) (mvT hZ (hw _ (List.mem_of_getElem? (i := 21) rfl)))) (mvT hZ (hw _ (List.mem_of_getElem? (i := 21) rfl))) (mvT hZ (hw _ (List.mem_of_getElem? (i := 20) rfl))) (by decide) (backOf (W := 0) (rm42 l Z a0 hw [] b1 b3 b5 sU sB sI u171_b1 (own_nb b5 u125_b3 u78_b5) u78_b5 T33.heap n0 Z33 F_b1_settled F_b3_settled F_b5_settled E_b1 E_b3 E_b5 g_b1 g_b3 g_b5 ne_b1_b3 ne_b1_b5 ne_b3_b5 (E_sU.ext O33.2) (E_sB.ext O33.2) (E_sI.ext O33.2) nU nB nI mU mB mI okc0 okb33 oka0) hZ (hw _ (List.mem_of_getElem? (i := 22) rfl)) (hw _ (List.mem_of_getElem? (i := 2) rfl)) (by decide) (by decide)) q34a q34c (g := (mkF m 283 #[.val (.int i0), .val (.int i1), .val (.int i2), .val (.int i3), .val (.ref b1), .val (.ref b3), .val (.ref b5), .val (.int x33), .val (.int x40), .val (.int x47), .val (.int v62), .val (.ref v186), .val (.ref v228), .val (.ref v269), .unset, .val RB0, .unset, .unset] [(.ref b1)])) rfl (by rw [hml]; rfl) (Steps.refl _) (argsL := []) (rest := []) (lenOf own_pd0 rfl) rfl (by show 2 * 0 + _ ≤ _; exact Nat.le_of_eq rfl) (hb hby at_283) (fun _ _ => ⟨rfl, rfl, (by decide : 3 + 0 ≤ _), (by decide : 9 + 0 ≤ _)⟩)
    dsimp only [Pt.U, Pt.locs, Pt.cells, Pt.slots] at X34 l34 y34 z34 st34 hQ34
    subst l34 y34 z34
    obtain ⟨rfl, N34q, K34q, cE34_0, cE34_1, cE34_2, cF34_0, cF34_1, cF34_2⟩ := hQ34
    have N34 := Fr.app N33 N34q
    obtain ⟨lc34, X34, N34⟩ : ∃ lc, Stand p l e room_1 s m #[(.int i0), (.int i1), (.int i2), (.int i3)] below meth c T34 lc 3 9 ∧ Fr n0 lc := ⟨_, X34, N34⟩
    have E_b1 := E_b1.keep K34q
    have E_b3 := E_b3.keep K34q
    have E_b5 := E_b5.keep K34q
    have Z34 := Nat.le_trans Z33 K34q.1
    have O34 := O33.keep K34q (allS g_b1 (allS g_b3 (allS g_b5 all0)))
    have E_b1 := cE34_0
    have F_b1_settled := cF34_0
    have E_b3 := cE34_1
    have F_b3_settled := cF34_1
    have E_b5 := cE34_2
    have F_b5_settled := cF34_2
    have okb34 := own_alAB okc0 okb33 (ua := u171_b1) (ob := b3)
    have oka34 := own_alAA okc0 okb33 oka0
    have Ia34 := (own_invAA b1 okc0 okb33 oka0 nU nB nI mU mB mI ne_b1_b3 ne_b1_b5 ne_b3_b5).trans Ia33
    have Ib34 := (own_invAB b1 okc0 okb33 oka0 nU nB nI mU mB mI ne_b1_b3 ne_b1_b5 ne_b3_b5).trans Ib33
    refine Go.tr st34 ?_
    show Go p e below Φ T34 (mkF m 286 #[.val (.int i0), .val (.int i1), .val (.int i2), .val (.int i3), .val (.ref b1), .val (.ref b3), .val (.ref b5), .val (.int x33), .val (.int x40), .val (.int x47), .val (.int v62), .val (.ref v186), .val (.ref v228), .val (.ref v269), .unset, .val RB0, .unset, .unset] [(own_ra b1 b3 b5 u171_b1 (own_nb b5 u125_b3 u78_b5) u78_b5)])
    rw [Ia33]
    show Go p e below Φ T34 (mkF m 286 #[.val (.int i0), .val (.int i1), .val (.int i2), .val (.int i3), .val (.ref b1), .val (.ref b3), .val (.ref b5), .val (.int x33), .val (.int x40), .val (.int x47), .val (.int v62), .val (.ref v186), .val (.ref v228), .val (.ref v269), .unset, .val RB0, .unset, .unset] [RA0])
    refine Go.of (fun t k => XS.astore X34.here hx rfl (hb hby at_286) rfl rA (l' := #[.val (.int i0), .val (.int i1), .val (.int i2), .val (.int i3), .val (.ref b1), .val (.ref b3), .val (.ref b5), .val (.int x33), .val (.int x40), .val (.int x47), .val (.int v62), .val (.ref v186), .val (.ref v228), .val (.ref v269), .val RA0, .val RB0, .unset, .unset]) (XS.store1 rfl (Or.inl rfl) (XT.cat1 rA)) k) ?_
    show Go p e below Φ T34 (mkF m 288 #[.val (.int i0), .val (.int i1), .val (.int i2), .val (.int i3), .val (.ref b1), .val (.ref b3), .val (.ref b5), .val (.int x33), .val (.int x40), .val (.int x47), .val (.int v62), .val (.ref v186), .val (.ref v228), .val (.ref v269), .val RA0, .val RB0, .unset, .unset] [])
    refine Go.of (fun t k => XS.goto X34.here hx rfl (pc0 := 288) (pc' := 305) rfl (hb hby at_288) (by decide) (by decide) k) ?_
    show Go p e below Φ T34 (mkF m 305 #[.val (.int i0), .val (.int i1), .val (.int i2), .val (.int i3), .val (.ref b1), .val (.ref b3), .val (.ref b5), .val (.int x33), .val (.int x40), .val (.int x47), .val (.int v62), .val (.ref v186), .val (.ref v228), .val (.ref v269), .val RA0, .val RB0, .unset, .unset] [])
    refine Go.of (fun t k => XS.aload X34.here hx rfl (hb hby at_305) rfl rfl  k) ?_
    show Go p e below Φ T34 (mkF m 307 #[.val (.int i0), .val (.int i1), .val (.int i2), .val (.int i3), .val (.ref b1), .val (.ref b3), .val (.ref b5), .val (.int x33), .val (.int x40), .val (.int x47), .val (.int v62), .val (.ref v186), .val (.ref v228), .val (.ref v269), .val RA0, .val RB0, .unset, .unset] [(.ref b1)])
    obtain ⟨cq35, kq35, q35a, q35b, q35c⟩ := isOf hZ rfl E_b1
    obtain ⟨_, _, ⟨T35, L35, k35, n35⟩, -, X35, ⟨Lc35, hQ35, l35, y35, z35⟩, st35⟩ := X34.virtualBack hx (y := (⟨"com/example/minnow/minnow/typing/Type$Variable", "resolved", "()Lcom/example/minnow/minnow/typing/Type;"⟩ : MethodName)) (z := (⟨"com/example/minnow/minnow/typing/Type$Variable", "resolved", "()Lcom/example/minnow/minnow/typing/Type;"⟩ : MethodName)) hown (mvT hZ (hw _ (List.mem_of_getElem? (i := 18) rfl))) (mvT hZ (hw _ (List.mem_of_getElem? (i := 19) rfl))) (notFace_of_selects (args := #[]) (mvT hZ (hw _ (List.mem_of_getElem? (i := 21) rfl)))) (mvT hZ (hw _ (List.mem_of_getElem? (i := 21) rfl))) (mvT hZ (hw _ (List.mem_of_getElem? (i := 20) rfl))) (by decide) (backOf (W := 0) (rm42 l Z a0 hw [] b1 b3 b5 sU sB sI (own_na b3 b5 u171_b1 (own_nb b5 u125_b3 u78_b5) u78_b5) (own_nab b3 b5 u171_b1 (own_nb b5 u125_b3 u78_b5) u78_b5) u78_b5 T34.heap n0 Z34 F_b1_settled F_b3_settled F_b5_settled E_b1 E_b3 E_b5 g_b1 g_b3 g_b5 ne_b1_b3 ne_b1_b5 ne_b3_b5 (E_sU.ext O34.2) (E_sB.ext O34.2) (E_sI.ext O34.2) nU nB nI mU mB mI okc0 okb34 oka34) hZ (hw _ (List.mem_of_getElem? (i := 22) rfl)) (hw _ (List.mem_of_getElem? (i := 2) rfl)) (by decide) (by decide)) q35a q35c (g := (mkF m 307 #[.val (.int i0), .val (.int i1), .val (.int i2), .val (.int i3), .val (.ref b1), .val (.ref b3), .val (.ref b5), .val (.int x33), .val (.int x40), .val (.int x47), .val (.int v62), .val (.ref v186), .val (.ref v228), .val (.ref v269), .val RA0, .val RB0, .unset, .unset] [(.ref b1)])) rfl (by rw [hml]; rfl) (Steps.refl _) (argsL := []) (rest := []) (lenOf own_pd0 rfl) rfl (by show 2 * 0 + _ ≤ _; exact Nat.le_of_eq rfl) (hb hby at_307) (fun _ _ => ⟨rfl, rfl, (by decide : 3 + 0 ≤ _), (by decide : 9 + 0 ≤ _)⟩)
    dsimp only [Pt.U, Pt.locs, Pt.cells, Pt.slots] at X35 l35 y35 z35 st35 hQ35
    subst l35 y35 z35
    obtain ⟨rfl, N35q, K35q, cE35_0, cE35_1, cE35_2, cF35_0, cF35_1, cF35_2⟩ := hQ35
    have N35 := Fr.app N34 N35q
    obtain ⟨lc35, X35, N35⟩ : ∃ lc, Stand p l e room_1 s m #[(.int i0), (.int i1), (.int i2), (.int i3)] below meth c T35 lc 3 9 ∧ Fr n0 lc := ⟨_, X35, N35⟩
    have E_b1 := E_b1.keep K35q
    have E_b3 := E_b3.keep K35q
    have E_b5 := E_b5.keep K35q
    have Z35 := Nat.le_trans Z34 K35q.1
    have O35 := O34.keep K35q (allS g_b1 (allS g_b3 (allS g_b5 all0)))
    have E_b1 := cE35_0
    have F_b1_settled := cF35_0
    have E_b3 := cE35_1
    have F_b3_settled := cF35_1
    have E_b5 := cE35_2
    have F_b5_settled := cF35_2
    have okb35 := own_alAB okc0 okb34 (ua := (own_na b3 b5 u171_b1 (own_nb b5 u125_b3 u78_b5) u78_b5)) (ob := b3)
    have oka35 := own_alAA okc0 okb34 oka34
    have Ia35 := (own_invAA b1 okc0 okb34 oka34 nU nB nI mU mB mI ne_b1_b3 ne_b1_b5 ne_b3_b5).trans Ia34
    have Ib35 := (own_invAB b1 okc0 okb34 oka34 nU nB nI mU mB mI ne_b1_b3 ne_b1_b5 ne_b3_b5).trans Ib34
    refine Go.tr st35 ?_
    show Go p e below Φ T35 (mkF m 310 #[.val (.int i0), .val (.int i1), .val (.int i2), .val (.int i3), .val (.ref b1), .val (.ref b3), .val (.ref b5), .val (.int x33), .val (.int x40), .val (.int x47), .val (.int v62), .val (.ref v186), .val (.ref v228), .val (.ref v269), .val RA0, .val RB0, .unset, .unset] [(own_ra b1 b3 b5 (own_na b3 b5 u171_b1 (own_nb b5 u125_b3 u78_b5) u78_b5) (own_nab b3 b5 u171_b1 (own_nb b5 u125_b3 u78_b5) u78_b5) u78_b5)])
    rw [Ia34]
    show Go p e below Φ T35 (mkF m 310 #[.val (.int i0), .val (.int i1), .val (.int i2), .val (.int i3), .val (.ref b1), .val (.ref b3), .val (.ref b5), .val (.int x33), .val (.int x40), .val (.int x47), .val (.int v62), .val (.ref v186), .val (.ref v228), .val (.ref v269), .val RA0, .val RB0, .unset, .unset] [RA0])
    refine Go.of (fun t k => XS.astore X35.here hx rfl (hb hby at_310) rfl rA (l' := #[.val (.int i0), .val (.int i1), .val (.int i2), .val (.int i3), .val (.ref b1), .val (.ref b3), .val (.ref b5), .val (.int x33), .val (.int x40), .val (.int x47), .val (.int v62), .val (.ref v186), .val (.ref v228), .val (.ref v269), .val RA0, .val RB0, .val RA0, .unset]) (XS.store1 rfl (Or.inl rfl) (XT.cat1 rA)) k) ?_
    show Go p e below Φ T35 (mkF m 312 #[.val (.int i0), .val (.int i1), .val (.int i2), .val (.int i3), .val (.ref b1), .val (.ref b3), .val (.ref b5), .val (.int x33), .val (.int x40), .val (.int x47), .val (.int v62), .val (.ref v186), .val (.ref v228), .val (.ref v269), .val RA0, .val RB0, .val RA0, .unset] [])
    refine Go.of (fun t k => XS.aload X35.here hx rfl (hb hby at_312) rfl rfl  k) ?_
    show Go p e below Φ T35 (mkF m 314 #[.val (.int i0), .val (.int i1), .val (.int i2), .val (.int i3), .val (.ref b1), .val (.ref b3), .val (.ref b5), .val (.int x33), .val (.int x40), .val (.int x47), .val (.int v62), .val (.ref v186), .val (.ref v228), .val (.ref v269), .val RA0, .val RB0, .val RA0, .unset] [(.ref b5)])
    obtain ⟨cq36, kq36, q36a, q36b, q36c⟩ := isOf hZ rfl E_b5
    obtain ⟨_, _, ⟨T36, L36, k36, n36⟩, -, X36, ⟨Lc36, hQ36, l36, y36, z36⟩, st36⟩ := X35.virtualBack hx (y := (⟨"com/example/minnow/minnow/typing/Type$Variable", "resolved", "()Lcom/example/minnow/minnow/typing/Type;"⟩ : MethodName)) (z := (⟨"com/example/minnow/minnow/typing/Type$Variable", "resolved", "()Lcom/example/minnow/minnow/typing/Type;"⟩ : MethodName)) hown (mvT hZ (hw _ (List.mem_of_getElem? (i := 18) rfl))) (mvT hZ (hw _ (List.mem_of_getElem? (i := 19) rfl))) (notFace_of_selects (args := #[]) (mvT hZ (hw _ (List.mem_of_getElem? (i := 21) rfl)))) (mvT hZ (hw _ (List.mem_of_getElem? (i := 21) rfl))) (mvT hZ (hw _ (List.mem_of_getElem? (i := 20) rfl))) (by decide) (backOf (W := 0) (rm40 l Z a0 hw [] b5 sU u78_b5 T35.heap n0 Z35 F_b5_settled E_b5 g_b5 (E_sU.ext O35.2) okc0) hZ (hw _ (List.mem_of_getElem? (i := 22) rfl)) (hw _ (List.mem_of_getElem? (i := 2) rfl)) (by decide) (by decide)) q36a q36c (g := (mkF m 314 #[.val (.int i0), .val (.int i1), .val (.int i2), .val (.int i3), .val (.ref b1), .val (.ref b3), .val (.ref b5), .val (.int x33), .val (.int x40), .val (.int x47), .val (.int v62), .val (.ref v186), .val (.ref v228), .val (.ref v269), .val RA0, .val RB0, .val RA0, .unset] [(.ref b5)])) rfl (by rw [hml]; rfl) (Steps.refl _) (argsL := []) (rest := []) (lenOf own_pd0 rfl) rfl (by show 2 * 0 + _ ≤ _; exact Nat.le_of_eq rfl) (hb hby at_314) (fun _ _ => ⟨rfl, rfl, (by decide : 3 + 0 ≤ _), (by decide : 9 + 0 ≤ _)⟩)
    dsimp only [Pt.U, Pt.locs, Pt.cells, Pt.slots] at X36 l36 y36 z36 st36 hQ36
    subst l36 y36 z36
    obtain ⟨rfl, N36q, K36q, cE36_0, cF36_0⟩ := hQ36
    have N36 := Fr.app N35 N36q
    obtain ⟨lc36, X36, N36⟩ : ∃ lc, Stand p l e room_1 s m #[(.int i0), (.int i1), (.int i2), (.int i3)] below meth c T36 lc 3 9 ∧ Fr n0 lc := ⟨_, X36, N36⟩
    have E_b1 := E_b1.keep K36q
    have E_b3 := E_b3.keep K36q
    have E_b5 := E_b5.keep K36q
    have F_b1_settled := F_b1_settled.keep K36q (ninS ne_b1_b5 nin0)
    have F_b3_settled := F_b3_settled.keep K36q (ninS ne_b3_b5 nin0)
    have Z36 := Nat.le_trans Z35 K36q.1
    have O36 := O35.keep K36q (allS g_b5 all0)
    have E_b5 := cE36_0
    have F_b5_settled := cF36_0
    refine Go.tr st36 ?_
    show Go p e below Φ T36 (mkF m 317 #[.val (.int i0), .val (.int i1), .val (.int i2), .val (.int i3), .val (.ref b1), .val (.ref b3), .val (.ref b5), .val (.int x33), .val (.int x40), .val (.int x47), .val (.int v62), .val (.ref v186), .val (.ref v228), .val (.ref v269), .val RA0, .val RB0, .val RA0, .unset] [(own_rc b5 u78_b5)])
    rw [Ic0]
    show Go p e below Φ T36 (mkF m 317 #[.val (.int i0), .val (.int i1), .val (.int i2), .val (.int i3), .val (.ref b1), .val (.ref b3), .val (.ref b5), .val (.int x33), .val (.int x40), .val (.int x47), .val (.int v62), .val (.ref v186), .val (.ref v228), .val (.ref v269), .val RA0, .val RB0, .val RA0, .unset] [RC0])
    refine Go.of (fun t k => XS.astore X36.here hx rfl (hb hby at_317) rfl rC (l' := #[.val (.int i0), .val (.int i1), .val (.int i2), .val (.int i3), .val (.ref b1), .val (.ref b3), .val (.ref b5), .val (.int x33), .val (.int x40), .val (.int x47), .val (.int v62), .val (.ref v186), .val (.ref v228), .val (.ref v269), .val RA0, .val RB0, .val RA0, .val RC0]) (XS.store1 rfl (Or.inl rfl) (XT.cat1 rC)) k) ?_
    show Go p e below Φ T36 (mkF m 319 #[.val (.int i0), .val (.int i1), .val (.int i2), .val (.int i3), .val (.ref b1), .val (.ref b3), .val (.ref b5), .val (.int x33), .val (.int x40), .val (.int x47), .val (.int v62), .val (.ref v186), .val (.ref v228), .val (.ref v269), .val RA0, .val RB0, .val RA0, .val RC0] [])
    refine Go.of (fun t k => XS.aload X36.here hx rfl (hb hby at_319) rfl rA  k) ?_
    show Go p e below Φ T36 (mkF m 321 #[.val (.int i0), .val (.int i1), .val (.int i2), .val (.int i3), .val (.ref b1), .val (.ref b3), .val (.ref b5), .val (.int x33), .val (.int x40), .val (.int x47), .val (.int v62), .val (.ref v186), .val (.ref v228), .val (.ref v269), .val RA0, .val RB0, .val RA0, .val RC0] [RA0])
    refine Go.of (fun t k => XS.aload X36.here hx rfl (hb hby at_321) rfl rfl  k) ?_
    show Go p e below Φ T36 (mkF m 323 #[.val (.int i0), .val (.int i1), .val (.int i2), .val (.int i3), .val (.ref b1), .val (.ref b3), .val (.ref b5), .val (.int x33), .val (.int x40), .val (.int x47), .val (.int v62), .val (.ref v186), .val (.ref v228), .val (.ref v269), .val RA0, .val RB0, .val RA0, .val RC0] [(.ref v269), RA0])
    refine Go.of (fun t k => Jvm.RoadKit.acmp (g := (mkF m 323 #[.val (.int i0), .val (.int i1), .val (.int i2), .val (.int i3), .val (.ref b1), .val (.ref b3), .val (.ref b5), .val (.int x33), .val (.int x40), .val (.int x47), .val (.int v62), .val (.ref v186), .val (.ref v228), .val (.ref v269), .val RA0, .val RB0, .val RA0, .val RC0] [(.ref v269), RA0])) X36 hx rfl rA rfl (pc0 := 323) (pc' := 326) (same := true) rfl (hb hby at_323) rfl (decide_eq_true qA) (by decide) (by decide) k) ?_
    show Go p e below Φ T36 (mkF m 326 #[.val (.int i0), .val (.int i1), .val (.int i2), .val (.int i3), .val (.ref b1), .val (.ref b3), .val (.ref b5), .val (.int x33), .val (.int x40), .val (.int x47), .val (.int v62), .val (.ref v186), .val (.ref v228), .val (.ref v269), .val RA0, .val RB0, .val RA0, .val RC0] [])
    refine Go.of (fun t k => XS.aload X36.here hx rfl (hb hby at_326) rfl rA  k) ?_
    show Go p e below Φ T36 (mkF m 328 #[.val (.int i0), .val (.int i1), .val (.int i2), .val (.int i3), .val (.ref b1), .val (.ref b3), .val (.ref b5), .val (.int x33), .val (.int x40), .val (.int x47), .val (.int v62), .val (.ref v186), .val (.ref v228), .val (.ref v269), .val RA0, .val RB0, .val RA0, .val RC0] [RA0])
    refine Go.of (fun t k => XS.aload X36.here hx rfl (hb hby at_328) rfl rfl  k) ?_
    show Go p e below Φ T36 (mkF m 330 #[.val (.int i0), .val (.int i1), .val (.int i2), .val (.int i3), .val (.ref b1), .val (.ref b3), .val (.ref b5), .val (.int x33), .val (.int x40), .val (.int x47), .val (.int v62), .val (.ref v186), .val (.ref v228), .val (.ref v269), .val RA0, .val RB0, .val RA0, .val RC0] [(.ref v269), RA0])
    refine Go.of (fun t k => Jvm.RoadKit.acmp (g := (mkF m 330 #[.val (.int i0), .val (.int i1), .val (.int i2), .val (.int i3), .val (.ref b1), .val (.ref b3), .val (.ref b5), .val (.int x33), .val (.int x40), .val (.int x47), .val (.int v62), .val (.ref v186), .val (.ref v228), .val (.ref v269), .val RA0, .val RB0, .val RA0, .val RC0] [(.ref v269), RA0])) X36 hx rfl rA rfl (pc0 := 330) (pc' := 333) (same := true) rfl (hb hby at_330) rfl (decide_eq_true qA) (by decide) (by decide) k) ?_
    show Go p e below Φ T36 (mkF m 333 #[.val (.int i0), .val (.int i1), .val (.int i2), .val (.int i3), .val (.ref b1), .val (.ref b3), .val (.ref b5), .val (.int x33), .val (.int x40), .val (.int x47), .val (.int v62), .val (.ref v186), .val (.ref v228), .val (.ref v269), .val RA0, .val RB0, .val RA0, .val RC0] [])
    refine Go.of (fun t k => XS.aload X36.here hx rfl (hb hby at_333) rfl rB  k) ?_
    show Go p e below Φ T36 (mkF m 335 #[.val (.int i0), .val (.int i1), .val (.int i2), .val (.int i3), .val (.ref b1), .val (.ref b3), .val (.ref b5), .val (.int x33), .val (.int x40), .val (.int x47), .val (.int v62), .val (.ref v186), .val (.ref v228), .val (.ref v269), .val RA0, .val RB0, .val RA0, .val RC0] [RB0])
    refine Go.of (fun t k => XS.aload X36.here hx rfl (hb hby at_335) rfl rfl  k) ?_
    show Go p e below Φ T36 (mkF m 337 #[.val (.int i0), .val (.int i1), .val (.int i2), .val (.int i3), .val (.ref b1), .val (.ref b3), .val (.ref b5), .val (.int x33), .val (.int x40), .val (.int x47), .val (.int v62), .val (.ref v186), .val (.ref v228), .val (.ref v269), .val RA0, .val RB0, .val RA0, .val RC0] [(.ref v228), RB0])
    refine Go.of (fun t k => Jvm.RoadKit.acmp (g := (mkF m 337 #[.val (.int i0), .val (.int i1), .val (.int i2), .val (.int i3), .val (.ref b1), .val (.ref b3), .val (.ref b5), .val (.int x33), .val (.int x40), .val (.int x47), .val (.int v62), .val (.ref v186), .val (.ref v228), .val (.ref v269), .val RA0, .val RB0, .val RA0, .val RC0] [(.ref v228), RB0])) X36 hx rfl rB rfl (pc0 := 337) (pc' := 340) (same := true) rfl (hb hby at_337) rfl (decide_eq_true qB) (by decide) (by decide) k) ?_
    show Go p e below Φ T36 (mkF m 340 #[.val (.int i0), .val (.int i1), .val (.int i2), .val (.int i3), .val (.ref b1), .val (.ref b3), .val (.ref b5), .val (.int x33), .val (.int x40), .val (.int x47), .val (.int v62), .val (.ref v186), .val (.ref v228), .val (.ref v269), .val RA0, .val RB0, .val RA0, .val RC0] [])
    refine Go.of (fun t k => XS.aload X36.here hx rfl (hb hby at_340) rfl rC  k) ?_
    show Go p e below Φ T36 (mkF m 342 #[.val (.int i0), .val (.int i1), .val (.int i2), .val (.int i3), .val (.ref b1), .val (.ref b3), .val (.ref b5), .val (.int x33), .val (.int x40), .val (.int x47), .val (.int v62), .val (.ref v186), .val (.ref v228), .val (.ref v269), .val RA0, .val RB0, .val RA0, .val RC0] [RC0])
    refine Go.of (fun t k => XS.aload X36.here hx rfl (hb hby at_342) rfl rfl  k) ?_
    show Go p e below Φ T36 (mkF m 344 #[.val (.int i0), .val (.int i1), .val (.int i2), .val (.int i3), .val (.ref b1), .val (.ref b3), .val (.ref b5), .val (.int x33), .val (.int x40), .val (.int x47), .val (.int v62), .val (.ref v186), .val (.ref v228), .val (.ref v269), .val RA0, .val RB0, .val RA0, .val RC0] [(.ref v186), RC0])
    refine Go.of (fun t k => Jvm.RoadKit.acmp (g := (mkF m 344 #[.val (.int i0), .val (.int i1), .val (.int i2), .val (.int i3), .val (.ref b1), .val (.ref b3), .val (.ref b5), .val (.int x33), .val (.int x40), .val (.int x47), .val (.int v62), .val (.ref v186), .val (.ref v228), .val (.ref v269), .val RA0, .val RB0, .val RA0, .val RC0] [(.ref v186), RC0])) X36 hx rfl rC rfl (pc0 := 344) (pc' := 347) (same := true) rfl (hb hby at_344) rfl (decide_eq_true qC) (by decide) (by decide) k) ?_
    show Go p e below Φ T36 (mkF m 347 #[.val (.int i0), .val (.int i1), .val (.int i2), .val (.int i3), .val (.ref b1), .val (.ref b3), .val (.ref b5), .val (.int x33), .val (.int x40), .val (.int x47), .val (.int v62), .val (.ref v186), .val (.ref v228), .val (.ref v269), .val RA0, .val RB0, .val RA0, .val RC0] [])
    refine Go.of (fun t k => XS.iconst X36.here hx rfl (hb hby at_347) k) ?_
    show Go p e below Φ T36 (mkF m 348 #[.val (.int i0), .val (.int i1), .val (.int i2), .val (.int i3), .val (.ref b1), .val (.ref b3), .val (.ref b5), .val (.int x33), .val (.int x40), .val (.int x47), .val (.int v62), .val (.ref v186), .val (.ref v228), .val (.ref v269), .val RA0, .val RB0, .val RA0, .val RC0] [(.int (1 : Int32))])
    refine Go.of (fun t k => XS.goto X36.here hx rfl (pc0 := 348) (pc' := 352) rfl (hb hby at_348) (by decide) (by decide) k) ?_
    show Go p e below Φ T36 (mkF m 352 #[.val (.int i0), .val (.int i1), .val (.int i2), .val (.int i3), .val (.ref b1), .val (.ref b3), .val (.ref b5), .val (.int x33), .val (.int x40), .val (.int x47), .val (.int v62), .val (.ref v186), .val (.ref v228), .val (.ref v269), .val RA0, .val RB0, .val RA0, .val RC0] [(.int (1 : Int32))])
    rw [hΦ]
    refine Go.ret X36 hx Bd.notSynchronized Bd.returns rfl (Or.inl ⟨rfl, Or.inr (Or.inl rfl), _, rfl⟩) (hb hby at_352) (by decide) (by decide) ?_
    exact ⟨rfl, N36⟩
set_option maxRecDepth 65536 in
set_option maxHeartbeats 40000000 in
theorem comes_1 {Post : Tables → Env → Array Value → State → Outcome → State → Prop} (hpost : ∀ tb e args s v u, (limb_1_1.after args s (.returned v) u = true ∧ limb_1_2.after args s (.returned v) u = true ∧ True) → FrameEnd s (.returned v) u (Jvm.fieldLocs frame_1_writes args s ++ Jvm.arrayLocs frame_1_arrays args s ++ Jvm.staticLocs frame_1_statics s) 16 128 → Post tb e args s (.returned v) u) :
    ArmFor flags0 classFile x code maxLocals ret World_1 tables_1 room_1 Calls_1 rest_1 Pre_1 Post := by
  intro l hfl _ _ p e ha hc hk s m args below hf hA hF happ hP
  obtain ⟨hcalls, hrest, hpre⟩ := hP
  obtain ⟨-, -, -, hnamed, -, -, -, hat⟩ := (Spec.applies_iff hf).mp happ
  obtain ⟨hg, hn⟩ := and_e (Cond.before_iff.mp (show (Jvm.Cond.and given_1 narrow_1).before args s = true from hpre))
  obtain ⟨g1, g2⟩ := and_e hg
  obtain ⟨g3, g4⟩ := and_e g2
  obtain ⟨g5, g6⟩ := and_e g4
  obtain ⟨g7, g8⟩ := and_e g6
  obtain ⟨w0, w1, w2, w3, rfl⟩ : ∃ w0 w1 w2 w3 : Value, args = #[w0, w1, w2, w3] := by
    have hs : args.size = 4 := by simpa [Cond.value, given_1] using g1
    obtain ⟨L⟩ := args
    match L, hs with
    | [w0, w1, w2, w3], _ => exact ⟨w0, w1, w2, w3, rfl⟩
  have hw := fun d (hd : d ∈ tables_1) => atoms_spec (ws := Jvm.Cond.code x code maxLocals ret :: tables_1) hat d (List.mem_cons_of_mem _ hd)
  have hfit : Fit s := fun {y c} hc i hi => by
    obtain ⟨ha, rfl⟩ := Array.getElem?_eq_some_iff.mp hc
    have q := List.all_eq_true.mp ((Array.all_eq_true_iff_forall_mem.mp hF) _ (Array.getElem_mem ha)) i (List.mem_range.mpr hi)
    simpa [Array.getElem?_eq_getElem hi] using q
  obtain ⟨i0, ei0⟩ := is_v g3
  obtain rfl : w0 = (.int i0) := Option.some.inj ei0
  obtain ⟨i1, ei1⟩ := is_v g5
  obtain rfl : w1 = (.int i1) := Option.some.inj ei1
  obtain ⟨i2, ei2⟩ := is_v g7
  obtain rfl : w2 = (.int i2) := Option.some.inj ei2
  obtain ⟨i3, ei3⟩ := is_v g8
  obtain rfl : w3 = (.int i3) := Option.some.inj ei3
  obtain ⟨m1a, m1b⟩ := and_e hn
  obtain ⟨m2a, m2b⟩ := and_e m1b
  obtain ⟨sU, esU⟩ := exa_v m2b
  obtain ⟨sB, esB⟩ := exa_v m1a
  obtain ⟨sI, esI⟩ := exa_v m2a
  obtain ⟨n, o, h1, h2, h3, _, L, rfl, ⟨rfl, N⟩, hq⟩ := rm0 l s _ hw tables_1 i0 i1 i2 i3 sU sB sI s.heap s.heap.size (Nat.le_refl _) (Old.start s) (Sta.start esU (Or.inr ⟨(hw _ (List.mem_of_getElem? (i := 31) rfl)), (hw _ (List.mem_of_getElem? (i := 41) rfl))⟩)) (Sta.start esB (Or.inr ⟨(hw _ (List.mem_of_getElem? (i := 31) rfl)), (hw _ (List.mem_of_getElem? (i := 32) rfl))⟩)) (Sta.start esI (Or.inr ⟨(hw _ (List.mem_of_getElem? (i := 31) rfl)), (hw _ (List.mem_of_getElem? (i := 34) rfl))⟩)) (Exa.start esU m2b) (Exa.start esB m1a) (Exa.start esI m2a) p e ha hc hk s m _ below hf ((Spec.applies_iff_loose hf).mp happ).1 ⟨rfl, State.Warmed39.refl s, rfl⟩ trivial
  refine ⟨n, _, h1, h2, h3, hpost _ _ _ _ _ _ ⟨Cond.after_iff.mpr rfl, Cond.after_iff.mpr (eq_i res_at (Term.int_eval (1)) rfl), trivial⟩ ⟨hq.1, hq.2.1, (hq.2.2.sift fun y hy => Or.inr (N y hy)).mono (by decide) (by decide)⟩⟩
theorem main_1_1 : Claimed_1_1 := comes_1 fun _ _ _ _ _ _ h hF => ⟨h.1, hF⟩
theorem main_1_2 : Claimed_1_2 := comes_1 fun _ _ _ _ _ _ h hF => ⟨h.2.1, hF⟩
end Jvm.Pilot.@@N@@
namespace Jvm.Pilot.@@N@@
open Jvm Jvm.ClassFile Sem Op Lib Jvm.Free Jvm.Stand Jvm.Pilot.@@N@@.Jvm.D
/-! MADE BY PROGRAM (witnessworld.py) out of the Statement's table words and the real class files: 12 classes; the members and pool entries that the words name. The judged class is class 1, her method 1. -/
namespace start1
open Jvm.ClassFile
def u (s : String) : CpInfo := .utf8 (stringToUtf16 s)
/-- a pool by its gaps: so many unusable entries, then the entry; so many at the end -/
def gap : Nat → List CpInfo → List CpInfo
  | 0, r => r
  | n + 1, r => .unusable :: gap n r
def poolList (es : List (Nat × CpInfo)) (last : Nat) : List CpInfo := es.foldr (fun e r => gap e.1 (e.2 :: r)) (gap last [])
def pool (es : List (Nat × CpInfo)) (last : Nat) : Array CpInfo := ⟨poolList es last⟩
def fileOf (pool : Array CpInfo) (this : Nat) (attrs : Array Attribute := #[]) (ms : Array MethodInfo := #[]) (fl : Nat := 33) (sup : Nat := 0) (ifs : Array Nat := #[]) (fds : Array FieldInfo := #[]) : ClassFile where
  minorVersion := 0
  majorVersion := 65
  constantPool := pool
  accessFlags := fl
  thisClass := this
  superClass := sup
  interfaces := ifs
  fields := fds
  methods := ms
  attributes := attrs
def plain (name : String) (sup : Option ClassId) : Class where
  name := name
  kind := .ordinary
  loader := none
  accessFlags := 33
  super := sup
  interfaces := #[]
  cf := none
  fields := #[]
  methods := #[]
  instanceTypes := #[]
  staticTypes := #[]
  resolved := #[]
  callSites := []
  init := .initialized
  statics := none
  mirror := none

def pool0 : Array CpInfo := pool [(5, u "<init>"), (0, u "()V"), (1, .class_ 10), (1, u "java/lang/Object")] 113

def k0c0 : Code := { maxStack := 0, maxLocals := 1, code := object_method_1_code, exceptionTable := #[], attributes := #[] }
def k0m0 : Method := { name := "<init>", desc := "()V", sig := { parameters := [], returnType := none }, accessFlags := 1, code := some k0c0 }
/-- java/lang/Object -/
def k0 : Class := { plain "java/lang/Object" none with
  accessFlags := 33
  interfaces := #[]
  cf := some (fileOf pool0 8 #[] #[{ accessFlags := 1, nameIndex := 5, descriptorIndex := 6, attributes := #[] }] 33 0 #[] #[])
  fields := #[]
  methods := #[k0m0]
  instanceTypes := #[]
  staticTypes := #[]
  resolved := Array.replicate 124 none
  statics := none }

def pool1 : Array CpInfo := pool [(2, .class_ 4), (1, u "java/lang/Object"), (0, u "<init>"), (0, u "()V"), (0, .class_ 8), (0, u "com/example/minnow/minnow/typing/Type$Variable"), (0, .methodref 7 10), (0, .nameAndType 5 11), (0, u "(I)V"), (0, .fieldref 13 14), (0, .class_ 15), (0, .nameAndType 16 17), (0, u "com/example/minnow/minnow/typing/Type"), (0, u "UNIT"), (0, u "Lcom/example/minnow/minnow/typing/Type;"), (0, .methodref 7 19), (0, .nameAndType 20 21), (0, u "settle"), (0, u "(Lcom/example/minnow/minnow/typing/Type;)V"), (0, .fieldref 13 23), (0, .nameAndType 24 17), (0, u "BOOL"), (0, .fieldref 13 26), (0, .nameAndType 27 17), (0, u "INT"), (0, .methodref 7 29), (0, .nameAndType 30 31), (0, u "resolved"), (0, u "()Lcom/example/minnow/minnow/typing/Type;"), (0, .class_ 33), (0, u "com/example/minnow/minnow/typing/VariableResolvedPinLaw"), (2, u "law"), (0, u "(IIII)Z")] 5

def k1m0 : Method := { name := "<init>", desc := "()V", sig := { parameters := [], returnType := none }, accessFlags := 1, code := none }
def k1c1 : Code := { maxStack := 3, maxLocals := 18, code := code, exceptionTable := #[], attributes := #[] }
def k1m1 : Method := { name := "law", desc := "(IIII)Z", sig := { parameters := [.int, .int, .int, .int], returnType := some .boolean }, accessFlags := 9, code := some k1c1 }
/-- com/example/minnow/minnow/typing/VariableResolvedPinLaw -/
def k1 : Class := { plain "com/example/minnow/minnow/typing/VariableResolvedPinLaw" (some 0) with
  accessFlags := 49
  interfaces := #[]
  cf := some (fileOf pool1 32 #[] #[{ accessFlags := 1, nameIndex := 5, descriptorIndex := 6, attributes := #[] }, { accessFlags := 9, nameIndex := 36, descriptorIndex := 37, attributes := #[] }] 49 2 #[] #[])
  fields := #[]
  methods := #[k1m0, k1m1]
  instanceTypes := #[]
  staticTypes := #[]
  resolved := Array.replicate 43 none
  statics := none }

def pool2 : Array CpInfo := pool [(1, .class_ 2), (0, u "com/example/minnow/minnow/typing/Type$Constructed"), (1, .class_ 6), (1, u "com/example/minnow/minnow/typing/Type$Constructor"), (33, .class_ 42), (1, u "com/example/minnow/minnow/typing/Type"), (12, u "resolved"), (0, u "()Lcom/example/minnow/minnow/typing/Type;"), (0, .class_ 58), (0, u "com/example/minnow/minnow/typing/Type$Variable"), (36, u "INT"), (4, u "Lcom/example/minnow/minnow/typing/Type;"), (2, u "BOOL"), (4, u "UNIT"), (2, .class_ 112), (0, u "java/lang/Object"), (21, .class_ 135), (0, u "com/example/minnow/minnow/typing/Type$Equality")] 6

def k2c0 : Code := { maxStack := 1, maxLocals := 1, code := prog_78_method_5_code, exceptionTable := #[], attributes := #[] }
def k2m0 : Method := { name := "resolved", desc := "()Lcom/example/minnow/minnow/typing/Type;", sig := { parameters := [], returnType := some (.object "com/example/minnow/minnow/typing/Type") }, accessFlags := 1, code := some k2c0 }
/-- com/example/minnow/minnow/typing/Type -/
def k2 : Class := { plain "com/example/minnow/minnow/typing/Type" (some 0) with
  accessFlags := 1537
  interfaces := #[]
  cf := some (fileOf pool2 40 #[.nestMembers #[57, 1, 134, 4]] #[{ accessFlags := 1, nameIndex := 55, descriptorIndex := 56, attributes := #[] }] 1537 111 #[] #[{ accessFlags := 25, nameIndex := 95, descriptorIndex := 100, attributes := #[] }, { accessFlags := 25, nameIndex := 103, descriptorIndex := 100, attributes := #[] }, { accessFlags := 25, nameIndex := 108, descriptorIndex := 100, attributes := #[] }])
  fields := #[{ name := "INT", type := (.object "com/example/minnow/minnow/typing/Type"), accessFlags := 25, slot := 0, constantValue := 0 }, { name := "BOOL", type := (.object "com/example/minnow/minnow/typing/Type"), accessFlags := 25, slot := 1, constantValue := 0 }, { name := "UNIT", type := (.object "com/example/minnow/minnow/typing/Type"), accessFlags := 25, slot := 2, constantValue := 0 }]
  methods := #[k2m0]
  instanceTypes := #[]
  staticTypes := #[(.object "com/example/minnow/minnow/typing/Type"), (.object "com/example/minnow/minnow/typing/Type"), (.object "com/example/minnow/minnow/typing/Type")]
  resolved := Array.replicate 142 none
  statics := some 0 }

def pool3 : Array CpInfo := pool [(1, .methodref 2 3), (0, .class_ 4), (0, .nameAndType 5 6), (0, u "java/lang/Object"), (0, u "<init>"), (0, u "()V"), (0, .fieldref 8 9), (0, .class_ 10), (0, .nameAndType 11 12), (0, u "com/example/minnow/minnow/typing/Type$Variable"), (0, u "level"), (0, u "I"), (0, .fieldref 8 14), (0, .nameAndType 15 16), (0, u "settled"), (0, u "Lcom/example/minnow/minnow/typing/Type;"), (0, .interfaceMethodref 18 19), (0, .class_ 20), (0, .nameAndType 21 22), (0, u "com/example/minnow/minnow/typing/Type"), (0, u "resolved"), (0, u "()Lcom/example/minnow/minnow/typing/Type;"), (2, u "equality"), (0, u "Z"), (18, u "(I)V"), (3, u "settle"), (0, u "(Lcom/example/minnow/minnow/typing/Type;)V")] 12

def k3c0 : Code := { maxStack := 2, maxLocals := 2, code := prog_82_method_1_code, exceptionTable := #[], attributes := #[] }
def k3m0 : Method := { name := "<init>", desc := "(I)V", sig := { parameters := [.int], returnType := none }, accessFlags := 0, code := some k3c0 }
def k3c1 : Code := { maxStack := 2, maxLocals := 1, code := prog_82_method_2_code, exceptionTable := #[], attributes := #[] }
def k3m1 : Method := { name := "resolved", desc := "()Lcom/example/minnow/minnow/typing/Type;", sig := { parameters := [], returnType := some (.object "com/example/minnow/minnow/typing/Type") }, accessFlags := 1, code := some k3c1 }
def k3c2 : Code := { maxStack := 2, maxLocals := 2, code := prog_82_method_3_code, exceptionTable := #[], attributes := #[] }
def k3m2 : Method := { name := "settle", desc := "(Lcom/example/minnow/minnow/typing/Type;)V", sig := { parameters := [(.object "com/example/minnow/minnow/typing/Type")], returnType := none }, accessFlags := 0, code := some k3c2 }
/-- com/example/minnow/minnow/typing/Type$Variable -/
def k3 : Class := { plain "com/example/minnow/minnow/typing/Type$Variable" (some 0) with
  accessFlags := 49
  interfaces := #[2]
  cf := some (fileOf pool3 8 #[.nestHost 18] #[{ accessFlags := 0, nameIndex := 5, descriptorIndex := 45, attributes := #[] }, { accessFlags := 1, nameIndex := 21, descriptorIndex := 22, attributes := #[] }, { accessFlags := 0, nameIndex := 49, descriptorIndex := 50, attributes := #[] }] 49 2 #[18] #[{ accessFlags := 2, nameIndex := 15, descriptorIndex := 16, attributes := #[] }, { accessFlags := 2, nameIndex := 25, descriptorIndex := 26, attributes := #[] }, { accessFlags := 2, nameIndex := 11, descriptorIndex := 12, attributes := #[] }])
  fields := #[{ name := "settled", type := (.object "com/example/minnow/minnow/typing/Type"), accessFlags := 2, slot := 0, constantValue := 0 }, { name := "equality", type := .boolean, accessFlags := 2, slot := 1, constantValue := 0 }, { name := "level", type := .int, accessFlags := 2, slot := 2, constantValue := 0 }]
  methods := #[k3m0, k3m1, k3m2]
  instanceTypes := #[(.object "com/example/minnow/minnow/typing/Type"), .boolean, .int]
  staticTypes := #[]
  resolved := Array.replicate 63 none
  statics := none }

def pool4 : Array CpInfo := pool [(2, .class_ 4), (1, u "java/lang/Object"), (0, u "<init>"), (0, u "()V"), (0, .class_ 8), (0, u "java/lang/Record")] 13

def k4m0 : Method := { name := "<init>", desc := "()V", sig := { parameters := [], returnType := none }, accessFlags := 4, code := none }
/-- java/lang/Record -/
def k4 : Class := { plain "java/lang/Record" (some 0) with
  accessFlags := 1057
  interfaces := #[]
  cf := some (fileOf pool4 7 #[] #[{ accessFlags := 4, nameIndex := 5, descriptorIndex := 6, attributes := #[] }] 1057 2 #[] #[])
  fields := #[]
  methods := #[k4m0]
  instanceTypes := #[]
  staticTypes := #[]
  resolved := Array.replicate 22 none
  statics := none }

def pool5 : Array CpInfo := pool [(2, .class_ 4), (1, u "java/lang/Record"), (34, .class_ 41), (1, u "com/example/minnow/minnow/typing/Type$Constructed"), (0, u "constructor"), (0, u "Lcom/example/minnow/minnow/typing/Type$Constructor;"), (2, u "arguments"), (0, u "Ljava/util/List;"), (0, .class_ 49), (0, u "com/example/minnow/minnow/typing/Type")] 62

/-- com/example/minnow/minnow/typing/Type$Constructed -/
def k5 : Class := { plain "com/example/minnow/minnow/typing/Type$Constructed" (some 4) with
  accessFlags := 49
  interfaces := #[2]
  cf := some (fileOf pool5 39 #[.nestHost 48] #[] 49 2 #[48] #[{ accessFlags := 18, nameIndex := 42, descriptorIndex := 43, attributes := #[] }, { accessFlags := 18, nameIndex := 46, descriptorIndex := 47, attributes := #[] }])
  fields := #[{ name := "constructor", type := (.object "com/example/minnow/minnow/typing/Type$Constructor"), accessFlags := 18, slot := 0, constantValue := 0 }, { name := "arguments", type := (.object "java/util/List"), accessFlags := 18, slot := 1, constantValue := 0 }]
  methods := #[]
  instanceTypes := #[(.object "com/example/minnow/minnow/typing/Type$Constructor"), (.object "java/util/List")]
  staticTypes := #[]
  resolved := Array.replicate 112 none
  statics := none }

def pool6 : Array CpInfo := pool [(1, u "java/lang/Cloneable"), (0, .class_ 1), (0, u "java/lang/Object"), (0, .class_ 3)] 3

/-- java/lang/Cloneable -/
def k6 : Class := { plain "java/lang/Cloneable" (some 0) with
  accessFlags := 1537
  interfaces := #[]
  cf := some (fileOf pool6 2 #[] #[] 1537 4 #[] #[])
  fields := #[]
  methods := #[]
  instanceTypes := #[]
  staticTypes := #[]
  resolved := Array.replicate 8 none
  statics := none }

def pool7 : Array CpInfo := pool [(1, u "java/io/Serializable"), (0, .class_ 1), (0, u "java/lang/Object"), (0, .class_ 3)] 3

/-- java/io/Serializable -/
def k7 : Class := { plain "java/io/Serializable" (some 0) with
  accessFlags := 1537
  interfaces := #[]
  cf := some (fileOf pool7 2 #[] #[] 1537 4 #[] #[])
  fields := #[]
  methods := #[]
  instanceTypes := #[]
  staticTypes := #[]
  resolved := Array.replicate 8 none
  statics := none }

/-- the primitive byte -/
def k8 : Class := { plain "byte" none with kind := .primitive 'B', accessFlags := 0x411 }
/-- [B -/
def k9 : Class := { plain "[B" (some 0) with kind := .array 8 .byte, interfaces := #[6, 7], accessFlags := 1041 }

/-- the primitive int -/
def k10 : Class := { plain "int" none with kind := .primitive 'I', accessFlags := 0x411 }
/-- [I -/
def k11 : Class := { plain "[I" (some 0) with kind := .array 10 .int, interfaces := #[6, 7], accessFlags := 1041 }

def heap : Heap := #[{ cls := 2, slots := #[.ref 2, .ref 1, .ref 3], vm := .statics 2 },
  { cls := 5, slots := #[.null, .null], vm := .none },
  { cls := 5, slots := #[.null, .null], vm := .none },
  { cls := 5, slots := #[.null, .null], vm := .none }]
def classes : Array Class := #[k0, k1, k2, k3, k4, k5, k6, k7, k8, k9, k10, k11]
def interned : List (Array UInt16 × Addr) := []
def slotsUsed : Nat := 9
def theMethod : MethodId := ⟨1, 1⟩
def args0 : Array Value := #[.int 97, .int 1, .int 2, .int 3]
def aboutOver (below : List Frame) : State where
  vm := { classes := classes, interned := interned.toArray }
  heap := heap
  slotsUsed := slotsUsed
  threads := #[{ frames := .invoking theMethod args0 :: below }]
def below0 : List Frame := [.native { method := ⟨0, 0⟩, args := #[] }]
def about1 : State := aboutOver below0
def p0 : Program := .bare "" "" ""
def e0 : Env := launch0.env 0 0 0
theorem w_frames : about1.frames = Frame.invoking theMethod args0 :: below0 := rfl
set_option maxRecDepth 65536 in
theorem w_args : argsFit about1.vm theMethod args0 = true := by decide +kernel
set_option maxRecDepth 65536 in
theorem w_heap : heapFits about1 = true := by decide +kernel
set_option maxRecDepth 65536 in
theorem w_runnable : about1.curStatus? = some .runnable := by decide +kernel
set_option maxRecDepth 65536 in
theorem w_alone : about1.alone = true := by decide +kernel
set_option maxRecDepth 65536 in
theorem w_named : about1.methodNamed? x = some theMethod := by decide +kernel
set_option maxRecDepth 65536 in
theorem w_hears : about1.hears theMethod below0 = true := by decide +kernel
set_option maxRecDepth 65536 in
theorem w_ripe : about1.ripe theMethod args0 below0 = true := by decide +kernel
theorem w_running : about1.status = .running := rfl
set_option maxRecDepth 65536 in
theorem w_room : about1.hasRoom e0.platform room_1 = true :=
  launch0.hasRoom_least _ room_1 (by decide +kernel) (by decide +kernel) (by decide +kernel) (by decide +kernel) (by decide +kernel) (by decide +kernel)
theorem allAtoms_all (ts : List Jvm.Cond) (a : Array Jvm.Value) (st : Jvm.State) : (allAtoms ts).before a st = ts.all (fun c => c.before a st) := by
  induction ts with
  | nil => rfl
  | cons c t ih =>
    show (Jvm.Cond.and c (allAtoms t)).before a st = _
    rw [Jvm.Cond.before_and, ih, List.all_cons]
def words1 : List Jvm.Cond := Jvm.Cond.code x code maxLocals ret :: tables_1
/-- a 'code' word, met by the world's own term for the bytes: nothing is compared byte by byte -/
theorem code_word {y : MethodName} {bytes : ByteArray} {mx : Nat} {rt : Option FieldType} {a : Array Value} {s : State} {m : MethodId} {meth : Method} {c : Code} (h1 : s.methodNamed? y = some m) (h2 : s.vm.method? m = some meth) (h3 : meth.code = some c) (h4 : c.code = bytes)
    (h5 : (c.maxLocals == mx && c.exceptionTable.isEmpty && decide (c.maxStack ≤ mostOperands) && decide (meth.sig.returnType = rt) && !meth.locks && decide (parseMethodDescriptor y.desc = some meth.sig)) = true) : (Jvm.Cond.code y bytes mx rt).before a s = true := by
  simp only [Bool.and_eq_true, beq_iff_eq, Bool.not_eq_true', decide_eq_true_eq] at h5
  obtain ⟨⟨⟨⟨⟨g1, g2⟩, g3⟩, g4⟩, g5⟩, g6⟩ := h5
  simp [Cond.before, Cond.holds, Cond.value, h1, h2, h3, h4, g1, g2, g3, g4, g5, g6]
def isCode : Jvm.Cond → Bool
  | .code _ _ _ _ => true
  | _ => false
theorem all_split {L : List Jvm.Cond} {P : Jvm.Cond → Bool} (h1 : L.all (fun c => isCode c || P c) = true) (h2 : ∀ c ∈ L.filter isCode, P c = true) : L.all P = true := by
  refine List.all_eq_true.mpr fun c hc => ?_
  have h := List.all_eq_true.mp h1 c hc
  rcases Bool.eq_false_or_eq_true (isCode c) with hi | hi
  · exact h2 c (List.mem_filter.mpr ⟨hc, hi⟩)
  · simpa [hi] using h
set_option maxRecDepth 65536 in
theorem w_c0 : (Jvm.Cond.code x code maxLocals ret).before args0 about1 = true := code_word (m := ⟨1, 1⟩) (meth := k1m1) (c := k1c1) (by decide +kernel) rfl rfl rfl (by decide +kernel)
set_option maxRecDepth 65536 in
theorem w_c1 : (Jvm.Cond.code ({ cls := "com/example/minnow/minnow/typing/Type$Variable", name := "<init>", desc := "(I)V" } : Jvm.MethodName) prog_82_method_1_code (2 : Nat) (Option.none : Option Jvm.ClassFile.FieldType)).before args0 about1 = true := code_word (m := ⟨3, 0⟩) (meth := k3m0) (c := k3c0) (by decide +kernel) rfl rfl rfl (by decide +kernel)
set_option maxRecDepth 65536 in
theorem w_c2 : (Jvm.Cond.code ({ cls := "java/lang/Object", name := "<init>", desc := "()V" } : Jvm.MethodName) object_method_1_code (1 : Nat) (Option.none : Option Jvm.ClassFile.FieldType)).before args0 about1 = true := code_word (m := ⟨0, 0⟩) (meth := k0m0) (c := k0c0) (by decide +kernel) rfl rfl rfl (by decide +kernel)
set_option maxRecDepth 65536 in
theorem w_c3 : (Jvm.Cond.code ({ cls := "com/example/minnow/minnow/typing/Type$Variable", name := "settle", desc := "(Lcom/example/minnow/minnow/typing/Type;)V" } : Jvm.MethodName) prog_82_method_3_code (2 : Nat) (Option.none : Option Jvm.ClassFile.FieldType)).before args0 about1 = true := code_word (m := ⟨3, 2⟩) (meth := k3m2) (c := k3c2) (by decide +kernel) rfl rfl rfl (by decide +kernel)
set_option maxRecDepth 65536 in
theorem w_c4 : (Jvm.Cond.code ({ cls := "com/example/minnow/minnow/typing/Type$Variable", name := "resolved", desc := "()Lcom/example/minnow/minnow/typing/Type;" } : Jvm.MethodName) prog_82_method_2_code (1 : Nat) (Option.some (Jvm.ClassFile.FieldType.object "com/example/minnow/minnow/typing/Type"))).before args0 about1 = true := code_word (m := ⟨3, 1⟩) (meth := k3m1) (c := k3c1) (by decide +kernel) rfl rfl rfl (by decide +kernel)
set_option maxRecDepth 65536 in
theorem w_c5 : (Jvm.Cond.code ({ cls := "com/example/minnow/minnow/typing/Type", name := "resolved", desc := "()Lcom/example/minnow/minnow/typing/Type;" } : Jvm.MethodName) prog_78_method_5_code (1 : Nat) (Option.some (Jvm.ClassFile.FieldType.object "com/example/minnow/minnow/typing/Type"))).before args0 about1 = true := code_word (m := ⟨2, 0⟩) (meth := k2m0) (c := k2c0) (by decide +kernel) rfl rfl rfl (by decide +kernel)
def codes1 : List Jvm.Cond := [Jvm.Cond.code x code maxLocals ret, Jvm.Cond.code ({ cls := "com/example/minnow/minnow/typing/Type$Variable", name := "<init>", desc := "(I)V" } : Jvm.MethodName) prog_82_method_1_code (2 : Nat) (Option.none : Option Jvm.ClassFile.FieldType), Jvm.Cond.code ({ cls := "java/lang/Object", name := "<init>", desc := "()V" } : Jvm.MethodName) object_method_1_code (1 : Nat) (Option.none : Option Jvm.ClassFile.FieldType), Jvm.Cond.code ({ cls := "com/example/minnow/minnow/typing/Type$Variable", name := "settle", desc := "(Lcom/example/minnow/minnow/typing/Type;)V" } : Jvm.MethodName) prog_82_method_3_code (2 : Nat) (Option.none : Option Jvm.ClassFile.FieldType), Jvm.Cond.code ({ cls := "com/example/minnow/minnow/typing/Type$Variable", name := "resolved", desc := "()Lcom/example/minnow/minnow/typing/Type;" } : Jvm.MethodName) prog_82_method_2_code (1 : Nat) (Option.some (Jvm.ClassFile.FieldType.object "com/example/minnow/minnow/typing/Type")), Jvm.Cond.code ({ cls := "com/example/minnow/minnow/typing/Type", name := "resolved", desc := "()Lcom/example/minnow/minnow/typing/Type;" } : Jvm.MethodName) prog_78_method_5_code (1 : Nat) (Option.some (Jvm.ClassFile.FieldType.object "com/example/minnow/minnow/typing/Type"))]
set_option maxRecDepth 65536 in
theorem codes_eq : words1.filter isCode = codes1 := rfl
theorem w_codes : ∀ c ∈ words1.filter isCode, c.before args0 about1 = true := by
  rw [codes_eq]
  intro c hc
  simp only [codes1, List.mem_cons, List.not_mem_nil, or_false] at hc
  rcases hc with rfl | rfl | rfl | rfl | rfl | rfl
  · exact w_c0
  · exact w_c1
  · exact w_c2
  · exact w_c3
  · exact w_c4
  · exact w_c5
set_option maxRecDepth 65536 in
theorem w_t1 : (words1.take 24).all (fun c => isCode c || c.before args0 about1) = true := by decide +kernel
set_option maxRecDepth 65536 in
theorem w_t2 : (words1.drop 24).all (fun c => isCode c || c.before args0 about1) = true := by decide +kernel
theorem w_tables : (allAtoms (Jvm.Cond.code x code maxLocals ret :: tables_1)).before args0 about1 = true := by
  rw [allAtoms_all]
  show words1.all (fun c => c.before args0 about1) = true
  refine all_split ?_ w_codes
  rw [← List.take_append_drop 24 words1, List.all_append, w_t1, w_t2]
  rfl
set_option maxRecDepth 65536 in
theorem w_case : (Jvm.Cond.and given_1 narrow_1).before args0 about1 = true := by decide +kernel
theorem w_applies : (headSpec (Jvm.Cond.code x code maxLocals ret :: tables_1) room_1).applies x e0.platform about1 = true :=
  (Spec.applies_iff w_frames).mpr ⟨w_running, w_runnable, w_alone, w_named, w_hears, w_ripe, w_room, w_tables⟩
theorem atStart : AtStart classFile x code maxLocals ret World_1 tables_1 room_1 Calls_1 rest_1 Pre_1 launch0 p0 e0 about1 theMethod args0 below0 :=
  ⟨lists_1, trivial, launch0.admits_env _ _ _, launch0.least_env, fairChoices_fair.cas, fairChoices_fair.clock, w_frames, w_args, w_heap, w_applies, trivial, trivial, w_case⟩
end start1
theorem witness_1 : WitnessClaimed_1 := ⟨start1.p0, start1.e0, start1.about1, start1.theMethod, start1.args0, start1.below0, start1.atStart⟩
end Jvm.Pilot.@@N@@
