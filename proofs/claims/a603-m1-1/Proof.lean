import JvmDerived
import JvmDerived.Pilot.@@N@@Statement
import JvmDerived.Pilot.@@N@@Code
set_option linter.unusedVariables false
set_option linter.unusedSimpArgs false
namespace Jvm.Pilot.@@N@@
open Jvm Jvm.ClassFile Sem Op Lib Jvm.Free Jvm.Stand Jvm.LawKit Jvm.RoadKit Bundle Jvm.Pilot.@@N@@.Jvm.D
section Own
variable {p : Program} {l : Launch} {e : Env} {R : Room} {s : State} {m : MethodId} {args : Array Value} {below : List Frame} {meth : Method} {c : Code} {T T' : State} {locs : List Loc} {cells slots : Nat} {Φ : State → Outcome → Prop} {g g' : JFrame}
/-- from (T, g) the run comes to an end that Φ takes -/
def Go (p : Program) (e : Env) (below : List Frame) (Φ : State → Outcome → Prop) (T : State) (g : JFrame) : Prop := ∃ t o, Steps p.tables e below (T.setTop g) t ∧ Φ t o
theorem Go.of (h : ∀ t, Steps p.tables e below (T'.setTop g') t → Steps p.tables e below (T.setTop g) t) (k : Go p e below Φ T' g') : Go p e below Φ T g := by
  obtain ⟨t, o, h1, h2⟩ := k
  exact ⟨t, o, h t h1, h2⟩
theorem Go.tr (h : Steps p.tables e below (T.setTop g) (T'.setTop g')) (k : Go p e below Φ T' g') : Go p e below Φ T g := by
  obtain ⟨t, o, h1, h2⟩ := k
  exact ⟨t, o, h.trans h1, h2⟩
/-- what a body owes at its end -/
def EndQ (s : State) (below : List Frame) (Q : Option Value → Heap → List Loc → Prop) (C S : Nat) (t : State) (o : Outcome) : Prop := t.status = .running ∧ Ended t below o ∧ ∃ v L, o = .returned v ∧ Q v t.heap L ∧ FrameEnd s o t L C S
theorem Go.ret (X : Stand p l e R s m args below meth c T locs cells slots) (hx : p.tables.exec = Jvm.exec) (hlocks : meth.locks = false) {pc : Nat} {Ls : Array Slot} {w : Value} {t : FieldType} {i : Instr} {rest : List Value} (hret : meth.sig.returnType = some t) (hn : narrow t w = w)
    (hi : (i = .ireturn ∧ (t = .int ∨ t = .boolean ∨ t = .byte ∨ t = .char ∨ t = .short) ∧ ∃ z, w = .int z) ∨ (i = .lreturn ∧ t = .long ∧ ∃ z, w = .long z) ∨ (i = .dreturn ∧ t = .double ∧ ∃ z, w = .double z) ∨ (i = .freturn ∧ t = .float ∧ ∃ z, w = .float z) ∨ (i = .areturn ∧ t.isReference = true ∧ w.isRef = true))
    (hd : decode c.code pc = .ok (i, 1)) {Q : Option Value → Heap → List Loc → Prop} {C S : Nat} (hC : cells ≤ C) (hS : slots ≤ S) (hQ : Q (some w) T.heap locs) : Go p e below (EndQ s below Q C S) T (mkF m pc Ls (w :: rest)) := by
  obtain ⟨fs, hr, hrun, hended, hW, hsame⟩ := X.leave (v := some w) (fun h => by rw [hret] at h; cases h) hlocks
  exact ⟨_, _, retOut X hx hret hn hi hd hr, hrun, hended, _, _, rfl, hQ, ⟨_, rfl⟩, hW, hsame.mono hC hS⟩
theorem Go.retV (X : Stand p l e R s m args below meth c T locs cells slots) (hx : p.tables.exec = Jvm.exec) (hlocks : meth.locks = false) {pc : Nat} {Ls : Array Slot} (hret : meth.sig.returnType = none)
    (hd : decode c.code pc = .ok (.return_, 1)) {Q : Option Value → Heap → List Loc → Prop} {C S : Nat} (hC : cells ≤ C) (hS : slots ≤ S) (hQ : Q none T.heap locs) : Go p e below (EndQ s below Q C S) T (mkF m pc Ls []) := by
  obtain ⟨fs, hr, hrun, hended, hW, hsame⟩ := X.leave (v := none) (fun _ => rfl) hlocks
  exact ⟨_, _, X.returnOut hx hret hd hr, hrun, hended, _, _, rfl, hQ, ⟨_, rfl⟩, hW, hsame.mono hC hS⟩
def own_ushr (x y : Int32) : Int32 := (x.toUInt32 >>> (y &&& 31).toUInt32).toInt32
def own_ushrL (x : Int64) (y : Int32) : Int64 := (x.toUInt64 >>> (y &&& 0x3f).toInt64.toUInt64).toInt64
theorem own_one {v : Int32} (h : v = 1) : narrow .boolean (.int v) = .int v := by rw [h]; rfl
theorem own_nar_ref {t : FieldType} {v : Value} (h : v.isRef = true) (ht : t.isReference = true := by rfl) : narrow t v = v := by cases v <;> simp [Value.isRef] at h <;> cases t <;> first | rfl | cases ht
theorem own_fits_ref {t : FieldType} {v : Value} (h : v.isRef = true) (ht : t.isReference = true := by rfl) : fits t v = true := by cases v <;> simp [Value.isRef] at h <;> cases t <;> first | rfl | cases ht
end Own
theorem own_d1_0 : decode prog_8_method_1_code 0 = .ok (.aload_n 0, 1) := by decide +kernel
theorem own_d1_1 : decode prog_8_method_1_code 1 = .ok (.invokespecial 1, 3) := by decide +kernel
theorem own_d1_4 : decode prog_8_method_1_code 4 = .ok (.aload_n 0, 1) := by decide +kernel
theorem own_d1_5 : decode prog_8_method_1_code 5 = .ok (.lload_n 1, 1) := by decide +kernel
theorem own_d1_6 : decode prog_8_method_1_code 6 = .ok (.putfield 7, 3) := by decide +kernel
theorem own_d1_9 : decode prog_8_method_1_code 9 = .ok (.return_, 1) := by decide +kernel
theorem own_d3_0 : decode prog_8_method_5_code 0 = .ok (.aload_n 0, 1) := by decide +kernel
theorem own_d3_1 : decode prog_8_method_5_code 1 = .ok (.dup, 1) := by decide +kernel
theorem own_d3_2 : decode prog_8_method_5_code 2 = .ok (.getfield 32, 3) := by decide +kernel
theorem own_d3_5 : decode prog_8_method_5_code 5 = .ok (.lload_n 1, 1) := by decide +kernel
theorem own_d3_6 : decode prog_8_method_5_code 6 = .ok (.ladd, 1) := by decide +kernel
theorem own_d3_7 : decode prog_8_method_5_code 7 = .ok (.putfield 32, 3) := by decide +kernel
theorem own_d3_10 : decode prog_8_method_5_code 10 = .ok (.return_, 1) := by decide +kernel
theorem own_d4_0 : decode prog_8_method_4_code 0 = .ok (.lload_n 1, 1) := by decide +kernel
theorem own_d4_1 : decode prog_8_method_4_code 1 = .ok (.aload_n 0, 1) := by decide +kernel
theorem own_d4_2 : decode prog_8_method_4_code 2 = .ok (.getfield 7, 3) := by decide +kernel
theorem own_d4_5 : decode prog_8_method_4_code 5 = .ok (.aload_n 0, 1) := by decide +kernel
theorem own_d4_6 : decode prog_8_method_4_code 6 = .ok (.getfield 32, 3) := by decide +kernel
theorem own_d4_9 : decode prog_8_method_4_code 9 = .ok (.lsub, 1) := by decide +kernel
theorem own_d4_10 : decode prog_8_method_4_code 10 = .ok (.lcmp, 1) := by decide +kernel
theorem own_d4_11 : decode prog_8_method_4_code 11 = .ok (.ifCond .le 5, 3) := by decide +kernel
theorem own_d4_14 : decode prog_8_method_4_code 14 = .ok (.iconst 0, 1) := by decide +kernel
theorem own_d4_15 : decode prog_8_method_4_code 15 = .ok (.ireturn, 1) := by decide +kernel
theorem own_d4_16 : decode prog_8_method_4_code 16 = .ok (.aload_n 0, 1) := by decide +kernel
theorem own_d4_17 : decode prog_8_method_4_code 17 = .ok (.dup, 1) := by decide +kernel
theorem own_d4_18 : decode prog_8_method_4_code 18 = .ok (.getfield 32, 3) := by decide +kernel
theorem own_d4_21 : decode prog_8_method_4_code 21 = .ok (.lload_n 1, 1) := by decide +kernel
theorem own_d4_22 : decode prog_8_method_4_code 22 = .ok (.ladd, 1) := by decide +kernel
theorem own_d4_23 : decode prog_8_method_4_code 23 = .ok (.putfield 32, 3) := by decide +kernel
theorem own_d4_26 : decode prog_8_method_4_code 26 = .ok (.iconst 1, 1) := by decide +kernel
theorem own_d4_27 : decode prog_8_method_4_code 27 = .ok (.ireturn, 1) := by decide +kernel
theorem own_d5_0 : decode method_2_code 0 = .ok (.lload_n 0, 1) := by decide +kernel
theorem own_d5_1 : decode method_2_code 1 = .ok (.lload_n 2, 1) := by decide +kernel
theorem own_d5_2 : decode method_2_code 2 = .ok (.ladd, 1) := by decide +kernel
theorem own_d5_3 : decode method_2_code 3 = .ok (.lstore 6, 2) := by decide +kernel
theorem own_d5_5 : decode method_2_code 5 = .ok (.lload 6, 2) := by decide +kernel
theorem own_d5_7 : decode method_2_code 7 = .ok (.ldc2_w 9, 3) := by decide +kernel
theorem own_d5_10 : decode method_2_code 10 = .ok (.lxor, 1) := by decide +kernel
theorem own_d5_11 : decode method_2_code 11 = .ok (.lload 4, 2) := by decide +kernel
theorem own_d5_13 : decode method_2_code 13 = .ok (.ldc2_w 9, 3) := by decide +kernel
theorem own_d5_16 : decode method_2_code 16 = .ok (.lxor, 1) := by decide +kernel
theorem own_d5_17 : decode method_2_code 17 = .ok (.lcmp, 1) := by decide +kernel
theorem own_d5_18 : decode method_2_code 18 = .ok (.ifCond .gt 7, 3) := by decide +kernel
theorem own_d5_21 : decode method_2_code 21 = .ok (.iconst 1, 1) := by decide +kernel
theorem own_d5_22 : decode method_2_code 22 = .ok (.goto 4, 3) := by decide +kernel
theorem own_d5_25 : decode method_2_code 25 = .ok (.iconst 0, 1) := by decide +kernel
theorem own_d5_26 : decode method_2_code 26 = .ok (.ireturn, 1) := by decide +kernel
theorem own_d6_0 : decode prog_8_method_7_code 0 = .ok (.aload_n 0, 1) := by decide +kernel
theorem own_d6_1 : decode prog_8_method_7_code 1 = .ok (.getfield 32, 3) := by decide +kernel
theorem own_d6_4 : decode prog_8_method_7_code 4 = .ok (.lreturn, 1) := by decide +kernel
theorem own_d7_0 : decode prog_8_method_8_code 0 = .ok (.aload_n 0, 1) := by decide +kernel
theorem own_d7_1 : decode prog_8_method_8_code 1 = .ok (.getfield 7, 3) := by decide +kernel
theorem own_d7_4 : decode prog_8_method_8_code 4 = .ok (.lreturn, 1) := by decide +kernel
theorem own_pn0 : plainName "com/example/demarq/demarq/broker/MessageMemory" = true := by first | (simp [plainName, overriddenIn]; done) | decide +kernel
theorem own_pn1 : plainName "com/example/demarq/demarq/broker/MessageMemoryReservePinLaw" = true := by first | (simp [plainName, overriddenIn]; done) | decide +kernel
theorem own_pd0 : parseMethodDescriptor "(J)V" = some ⟨[.long], none⟩ := by decide +kernel
theorem own_pd1 : parseMethodDescriptor "(J)Z" = some ⟨[.long], some .boolean⟩ := by decide +kernel
theorem own_pd2 : parseMethodDescriptor "(JJJ)Z" = some ⟨[.long, .long, .long], some .boolean⟩ := by decide +kernel
theorem own_pd3 : parseMethodDescriptor "()J" = some ⟨[], some .long⟩ := by decide +kernel
theorem own_ef1 (m : MethodId) (a : Addr) (x : Int64) : entryFrame m #[(.ref a), (.long x)] 3 = mkF m 0 #[.val (.ref a), .val (.long x), .second] [] := by first | (simp [entryFrame, mkF, argsToLocals, Value.category]; done) | rfl
def Q1 (Z : State) (a : Addr) (x : Int64) (w : Int64) (u : Int64) (h0 : Heap) (n0 : Nat) (vr : Option Value) (hr : Heap) (Lr : List Loc) : Prop := vr = none ∧ Fr n0 Lr ∧ Keep h0 hr [a] ∧ Exa Z hr a "com/example/demarq/demarq/broker/MessageMemory" ∧ Fld Z hr a "com/example/demarq/demarq/broker/MessageMemory" "limit" "J" (.long x) ∧ Fld Z hr a "com/example/demarq/demarq/broker/MessageMemory" "used" "J" (.long u)
set_option maxRecDepth 65536 in
set_option maxHeartbeats 40000000 in
theorem rm1 (l : Launch) (Z : State) (a0 : Array Value) (hw : ∀ d ∈ tables_1, d.before a0 Z = true) (ws : List Jvm.Cond) (a : Addr) (x : Int64) (w : Int64) (u : Int64) (h0 : Heap) (n0 : Nat) (Z0 : n0 ≤ h0.size) (F_a_limit : Fld Z h0 a "com/example/demarq/demarq/broker/MessageMemory" "limit" "J" (.long w)) (F_a_used : Fld Z h0 a "com/example/demarq/demarq/broker/MessageMemory" "used" "J" (.long u)) (E_a : Exa Z h0 a "com/example/demarq/demarq/broker/MessageMemory") (g_a : n0 ≤ a) :
    MetFree l (⟨"com/example/demarq/demarq/broker/MessageMemory", "<init>", "(J)V"⟩ : MethodName) (head1 (Jvm.Cond.code (⟨"com/example/demarq/demarq/broker/MessageMemory", "<init>", "(J)V"⟩ : MethodName) prog_8_method_1_code 3 none :: ws) ({ frames := 1, cells := 0, slots := 0, locals := 12 } : Room)) (fun aQ UQ => aQ = #[(.ref a), (.long x)] ∧ Z.Warmed39 UQ.vm ∧ UQ.heap = h0) (fun _ _ _ _ _ => True) (fun _ UQ oQ VQ => ∃ vQ LQ, oQ = .returned vQ ∧ Q1 Z a x w u h0 n0 vQ VQ.heap LQ ∧ FrameEnd UQ oQ VQ LQ ({ frames := 1, cells := 0, slots := 0, locals := 12 } : Room).cells ({ frames := 1, cells := 0, slots := 0, locals := 12 } : Room).slots) := by
  refine MetFree.of_bodySF (plainFor_of_name own_pn0) hisR ?_
  intro p e s m args below meth c s₁ Bd hml0 hP hK
  obtain ⟨rfl, hZ, hh⟩ := hP
  have hx := Bd.exec
  have hby := Bd.bytes
  have hml : c.maxLocals = 3 := hml0
  have hown : s.vm.findClass "com/example/demarq/demarq/broker/MessageMemory" = some m.cls := findClass_of_methodNamed Bd.named
  have hnm := (name_of_methodNamed Bd.named Bd.method).1
  have X0 : Stand p l e ({ frames := 1, cells := 0, slots := 0, locals := 12 } : Room) s m #[(.ref a), (.long x)] below meth c s₁ [] 0 0 := Stand.of_body Bd
  have e0 : s₁.heap = h0 := by rw [← hh, Bd.state]; rfl
  have N0 := Fr.nil n0
  show Go p e below (EndQ s below (Q1 Z a x w u h0 n0) ({ frames := 1, cells := 0, slots := 0, locals := 12 } : Room).cells ({ frames := 1, cells := 0, slots := 0, locals := 12 } : Room).slots) s₁ (entryFrame m #[(.ref a), (.long x)] 3)
  obtain ⟨Φ, hΦ⟩ : ∃ Φ, Φ = EndQ s below (Q1 Z a x w u h0 n0) ({ frames := 1, cells := 0, slots := 0, locals := 12 } : Room).cells ({ frames := 1, cells := 0, slots := 0, locals := 12 } : Room).slots := ⟨_, rfl⟩
  rw [← hΦ, own_ef1]
  show Go p e below Φ s₁ (mkF m 0 #[.val (.ref a), .val (.long x), .second] [])
  refine Go.of (fun t k => XS.aloadN X0.here hx rfl (hb hby own_d1_0) rfl rfl  k) ?_
  show Go p e below Φ s₁ (mkF m 1 #[.val (.ref a), .val (.long x), .second] [(.ref a)])
  obtain ⟨T1, X1, e1, st1⟩ := initO X0 hx hZ hown (hw _ (List.mem_of_getElem? (i := 7) rfl)) (hw _ (List.mem_of_getElem? (i := 8) rfl)) (hw _ (List.mem_of_getElem? (i := 9) rfl)) e0 (g := (mkF m 1 #[.val (.ref a), .val (.long x), .second] [(.ref a)])) rfl (by rw [hml]; rfl) rfl (hb hby own_d1_1) (by decide) (W := 0) (by show 2 * 0 + _ ≤ _; exact Nat.le_of_eq rfl) (by decide)
  refine Go.of st1 ?_
  show Go p e below Φ T1 (mkF m 4 #[.val (.ref a), .val (.long x), .second] [])
  refine Go.of (fun t k => XS.aloadN X1.here hx rfl (hb hby own_d1_4) rfl rfl  k) ?_
  show Go p e below Φ T1 (mkF m 5 #[.val (.ref a), .val (.long x), .second] [(.ref a)])
  refine Go.of (fun t k => XS.lloadN X1.here hx rfl (hb hby own_d1_5) rfl  k) ?_
  show Go p e below Φ T1 (mkF m 6 #[.val (.ref a), .val (.long x), .second] [(.long x), (.ref a)])
  obtain ⟨T2, h2, X2, e2, W2, st2⟩ := putF X1 hx hZ hown (host := "") (Or.inl (hw _ (List.mem_of_getElem? (i := 10) rfl))) Via.refl e1 F_a_limit E_a (Or.inr ⟨(hw _ (List.mem_of_getElem? (i := 11) rfl)), rfl, hnm⟩) (hw _ (List.mem_of_getElem? (i := 2) rfl)) (ty := .long) (by decide) rfl rfl (g := (mkF m 6 #[.val (.ref a), .val (.long x), .second] [(.long x), (.ref a)])) rfl rfl (hb hby own_d1_6)
  have N2 := Fr.snoc X2 N0 g_a
  have F_a_limit := F_a_limit.same W2
  have F_a_used := F_a_used.other W2 (Or.inr (slot_ne (Or.inl (hw _ (List.mem_of_getElem? (i := 18) rfl))) (Or.inr (hw _ (List.mem_of_getElem? (i := 11) rfl))) (by decide) (t := .long) (t' := .long) (by decide) (by decide)))
  have E_a := E_a.wr W2
  have K2 : Keep h0 h2 [a] := (Keep.refl h0 [a]).wr W2 (Or.inl (List.mem_of_getElem? (i := 0) rfl))
  have Z2 := Nat.le_trans Z0 (Keep.of_wr W2).1
  obtain ⟨lc2, X2, N2⟩ : ∃ lc, Stand p l e ({ frames := 1, cells := 0, slots := 0, locals := 12 } : Room) s m #[(.ref a), (.long x)] below meth c T2 lc 0 0 ∧ Fr n0 lc := ⟨_, X2, N2⟩
  refine Go.of st2 ?_
  show Go p e below Φ T2 (mkF m 9 #[.val (.ref a), .val (.long x), .second] [])
  rw [hΦ]
  refine Go.retV X2 hx Bd.notSynchronized Bd.returns (hb hby own_d1_9) (by decide) (by decide) ?_
  rw [e2]
  exact ⟨rfl, N2, K2, E_a, F_a_limit, F_a_used⟩
theorem own_ef3 (m : MethodId) (a : Addr) (x : Int64) : entryFrame m #[(.ref a), (.long x)] 3 = mkF m 0 #[.val (.ref a), .val (.long x), .second] [] := by first | (simp [entryFrame, mkF, argsToLocals, Value.category]; done) | rfl
def Q3 (Z : State) (a : Addr) (x : Int64) (w : Int64) (u : Int64) (h0 : Heap) (n0 : Nat) (vr : Option Value) (hr : Heap) (Lr : List Loc) : Prop := vr = none ∧ Fr n0 Lr ∧ Keep h0 hr [a] ∧ Exa Z hr a "com/example/demarq/demarq/broker/MessageMemory" ∧ Fld Z hr a "com/example/demarq/demarq/broker/MessageMemory" "limit" "J" (.long w) ∧ Fld Z hr a "com/example/demarq/demarq/broker/MessageMemory" "used" "J" (.long (u + x))
set_option maxRecDepth 65536 in
set_option maxHeartbeats 40000000 in
theorem rm3 (l : Launch) (Z : State) (a0 : Array Value) (hw : ∀ d ∈ tables_1, d.before a0 Z = true) (ws : List Jvm.Cond) (a : Addr) (x : Int64) (w : Int64) (u : Int64) (h0 : Heap) (n0 : Nat) (Z0 : n0 ≤ h0.size) (F_a_limit : Fld Z h0 a "com/example/demarq/demarq/broker/MessageMemory" "limit" "J" (.long w)) (F_a_used : Fld Z h0 a "com/example/demarq/demarq/broker/MessageMemory" "used" "J" (.long u)) (E_a : Exa Z h0 a "com/example/demarq/demarq/broker/MessageMemory") (g_a : n0 ≤ a) :
    MetFree l (⟨"com/example/demarq/demarq/broker/MessageMemory", "add", "(J)V"⟩ : MethodName) (head1 (Jvm.Cond.code (⟨"com/example/demarq/demarq/broker/MessageMemory", "add", "(J)V"⟩ : MethodName) prog_8_method_5_code 3 none :: ws) ({ frames := 0, cells := 0, slots := 0, locals := 0 } : Room)) (fun aQ UQ => aQ = #[(.ref a), (.long x)] ∧ Z.Warmed39 UQ.vm ∧ UQ.heap = h0) (fun _ _ _ _ _ => True) (fun _ UQ oQ VQ => ∃ vQ LQ, oQ = .returned vQ ∧ Q3 Z a x w u h0 n0 vQ VQ.heap LQ ∧ FrameEnd UQ oQ VQ LQ ({ frames := 0, cells := 0, slots := 0, locals := 0 } : Room).cells ({ frames := 0, cells := 0, slots := 0, locals := 0 } : Room).slots) := by
  refine MetFree.of_bodySF (plainFor_of_name own_pn0) hisR ?_
  intro p e s m args below meth c s₁ Bd hml0 hP hK
  obtain ⟨rfl, hZ, hh⟩ := hP
  have hx := Bd.exec
  have hby := Bd.bytes
  have hml : c.maxLocals = 3 := hml0
  have hown : s.vm.findClass "com/example/demarq/demarq/broker/MessageMemory" = some m.cls := findClass_of_methodNamed Bd.named
  have hnm := (name_of_methodNamed Bd.named Bd.method).1
  have X0 : Stand p l e ({ frames := 0, cells := 0, slots := 0, locals := 0 } : Room) s m #[(.ref a), (.long x)] below meth c s₁ [] 0 0 := Stand.of_body Bd
  have e0 : s₁.heap = h0 := by rw [← hh, Bd.state]; rfl
  have N0 := Fr.nil n0
  show Go p e below (EndQ s below (Q3 Z a x w u h0 n0) ({ frames := 0, cells := 0, slots := 0, locals := 0 } : Room).cells ({ frames := 0, cells := 0, slots := 0, locals := 0 } : Room).slots) s₁ (entryFrame m #[(.ref a), (.long x)] 3)
  obtain ⟨Φ, hΦ⟩ : ∃ Φ, Φ = EndQ s below (Q3 Z a x w u h0 n0) ({ frames := 0, cells := 0, slots := 0, locals := 0 } : Room).cells ({ frames := 0, cells := 0, slots := 0, locals := 0 } : Room).slots := ⟨_, rfl⟩
  rw [← hΦ, own_ef3]
  show Go p e below Φ s₁ (mkF m 0 #[.val (.ref a), .val (.long x), .second] [])
  refine Go.of (fun t k => XS.aloadN X0.here hx rfl (hb hby own_d3_0) rfl rfl  k) ?_
  show Go p e below Φ s₁ (mkF m 1 #[.val (.ref a), .val (.long x), .second] [(.ref a)])
  refine Go.of (fun t k => XS.dup X0.here hx rfl (hb hby own_d3_1) rfl rfl k) ?_
  show Go p e below Φ s₁ (mkF m 2 #[.val (.ref a), .val (.long x), .second] [(.ref a), (.ref a)])
  obtain ⟨T1, X1, e1, st1⟩ := getF X0 hx hZ hown (host := "") (Or.inl (hw _ (List.mem_of_getElem? (i := 17) rfl))) Via.refl e0 F_a_used (g := (mkF m 2 #[.val (.ref a), .val (.long x), .second] [(.ref a), (.ref a)])) rfl rfl (hb hby own_d3_2)
  refine Go.of st1 ?_
  show Go p e below Φ T1 (mkF m 5 #[.val (.ref a), .val (.long x), .second] [(.long u), (.ref a)])
  refine Go.of (fun t k => XS.lloadN X1.here hx rfl (hb hby own_d3_5) rfl  k) ?_
  show Go p e below Φ T1 (mkF m 6 #[.val (.ref a), .val (.long x), .second] [(.long x), (.long u), (.ref a)])
  refine Go.of (fun t k => XS.ladd X1.here hx rfl (hb hby own_d3_6) rfl k) ?_
  show Go p e below Φ T1 (mkF m 7 #[.val (.ref a), .val (.long x), .second] [(.long (u + x)), (.ref a)])
  obtain ⟨T2, h2, X2, e2, W2, st2⟩ := putF X1 hx hZ hown (host := "") (Or.inl (hw _ (List.mem_of_getElem? (i := 17) rfl))) Via.refl e1 F_a_used E_a (Or.inl (hw _ (List.mem_of_getElem? (i := 18) rfl))) (hw _ (List.mem_of_getElem? (i := 2) rfl)) (ty := .long) (by decide) rfl rfl (g := (mkF m 7 #[.val (.ref a), .val (.long x), .second] [(.long (u + x)), (.ref a)])) rfl rfl (hb hby own_d3_7)
  have N2 := Fr.snoc X2 N0 g_a
  have F_a_used := F_a_used.same W2
  have F_a_limit := F_a_limit.other W2 (Or.inr (slot_ne (Or.inr (hw _ (List.mem_of_getElem? (i := 11) rfl))) (Or.inl (hw _ (List.mem_of_getElem? (i := 18) rfl))) (by decide) (t := .long) (t' := .long) (by decide) (by decide)))
  have E_a := E_a.wr W2
  have K2 : Keep h0 h2 [a] := (Keep.refl h0 [a]).wr W2 (Or.inl (List.mem_of_getElem? (i := 0) rfl))
  have Z2 := Nat.le_trans Z0 (Keep.of_wr W2).1
  obtain ⟨lc2, X2, N2⟩ : ∃ lc, Stand p l e ({ frames := 0, cells := 0, slots := 0, locals := 0 } : Room) s m #[(.ref a), (.long x)] below meth c T2 lc 0 0 ∧ Fr n0 lc := ⟨_, X2, N2⟩
  refine Go.of st2 ?_
  show Go p e below Φ T2 (mkF m 10 #[.val (.ref a), .val (.long x), .second] [])
  rw [hΦ]
  refine Go.retV X2 hx Bd.notSynchronized Bd.returns (hb hby own_d3_10) (by decide) (by decide) ?_
  rw [e2]
  exact ⟨rfl, N2, K2, E_a, F_a_limit, F_a_used⟩
def own_res (x : Int64) (w : Int64) (u : Int64) : Int32 := (if (w - u) < x then (0 : Int32) else (1 : Int32))
def own_p4_a_used (x : Int64) (w : Int64) (u : Int64) : Int64 := (if (w - u) < x then u else (u + x))
theorem own_ef4 (m : MethodId) (a : Addr) (x : Int64) : entryFrame m #[(.ref a), (.long x)] 3 = mkF m 0 #[.val (.ref a), .val (.long x), .second] [] := by first | (simp [entryFrame, mkF, argsToLocals, Value.category]; done) | rfl
def Q4 (Z : State) (a : Addr) (x : Int64) (w : Int64) (u : Int64) (h0 : Heap) (n0 : Nat) (vr : Option Value) (hr : Heap) (Lr : List Loc) : Prop := vr = some (.int (own_res x w u)) ∧ Fr n0 Lr ∧ Keep h0 hr [a] ∧ Exa Z hr a "com/example/demarq/demarq/broker/MessageMemory" ∧ Fld Z hr a "com/example/demarq/demarq/broker/MessageMemory" "limit" "J" (.long w) ∧ Fld Z hr a "com/example/demarq/demarq/broker/MessageMemory" "used" "J" (.long (own_p4_a_used x w u))
set_option maxRecDepth 65536 in
set_option maxHeartbeats 40000000 in
theorem rm4 (l : Launch) (Z : State) (a0 : Array Value) (hw : ∀ d ∈ tables_1, d.before a0 Z = true) (ws : List Jvm.Cond) (a : Addr) (x : Int64) (w : Int64) (u : Int64) (h0 : Heap) (n0 : Nat) (Z0 : n0 ≤ h0.size) (F_a_limit : Fld Z h0 a "com/example/demarq/demarq/broker/MessageMemory" "limit" "J" (.long w)) (F_a_used : Fld Z h0 a "com/example/demarq/demarq/broker/MessageMemory" "used" "J" (.long u)) (E_a : Exa Z h0 a "com/example/demarq/demarq/broker/MessageMemory") (g_a : n0 ≤ a) :
    MetFree l (⟨"com/example/demarq/demarq/broker/MessageMemory", "reserve", "(J)Z"⟩ : MethodName) (head1 (Jvm.Cond.code (⟨"com/example/demarq/demarq/broker/MessageMemory", "reserve", "(J)Z"⟩ : MethodName) prog_8_method_4_code 3 (some .boolean) :: ws) ({ frames := 0, cells := 0, slots := 0, locals := 0 } : Room)) (fun aQ UQ => aQ = #[(.ref a), (.long x)] ∧ Z.Warmed39 UQ.vm ∧ UQ.heap = h0) (fun _ _ _ _ _ => True) (fun _ UQ oQ VQ => ∃ vQ LQ, oQ = .returned vQ ∧ Q4 Z a x w u h0 n0 vQ VQ.heap LQ ∧ FrameEnd UQ oQ VQ LQ ({ frames := 0, cells := 0, slots := 0, locals := 0 } : Room).cells ({ frames := 0, cells := 0, slots := 0, locals := 0 } : Room).slots) := by
  refine MetFree.of_bodySF (plainFor_of_name own_pn0) hisR ?_
  intro p e s m args below meth c s₁ Bd hml0 hP hK
  obtain ⟨rfl, hZ, hh⟩ := hP
  have hx := Bd.exec
  have hby := Bd.bytes
  have hml : c.maxLocals = 3 := hml0
  have hown : s.vm.findClass "com/example/demarq/demarq/broker/MessageMemory" = some m.cls := findClass_of_methodNamed Bd.named
  have hnm := (name_of_methodNamed Bd.named Bd.method).1
  have X0 : Stand p l e ({ frames := 0, cells := 0, slots := 0, locals := 0 } : Room) s m #[(.ref a), (.long x)] below meth c s₁ [] 0 0 := Stand.of_body Bd
  have e0 : s₁.heap = h0 := by rw [← hh, Bd.state]; rfl
  have N0 := Fr.nil n0
  show Go p e below (EndQ s below (Q4 Z a x w u h0 n0) ({ frames := 0, cells := 0, slots := 0, locals := 0 } : Room).cells ({ frames := 0, cells := 0, slots := 0, locals := 0 } : Room).slots) s₁ (entryFrame m #[(.ref a), (.long x)] 3)
  obtain ⟨Φ, hΦ⟩ : ∃ Φ, Φ = EndQ s below (Q4 Z a x w u h0 n0) ({ frames := 0, cells := 0, slots := 0, locals := 0 } : Room).cells ({ frames := 0, cells := 0, slots := 0, locals := 0 } : Room).slots := ⟨_, rfl⟩
  rw [← hΦ, own_ef4]
  show Go p e below Φ s₁ (mkF m 0 #[.val (.ref a), .val (.long x), .second] [])
  refine Go.of (fun t k => XS.lloadN X0.here hx rfl (hb hby own_d4_0) rfl  k) ?_
  show Go p e below Φ s₁ (mkF m 1 #[.val (.ref a), .val (.long x), .second] [(.long x)])
  refine Go.of (fun t k => XS.aloadN X0.here hx rfl (hb hby own_d4_1) rfl rfl  k) ?_
  show Go p e below Φ s₁ (mkF m 2 #[.val (.ref a), .val (.long x), .second] [(.ref a), (.long x)])
  obtain ⟨T1, X1, e1, st1⟩ := getF X0 hx hZ hown (host := "") (Or.inl (hw _ (List.mem_of_getElem? (i := 10) rfl))) Via.refl e0 F_a_limit (g := (mkF m 2 #[.val (.ref a), .val (.long x), .second] [(.ref a), (.long x)])) rfl rfl (hb hby own_d4_2)
  refine Go.of st1 ?_
  show Go p e below Φ T1 (mkF m 5 #[.val (.ref a), .val (.long x), .second] [(.long w), (.long x)])
  refine Go.of (fun t k => XS.aloadN X1.here hx rfl (hb hby own_d4_5) rfl rfl  k) ?_
  show Go p e below Φ T1 (mkF m 6 #[.val (.ref a), .val (.long x), .second] [(.ref a), (.long w), (.long x)])
  obtain ⟨T2, X2, e2, st2⟩ := getF X1 hx hZ hown (host := "") (Or.inl (hw _ (List.mem_of_getElem? (i := 17) rfl))) Via.refl e1 F_a_used (g := (mkF m 6 #[.val (.ref a), .val (.long x), .second] [(.ref a), (.long w), (.long x)])) rfl rfl (hb hby own_d4_6)
  refine Go.of st2 ?_
  show Go p e below Φ T2 (mkF m 9 #[.val (.ref a), .val (.long x), .second] [(.long u), (.long w), (.long x)])
  refine Go.of (fun t k => XS.lsub X2.here hx rfl (hb hby own_d4_9) rfl k) ?_
  show Go p e below Φ T2 (mkF m 10 #[.val (.ref a), .val (.long x), .second] [(.long (w - u)), (.long x)])
  refine Go.of (fun t k => XT.lcmp X2.here hx rfl (hb hby own_d4_10) rfl k) ?_
  show Go p e below Φ T2 (mkF m 11 #[.val (.ref a), .val (.long x), .second] [(.int (XT.cmpL x (w - u)))])
  by_cases hc11 : (w - u) < x
  · refine Go.of (fun t k => XS.ifNo X2.here hx rfl (hb hby own_d4_11) rfl (XT.ll_le_f hc11) k) ?_
    show Go p e below Φ T2 (mkF m 14 #[.val (.ref a), .val (.long x), .second] [])
    refine Go.of (fun t k => XS.iconst X2.here hx rfl (hb hby own_d4_14) k) ?_
    show Go p e below Φ T2 (mkF m 15 #[.val (.ref a), .val (.long x), .second] [(.int (0 : Int32))])
    rw [hΦ]
    refine Go.ret X2 hx Bd.notSynchronized Bd.returns rfl (Or.inl ⟨rfl, Or.inr (Or.inl rfl), _, rfl⟩) (hb hby own_d4_15) (by decide) (by decide) ?_
    rw [e2]
    exact ⟨by rw [own_res, if_pos hc11], N0, (Keep.refl h0 [a]), E_a, F_a_limit, (by rw [own_p4_a_used, if_pos hc11]; exact F_a_used)⟩
  · refine Go.of (fun t k => XS.ifYes X2.here hx rfl (pc0 := 11) (pc' := 16) rfl (hb hby own_d4_11) rfl (XT.ll_le_t hc11) (by decide) (by decide) k) ?_
    show Go p e below Φ T2 (mkF m 16 #[.val (.ref a), .val (.long x), .second] [])
    refine Go.of (fun t k => XS.aloadN X2.here hx rfl (hb hby own_d4_16) rfl rfl  k) ?_
    show Go p e below Φ T2 (mkF m 17 #[.val (.ref a), .val (.long x), .second] [(.ref a)])
    refine Go.of (fun t k => XS.dup X2.here hx rfl (hb hby own_d4_17) rfl rfl k) ?_
    show Go p e below Φ T2 (mkF m 18 #[.val (.ref a), .val (.long x), .second] [(.ref a), (.ref a)])
    obtain ⟨T3, X3, e3, st3⟩ := getF X2 hx hZ hown (host := "") (Or.inl (hw _ (List.mem_of_getElem? (i := 17) rfl))) Via.refl e2 F_a_used (g := (mkF m 18 #[.val (.ref a), .val (.long x), .second] [(.ref a), (.ref a)])) rfl rfl (hb hby own_d4_18)
    refine Go.of st3 ?_
    show Go p e below Φ T3 (mkF m 21 #[.val (.ref a), .val (.long x), .second] [(.long u), (.ref a)])
    refine Go.of (fun t k => XS.lloadN X3.here hx rfl (hb hby own_d4_21) rfl  k) ?_
    show Go p e below Φ T3 (mkF m 22 #[.val (.ref a), .val (.long x), .second] [(.long x), (.long u), (.ref a)])
    refine Go.of (fun t k => XS.ladd X3.here hx rfl (hb hby own_d4_22) rfl k) ?_
    show Go p e below Φ T3 (mkF m 23 #[.val (.ref a), .val (.long x), .second] [(.long (u + x)), (.ref a)])
    obtain ⟨T4, h4, X4, e4, W4, st4⟩ := putF X3 hx hZ hown (host := "") (Or.inl (hw _ (List.mem_of_getElem? (i := 17) rfl))) Via.refl e3 F_a_used E_a (Or.inl (hw _ (List.mem_of_getElem? (i := 18) rfl))) (hw _ (List.mem_of_getElem? (i := 2) rfl)) (ty := .long) (by decide) rfl rfl (g := (mkF m 23 #[.val (.ref a), .val (.long x), .second] [(.long (u + x)), (.ref a)])) rfl rfl (hb hby own_d4_23)
    have N4 := Fr.snoc X4 N0 g_a
    have F_a_used := F_a_used.same W4
    have F_a_limit := F_a_limit.other W4 (Or.inr (slot_ne (Or.inr (hw _ (List.mem_of_getElem? (i := 11) rfl))) (Or.inl (hw _ (List.mem_of_getElem? (i := 18) rfl))) (by decide) (t := .long) (t' := .long) (by decide) (by decide)))
    have E_a := E_a.wr W4
    have K4 : Keep h0 h4 [a] := (Keep.refl h0 [a]).wr W4 (Or.inl (List.mem_of_getElem? (i := 0) rfl))
    have Z4 := Nat.le_trans Z0 (Keep.of_wr W4).1
    obtain ⟨lc4, X4, N4⟩ : ∃ lc, Stand p l e ({ frames := 0, cells := 0, slots := 0, locals := 0 } : Room) s m #[(.ref a), (.long x)] below meth c T4 lc 0 0 ∧ Fr n0 lc := ⟨_, X4, N4⟩
    refine Go.of st4 ?_
    show Go p e below Φ T4 (mkF m 26 #[.val (.ref a), .val (.long x), .second] [])
    refine Go.of (fun t k => XS.iconst X4.here hx rfl (hb hby own_d4_26) k) ?_
    show Go p e below Φ T4 (mkF m 27 #[.val (.ref a), .val (.long x), .second] [(.int (1 : Int32))])
    rw [hΦ]
    refine Go.ret X4 hx Bd.notSynchronized Bd.returns rfl (Or.inl ⟨rfl, Or.inr (Or.inl rfl), _, rfl⟩) (hb hby own_d4_27) (by decide) (by decide) ?_
    rw [e4]
    exact ⟨by rw [own_res, if_neg hc11], N4, K4, E_a, F_a_limit, (by rw [own_p4_a_used, if_neg hc11]; exact F_a_used)⟩
def own_fits (u : Int64) (b : Int64) (w : Int64) : Int32 := (if (w ^^^ (-9223372036854775808 : Int64)) < ((u + b) ^^^ (-9223372036854775808 : Int64)) then (0 : Int32) else (1 : Int32))
theorem own_ef5 (m : MethodId) (u : Int64) (b : Int64) (w : Int64) : entryFrame m #[(.long u), (.long b), (.long w)] 8 = mkF m 0 #[.val (.long u), .second, .val (.long b), .second, .val (.long w), .second, .unset, .unset] [] := by first | (simp [entryFrame, mkF, argsToLocals, Value.category]; done) | rfl
def Q5 (Z : State) (u : Int64) (b : Int64) (w : Int64) (h0 : Heap) (n0 : Nat) (vr : Option Value) (hr : Heap) (Lr : List Loc) : Prop := vr = some (.int (own_fits u b w)) ∧ Fr n0 Lr ∧ hr = h0
set_option maxRecDepth 65536 in
set_option maxHeartbeats 40000000 in
theorem rm5 (l : Launch) (Z : State) (a0 : Array Value) (hw : ∀ d ∈ tables_1, d.before a0 Z = true) (ws : List Jvm.Cond) (u : Int64) (b : Int64) (w : Int64) (h0 : Heap) (n0 : Nat) (Z0 : n0 ≤ h0.size) :
    MetFree l (⟨"com/example/demarq/demarq/broker/MessageMemoryReservePinLaw", "fits", "(JJJ)Z"⟩ : MethodName) (head1 (Jvm.Cond.code (⟨"com/example/demarq/demarq/broker/MessageMemoryReservePinLaw", "fits", "(JJJ)Z"⟩ : MethodName) method_2_code 8 (some .boolean) :: ws) ({ frames := 0, cells := 0, slots := 0, locals := 0 } : Room)) (fun aQ UQ => aQ = #[(.long u), (.long b), (.long w)] ∧ Z.Warmed39 UQ.vm ∧ UQ.heap = h0) (fun _ _ _ _ _ => True) (fun _ UQ oQ VQ => ∃ vQ LQ, oQ = .returned vQ ∧ Q5 Z u b w h0 n0 vQ VQ.heap LQ ∧ FrameEnd UQ oQ VQ LQ ({ frames := 0, cells := 0, slots := 0, locals := 0 } : Room).cells ({ frames := 0, cells := 0, slots := 0, locals := 0 } : Room).slots) := by
  refine MetFree.of_bodySF (plainFor_of_name own_pn1) hisR ?_
  intro p e s m args below meth c s₁ Bd hml0 hP hK
  obtain ⟨rfl, hZ, hh⟩ := hP
  have hx := Bd.exec
  have hby := Bd.bytes
  have hml : c.maxLocals = 8 := hml0
  have hown : s.vm.findClass "com/example/demarq/demarq/broker/MessageMemoryReservePinLaw" = some m.cls := findClass_of_methodNamed Bd.named
  have hnm := (name_of_methodNamed Bd.named Bd.method).1
  have X0 : Stand p l e ({ frames := 0, cells := 0, slots := 0, locals := 0 } : Room) s m #[(.long u), (.long b), (.long w)] below meth c s₁ [] 0 0 := Stand.of_body Bd
  have e0 : s₁.heap = h0 := by rw [← hh, Bd.state]; rfl
  have N0 := Fr.nil n0
  show Go p e below (EndQ s below (Q5 Z u b w h0 n0) ({ frames := 0, cells := 0, slots := 0, locals := 0 } : Room).cells ({ frames := 0, cells := 0, slots := 0, locals := 0 } : Room).slots) s₁ (entryFrame m #[(.long u), (.long b), (.long w)] 8)
  obtain ⟨Φ, hΦ⟩ : ∃ Φ, Φ = EndQ s below (Q5 Z u b w h0 n0) ({ frames := 0, cells := 0, slots := 0, locals := 0 } : Room).cells ({ frames := 0, cells := 0, slots := 0, locals := 0 } : Room).slots := ⟨_, rfl⟩
  rw [← hΦ, own_ef5]
  show Go p e below Φ s₁ (mkF m 0 #[.val (.long u), .second, .val (.long b), .second, .val (.long w), .second, .unset, .unset] [])
  refine Go.of (fun t k => XS.lloadN X0.here hx rfl (hb hby own_d5_0) rfl  k) ?_
  show Go p e below Φ s₁ (mkF m 1 #[.val (.long u), .second, .val (.long b), .second, .val (.long w), .second, .unset, .unset] [(.long u)])
  refine Go.of (fun t k => XS.lloadN X0.here hx rfl (hb hby own_d5_1) rfl  k) ?_
  show Go p e below Φ s₁ (mkF m 2 #[.val (.long u), .second, .val (.long b), .second, .val (.long w), .second, .unset, .unset] [(.long b), (.long u)])
  refine Go.of (fun t k => XS.ladd X0.here hx rfl (hb hby own_d5_2) rfl k) ?_
  show Go p e below Φ s₁ (mkF m 3 #[.val (.long u), .second, .val (.long b), .second, .val (.long w), .second, .unset, .unset] [(.long (u + b))])
  refine Go.of (fun t k => XS.lstore X0.here hx rfl (hb hby own_d5_3) rfl (l' := #[.val (.long u), .second, .val (.long b), .second, .val (.long w), .second, .val (.long (u + b)), .second]) rfl k) ?_
  show Go p e below Φ s₁ (mkF m 5 #[.val (.long u), .second, .val (.long b), .second, .val (.long w), .second, .val (.long (u + b)), .second] [])
  refine Go.of (fun t k => XS.lload X0.here hx rfl (hb hby own_d5_5) rfl  k) ?_
  show Go p e below Φ s₁ (mkF m 7 #[.val (.long u), .second, .val (.long b), .second, .val (.long w), .second, .val (.long (u + b)), .second] [(.long (u + b))])
  refine Go.of (fun t k => X0.ldc2Long hx hown (mvT hZ (hw _ (List.mem_of_getElem? (i := 28) rfl))) (g := (mkF m 7 #[.val (.long u), .second, .val (.long b), .second, .val (.long w), .second, .val (.long (u + b)), .second] [(.long (u + b))])) rfl (hb hby own_d5_7) t k) ?_
  show Go p e below Φ s₁ (mkF m 10 #[.val (.long u), .second, .val (.long b), .second, .val (.long w), .second, .val (.long (u + b)), .second] [(.long (-9223372036854775808 : Int64)), (.long (u + b))])
  refine Go.of (fun t k => XS.lxor X0.here hx rfl (hb hby own_d5_10) rfl k) ?_
  show Go p e below Φ s₁ (mkF m 11 #[.val (.long u), .second, .val (.long b), .second, .val (.long w), .second, .val (.long (u + b)), .second] [(.long ((u + b) ^^^ (-9223372036854775808 : Int64)))])
  refine Go.of (fun t k => XS.lload X0.here hx rfl (hb hby own_d5_11) rfl  k) ?_
  show Go p e below Φ s₁ (mkF m 13 #[.val (.long u), .second, .val (.long b), .second, .val (.long w), .second, .val (.long (u + b)), .second] [(.long w), (.long ((u + b) ^^^ (-9223372036854775808 : Int64)))])
  refine Go.of (fun t k => X0.ldc2Long hx hown (mvT hZ (hw _ (List.mem_of_getElem? (i := 28) rfl))) (g := (mkF m 13 #[.val (.long u), .second, .val (.long b), .second, .val (.long w), .second, .val (.long (u + b)), .second] [(.long w), (.long ((u + b) ^^^ (-9223372036854775808 : Int64)))])) rfl (hb hby own_d5_13) t k) ?_
  show Go p e below Φ s₁ (mkF m 16 #[.val (.long u), .second, .val (.long b), .second, .val (.long w), .second, .val (.long (u + b)), .second] [(.long (-9223372036854775808 : Int64)), (.long w), (.long ((u + b) ^^^ (-9223372036854775808 : Int64)))])
  refine Go.of (fun t k => XS.lxor X0.here hx rfl (hb hby own_d5_16) rfl k) ?_
  show Go p e below Φ s₁ (mkF m 17 #[.val (.long u), .second, .val (.long b), .second, .val (.long w), .second, .val (.long (u + b)), .second] [(.long (w ^^^ (-9223372036854775808 : Int64))), (.long ((u + b) ^^^ (-9223372036854775808 : Int64)))])
  refine Go.of (fun t k => XT.lcmp X0.here hx rfl (hb hby own_d5_17) rfl k) ?_
  show Go p e below Φ s₁ (mkF m 18 #[.val (.long u), .second, .val (.long b), .second, .val (.long w), .second, .val (.long (u + b)), .second] [(.int (XT.cmpL ((u + b) ^^^ (-9223372036854775808 : Int64)) (w ^^^ (-9223372036854775808 : Int64))))])
  by_cases hc18 : (w ^^^ (-9223372036854775808 : Int64)) < ((u + b) ^^^ (-9223372036854775808 : Int64))
  · refine Go.of (fun t k => XS.ifYes X0.here hx rfl (pc0 := 18) (pc' := 25) rfl (hb hby own_d5_18) rfl (XT.ll_gt_t hc18) (by decide) (by decide) k) ?_
    show Go p e below Φ s₁ (mkF m 25 #[.val (.long u), .second, .val (.long b), .second, .val (.long w), .second, .val (.long (u + b)), .second] [])
    refine Go.of (fun t k => XS.iconst X0.here hx rfl (hb hby own_d5_25) k) ?_
    show Go p e below Φ s₁ (mkF m 26 #[.val (.long u), .second, .val (.long b), .second, .val (.long w), .second, .val (.long (u + b)), .second] [(.int (0 : Int32))])
    rw [hΦ]
    refine Go.ret X0 hx Bd.notSynchronized Bd.returns rfl (Or.inl ⟨rfl, Or.inr (Or.inl rfl), _, rfl⟩) (hb hby own_d5_26) (by decide) (by decide) ?_
    rw [e0]
    exact ⟨by rw [own_fits, if_pos hc18], N0, rfl⟩
  · refine Go.of (fun t k => XS.ifNo X0.here hx rfl (hb hby own_d5_18) rfl (XT.ll_gt_f hc18) k) ?_
    show Go p e below Φ s₁ (mkF m 21 #[.val (.long u), .second, .val (.long b), .second, .val (.long w), .second, .val (.long (u + b)), .second] [])
    refine Go.of (fun t k => XS.iconst X0.here hx rfl (hb hby own_d5_21) k) ?_
    show Go p e below Φ s₁ (mkF m 22 #[.val (.long u), .second, .val (.long b), .second, .val (.long w), .second, .val (.long (u + b)), .second] [(.int (1 : Int32))])
    refine Go.of (fun t k => XS.goto X0.here hx rfl (pc0 := 22) (pc' := 26) rfl (hb hby own_d5_22) (by decide) (by decide) k) ?_
    show Go p e below Φ s₁ (mkF m 26 #[.val (.long u), .second, .val (.long b), .second, .val (.long w), .second, .val (.long (u + b)), .second] [(.int (1 : Int32))])
    rw [hΦ]
    refine Go.ret X0 hx Bd.notSynchronized Bd.returns rfl (Or.inl ⟨rfl, Or.inr (Or.inl rfl), _, rfl⟩) (hb hby own_d5_26) (by decide) (by decide) ?_
    rw [e0]
    exact ⟨by rw [own_fits, if_neg hc18], N0, rfl⟩
theorem own_ef6 (m : MethodId) (a : Addr) : entryFrame m #[(.ref a)] 1 = mkF m 0 #[.val (.ref a)] [] := by first | (simp [entryFrame, mkF, argsToLocals, Value.category]; done) | rfl
def Q6 (Z : State) (a : Addr) (u : Int64) (h0 : Heap) (n0 : Nat) (vr : Option Value) (hr : Heap) (Lr : List Loc) : Prop := vr = some (.long u) ∧ Fr n0 Lr ∧ hr = h0
set_option maxRecDepth 65536 in
set_option maxHeartbeats 40000000 in
theorem rm6 (l : Launch) (Z : State) (a0 : Array Value) (hw : ∀ d ∈ tables_1, d.before a0 Z = true) (ws : List Jvm.Cond) (a : Addr) (u : Int64) (h0 : Heap) (n0 : Nat) (Z0 : n0 ≤ h0.size) (F_a_used : Fld Z h0 a "com/example/demarq/demarq/broker/MessageMemory" "used" "J" (.long u)) :
    MetFree l (⟨"com/example/demarq/demarq/broker/MessageMemory", "used", "()J"⟩ : MethodName) (head1 (Jvm.Cond.code (⟨"com/example/demarq/demarq/broker/MessageMemory", "used", "()J"⟩ : MethodName) prog_8_method_7_code 1 (some .long) :: ws) ({ frames := 0, cells := 0, slots := 0, locals := 0 } : Room)) (fun aQ UQ => aQ = #[(.ref a)] ∧ Z.Warmed39 UQ.vm ∧ UQ.heap = h0) (fun _ _ _ _ _ => True) (fun _ UQ oQ VQ => ∃ vQ LQ, oQ = .returned vQ ∧ Q6 Z a u h0 n0 vQ VQ.heap LQ ∧ FrameEnd UQ oQ VQ LQ ({ frames := 0, cells := 0, slots := 0, locals := 0 } : Room).cells ({ frames := 0, cells := 0, slots := 0, locals := 0 } : Room).slots) := by
  refine MetFree.of_bodySF (plainFor_of_name own_pn0) hisR ?_
  intro p e s m args below meth c s₁ Bd hml0 hP hK
  obtain ⟨rfl, hZ, hh⟩ := hP
  have hx := Bd.exec
  have hby := Bd.bytes
  have hml : c.maxLocals = 1 := hml0
  have hown : s.vm.findClass "com/example/demarq/demarq/broker/MessageMemory" = some m.cls := findClass_of_methodNamed Bd.named
  have hnm := (name_of_methodNamed Bd.named Bd.method).1
  have X0 : Stand p l e ({ frames := 0, cells := 0, slots := 0, locals := 0 } : Room) s m #[(.ref a)] below meth c s₁ [] 0 0 := Stand.of_body Bd
  have e0 : s₁.heap = h0 := by rw [← hh, Bd.state]; rfl
  have N0 := Fr.nil n0
  show Go p e below (EndQ s below (Q6 Z a u h0 n0) ({ frames := 0, cells := 0, slots := 0, locals := 0 } : Room).cells ({ frames := 0, cells := 0, slots := 0, locals := 0 } : Room).slots) s₁ (entryFrame m #[(.ref a)] 1)
  obtain ⟨Φ, hΦ⟩ : ∃ Φ, Φ = EndQ s below (Q6 Z a u h0 n0) ({ frames := 0, cells := 0, slots := 0, locals := 0 } : Room).cells ({ frames := 0, cells := 0, slots := 0, locals := 0 } : Room).slots := ⟨_, rfl⟩
  rw [← hΦ, own_ef6]
  show Go p e below Φ s₁ (mkF m 0 #[.val (.ref a)] [])
  refine Go.of (fun t k => XS.aloadN X0.here hx rfl (hb hby own_d6_0) rfl rfl  k) ?_
  show Go p e below Φ s₁ (mkF m 1 #[.val (.ref a)] [(.ref a)])
  obtain ⟨T1, X1, e1, st1⟩ := getF X0 hx hZ hown (host := "") (Or.inl (hw _ (List.mem_of_getElem? (i := 17) rfl))) Via.refl e0 F_a_used (g := (mkF m 1 #[.val (.ref a)] [(.ref a)])) rfl rfl (hb hby own_d6_1)
  refine Go.of st1 ?_
  show Go p e below Φ T1 (mkF m 4 #[.val (.ref a)] [(.long u)])
  rw [hΦ]
  refine Go.ret X1 hx Bd.notSynchronized Bd.returns rfl (Or.inr (Or.inl ⟨rfl, rfl, _, rfl⟩)) (hb hby own_d6_4) (by decide) (by decide) ?_
  rw [e1]
  exact ⟨rfl, N0, rfl⟩
theorem own_ef7 (m : MethodId) (a : Addr) : entryFrame m #[(.ref a)] 1 = mkF m 0 #[.val (.ref a)] [] := by first | (simp [entryFrame, mkF, argsToLocals, Value.category]; done) | rfl
def Q7 (Z : State) (a : Addr) (w : Int64) (h0 : Heap) (n0 : Nat) (vr : Option Value) (hr : Heap) (Lr : List Loc) : Prop := vr = some (.long w) ∧ Fr n0 Lr ∧ hr = h0
set_option maxRecDepth 65536 in
set_option maxHeartbeats 40000000 in
theorem rm7 (l : Launch) (Z : State) (a0 : Array Value) (hw : ∀ d ∈ tables_1, d.before a0 Z = true) (ws : List Jvm.Cond) (a : Addr) (w : Int64) (h0 : Heap) (n0 : Nat) (Z0 : n0 ≤ h0.size) (F_a_limit : Fld Z h0 a "com/example/demarq/demarq/broker/MessageMemory" "limit" "J" (.long w)) :
    MetFree l (⟨"com/example/demarq/demarq/broker/MessageMemory", "limit", "()J"⟩ : MethodName) (head1 (Jvm.Cond.code (⟨"com/example/demarq/demarq/broker/MessageMemory", "limit", "()J"⟩ : MethodName) prog_8_method_8_code 1 (some .long) :: ws) ({ frames := 0, cells := 0, slots := 0, locals := 0 } : Room)) (fun aQ UQ => aQ = #[(.ref a)] ∧ Z.Warmed39 UQ.vm ∧ UQ.heap = h0) (fun _ _ _ _ _ => True) (fun _ UQ oQ VQ => ∃ vQ LQ, oQ = .returned vQ ∧ Q7 Z a w h0 n0 vQ VQ.heap LQ ∧ FrameEnd UQ oQ VQ LQ ({ frames := 0, cells := 0, slots := 0, locals := 0 } : Room).cells ({ frames := 0, cells := 0, slots := 0, locals := 0 } : Room).slots) := by
  refine MetFree.of_bodySF (plainFor_of_name own_pn0) hisR ?_
  intro p e s m args below meth c s₁ Bd hml0 hP hK
  obtain ⟨rfl, hZ, hh⟩ := hP
  have hx := Bd.exec
  have hby := Bd.bytes
  have hml : c.maxLocals = 1 := hml0
  have hown : s.vm.findClass "com/example/demarq/demarq/broker/MessageMemory" = some m.cls := findClass_of_methodNamed Bd.named
  have hnm := (name_of_methodNamed Bd.named Bd.method).1
  have X0 : Stand p l e ({ frames := 0, cells := 0, slots := 0, locals := 0 } : Room) s m #[(.ref a)] below meth c s₁ [] 0 0 := Stand.of_body Bd
  have e0 : s₁.heap = h0 := by rw [← hh, Bd.state]; rfl
  have N0 := Fr.nil n0
  show Go p e below (EndQ s below (Q7 Z a w h0 n0) ({ frames := 0, cells := 0, slots := 0, locals := 0 } : Room).cells ({ frames := 0, cells := 0, slots := 0, locals := 0 } : Room).slots) s₁ (entryFrame m #[(.ref a)] 1)
  obtain ⟨Φ, hΦ⟩ : ∃ Φ, Φ = EndQ s below (Q7 Z a w h0 n0) ({ frames := 0, cells := 0, slots := 0, locals := 0 } : Room).cells ({ frames := 0, cells := 0, slots := 0, locals := 0 } : Room).slots := ⟨_, rfl⟩
  rw [← hΦ, own_ef7]
  show Go p e below Φ s₁ (mkF m 0 #[.val (.ref a)] [])
  refine Go.of (fun t k => XS.aloadN X0.here hx rfl (hb hby own_d7_0) rfl rfl  k) ?_
  show Go p e below Φ s₁ (mkF m 1 #[.val (.ref a)] [(.ref a)])
  obtain ⟨T1, X1, e1, st1⟩ := getF X0 hx hZ hown (host := "") (Or.inl (hw _ (List.mem_of_getElem? (i := 10) rfl))) Via.refl e0 F_a_limit (g := (mkF m 1 #[.val (.ref a)] [(.ref a)])) rfl rfl (hb hby own_d7_1)
  refine Go.of st1 ?_
  show Go p e below Φ T1 (mkF m 4 #[.val (.ref a)] [(.long w)])
  rw [hΦ]
  refine Go.ret X1 hx Bd.notSynchronized Bd.returns rfl (Or.inr (Or.inl ⟨rfl, rfl, _, rfl⟩)) (hb hby own_d7_4) (by decide) (by decide) ?_
  rw [e1]
  exact ⟨rfl, N0, rfl⟩
theorem own_low (x : Int64) : (x ^^^ (-9223372036854775808 : Int64)) &&& (9223372036854775807 : Int64) = x &&& (9223372036854775807 : Int64) := by
  apply Int64.toBitVec_inj.mp
  rw [Int64.toBitVec_and, Int64.toBitVec_xor, Int64.toBitVec_and]
  apply BitVec.eq_of_toNat_eq
  rw [BitVec.toNat_and, BitVec.toNat_xor, BitVec.toNat_and]
  have e1 : (Int64.toBitVec (-9223372036854775808 : Int64)).toNat = 2 ^ 63 := by decide
  have e2 : (Int64.toBitVec (9223372036854775807 : Int64)).toNat = 2 ^ 63 - 1 := by decide
  rw [e1, e2, Nat.and_xor_distrib_right]
  have e3 : 2 ^ 63 &&& (2 ^ 63 - 1) = 0 := by decide
  rw [e3, Nat.xor_zero]
theorem own_xor (x : Int64) : (x.toInt < 0 → (x ^^^ (-9223372036854775808 : Int64)).toInt = x.toInt + 9223372036854775808) ∧ (0 ≤ x.toInt → (x ^^^ (-9223372036854775808 : Int64)).toInt = x.toInt - 9223372036854775808) := by
  have h1 := c_maskL x (9223372036854775807 : Int64) 63 (by decide) (by decide)
  have h2 := c_maskL (x ^^^ (-9223372036854775808 : Int64)) (9223372036854775807 : Int64) 63 (by decide) (by decide)
  rw [own_low, h1] at h2
  have h3 := XT.xor_neg64 x (-9223372036854775808 : Int64)
  have h4 : (-9223372036854775808 : Int64) < 0 := by decide
  rw [XT.negI64, XT.negI64] at h3
  simp only [h4, iff_true] at h3
  have r1 := rng64 x
  have r2 := rng64 (x ^^^ (-9223372036854775808 : Int64))
  simp only [Nat.reducePow] at h2
  constructor
  · intro h
    have : ¬ (x ^^^ (-9223372036854775808 : Int64)).toInt < 0 := fun q => h3.mp q h
    omega
  · intro h
    have : (x ^^^ (-9223372036854775808 : Int64)).toInt < 0 := h3.mpr (by omega)
    omega
theorem own_iff (w u b : Int64) (hw : 0 ≤ w.toInt) (hu : 0 ≤ u.toInt) (hb : 0 ≤ b.toInt) : ((w - u) < b ↔ (w ^^^ (-9223372036854775808 : Int64)) < ((u + b) ^^^ (-9223372036854775808 : Int64))) ∧ ((w - u) < b ↔ w.toInt < u.toInt + b.toInt) := by
  have s1 := c_lsub w u
  have s2 := c_ladd u b
  have r1 := rng64 w; have r2 := rng64 u; have r3 := rng64 b; have r4 := rng64 (w - u); have r5 := rng64 (u + b)
  have x1 := (own_xor w).2 hw
  have x2 := own_xor (u + b)
  rw [Int64.lt_iff_toInt_lt, Int64.lt_iff_toInt_lt, x1]
  rcases Int.lt_or_le (u + b).toInt 0 with q | q
  · rw [x2.1 q]; omega
  · rw [x2.2 q]; omega
theorem own_core (w u b : Int64) (hw : 0 ≤ w.toInt) (hu : 0 ≤ u.toInt) (hb : 0 ≤ b.toInt) : own_res b w u = own_fits u b w := by
  have h := (own_iff w u b hw hu hb).1
  rw [own_res, own_fits]
  by_cases q : (w - u) < b
  · rw [if_pos q, if_pos (h.mp q)]
  · rw [if_neg q, if_neg (fun z => q (h.mpr z))]
theorem own_nn (x : Int64) : 0 ≤ (x &&& (9223372036854775807 : Int64)).toInt := by
  rw [c_maskL x (9223372036854775807 : Int64) 63 (by decide) (by decide)]; omega
theorem own_use (w u b : Int64) (hw : 0 ≤ w.toInt) (hu : 0 ≤ u.toInt) (hb : 0 ≤ b.toInt) : own_p4_a_used b w u = (if own_fits u b w = (0 : Int32) then u else (u + b)) := by
  rw [← own_core w u b hw hu hb, own_p4_a_used, own_res]
  by_cases q : (w - u) < b
  · rw [if_pos q, if_pos q, if_pos rfl]
  · rw [if_neg q, if_neg q, if_neg (by decide)]
theorem own_unn (w u b : Int64) (hw : 0 ≤ w.toInt) (hu : 0 ≤ u.toInt) (hb : 0 ≤ b.toInt) : 0 ≤ (own_p4_a_used b w u).toInt := by
  rw [own_p4_a_used]
  have h := (own_iff w u b hw hu hb).2
  by_cases q : (w - u) < b
  · rw [if_pos q]; exact hu
  · rw [if_neg q]
    have s2 := c_ladd u b
    have r1 := rng64 w; have r5 := rng64 (u + b)
    have : ¬ w.toInt < u.toInt + b.toInt := fun z => q (h.mpr z)
    omega
theorem own_plain5 (i0 : Int64) (i1 : Int64) (i2 : Int64) (i3 : Int64) (x5 : Int64) (hx5 : x5 = (i0 &&& (9223372036854775807 : Int64))) (x12 : Int64) (hx12 : x12 = (i1 &&& (9223372036854775807 : Int64))) (x20 : Int64) (hx20 : x20 = (i2 &&& (9223372036854775807 : Int64))) (x28 : Int64) (hx28 : x28 = (i3 &&& (9223372036854775807 : Int64))) (y3_used : Int64) (hy3_used : y3_used = ((0 : Int64) + x12)) (y4_used : Int64) (hy4_used : y4_used = (own_p4_a_used x20 x5 y3_used)) (x55 : Int32) (hx55 : x55 = (own_res x20 x5 y3_used)) (x66 : Int32) (hx66 : x66 = (own_fits x12 x20 x5)) (v83 : Int64) (hv83 : v83 = (if x66 = (0 : Int32) then x12 else (x12 + x20))) (hc89 : ¬ (x55 = x66)) : (0 : Int32) = (1 : Int32) := by
  exfalso; apply hc89
  rw [hx55, hx66, hy3_used, Int64.zero_add]
  exact own_core _ _ _ (hx5 ▸ own_nn i0) (hx12 ▸ own_nn i1) (hx20 ▸ own_nn i2)
theorem own_plain4 (i0 : Int64) (i1 : Int64) (i2 : Int64) (i3 : Int64) (x5 : Int64) (hx5 : x5 = (i0 &&& (9223372036854775807 : Int64))) (x12 : Int64) (hx12 : x12 = (i1 &&& (9223372036854775807 : Int64))) (x20 : Int64) (hx20 : x20 = (i2 &&& (9223372036854775807 : Int64))) (x28 : Int64) (hx28 : x28 = (i3 &&& (9223372036854775807 : Int64))) (y3_used : Int64) (hy3_used : y3_used = ((0 : Int64) + x12)) (y4_used : Int64) (hy4_used : y4_used = (own_p4_a_used x20 x5 y3_used)) (x55 : Int32) (hx55 : x55 = (own_res x20 x5 y3_used)) (x66 : Int32) (hx66 : x66 = (own_fits x12 x20 x5)) (v83 : Int64) (hv83 : v83 = (if x66 = (0 : Int32) then x12 else (x12 + x20))) (hc89 : x55 = x66) (hc100 : ¬ (y4_used = v83)) : (0 : Int32) = (1 : Int32) := by
  exfalso; apply hc100
  rw [hy4_used, hv83, hx66, hy3_used, Int64.zero_add]
  exact own_use _ _ _ (hx5 ▸ own_nn i0) (hx12 ▸ own_nn i1) (hx20 ▸ own_nn i2)
theorem own_y4 (w u b y3 y4 : Int64) (h3 : y3 = (0 : Int64) + u) (h4 : y4 = own_p4_a_used b w y3) (hw : 0 ≤ w.toInt) (hu : 0 ≤ u.toInt) (hb : 0 ≤ b.toInt) : 0 ≤ y4.toInt := by
  rw [h4, h3, Int64.zero_add]; exact own_unn _ _ _ hw hu hb
theorem own_plain3 (i0 : Int64) (i1 : Int64) (i2 : Int64) (i3 : Int64) (x5 : Int64) (hx5 : x5 = (i0 &&& (9223372036854775807 : Int64))) (x12 : Int64) (hx12 : x12 = (i1 &&& (9223372036854775807 : Int64))) (x20 : Int64) (hx20 : x20 = (i2 &&& (9223372036854775807 : Int64))) (x28 : Int64) (hx28 : x28 = (i3 &&& (9223372036854775807 : Int64))) (y3_used : Int64) (hy3_used : y3_used = ((0 : Int64) + x12)) (y4_used : Int64) (hy4_used : y4_used = (own_p4_a_used x20 x5 y3_used)) (x55 : Int32) (hx55 : x55 = (own_res x20 x5 y3_used)) (x66 : Int32) (hx66 : x66 = (own_fits x12 x20 x5)) (v83 : Int64) (hv83 : v83 = (if x66 = (0 : Int32) then x12 else (x12 + x20))) (y9_used : Int64) (hy9_used : y9_used = (own_p4_a_used x28 x5 y4_used)) (x123 : Int32) (hx123 : x123 = (own_res x28 x5 y4_used)) (x134 : Int32) (hx134 : x134 = (own_fits v83 x28 x5)) (v151 : Int64) (hv151 : v151 = (if x134 = (0 : Int32) then v83 else (v83 + x28))) (hc89 : x55 = x66) (hc100 : y4_used = v83) (hc157 : ¬ (x123 = x134)) : (0 : Int32) = (1 : Int32) := by
  exfalso; apply hc157
  have k := own_y4 x5 x12 x20 y3_used y4_used hy3_used hy4_used (hx5 ▸ own_nn i0) (hx12 ▸ own_nn i1) (hx20 ▸ own_nn i2)
  rw [hx123, hx134, ← hc100]
  exact own_core _ _ _ (hx5 ▸ own_nn i0) k (hx28 ▸ own_nn i3)
theorem own_plain2 (i0 : Int64) (i1 : Int64) (i2 : Int64) (i3 : Int64) (x5 : Int64) (hx5 : x5 = (i0 &&& (9223372036854775807 : Int64))) (x12 : Int64) (hx12 : x12 = (i1 &&& (9223372036854775807 : Int64))) (x20 : Int64) (hx20 : x20 = (i2 &&& (9223372036854775807 : Int64))) (x28 : Int64) (hx28 : x28 = (i3 &&& (9223372036854775807 : Int64))) (y3_used : Int64) (hy3_used : y3_used = ((0 : Int64) + x12)) (y4_used : Int64) (hy4_used : y4_used = (own_p4_a_used x20 x5 y3_used)) (x55 : Int32) (hx55 : x55 = (own_res x20 x5 y3_used)) (x66 : Int32) (hx66 : x66 = (own_fits x12 x20 x5)) (v83 : Int64) (hv83 : v83 = (if x66 = (0 : Int32) then x12 else (x12 + x20))) (y9_used : Int64) (hy9_used : y9_used = (own_p4_a_used x28 x5 y4_used)) (x123 : Int32) (hx123 : x123 = (own_res x28 x5 y4_used)) (x134 : Int32) (hx134 : x134 = (own_fits v83 x28 x5)) (v151 : Int64) (hv151 : v151 = (if x134 = (0 : Int32) then v83 else (v83 + x28))) (hc89 : x55 = x66) (hc100 : y4_used = v83) (hc157 : x123 = x134) (hc168 : ¬ (y9_used = v151)) : (0 : Int32) = (1 : Int32) := by
  exfalso; apply hc168
  have k := own_y4 x5 x12 x20 y3_used y4_used hy3_used hy4_used (hx5 ▸ own_nn i0) (hx12 ▸ own_nn i1) (hx20 ▸ own_nn i2)
  rw [hy9_used, hv151, hx134, ← hc100]
  exact own_use _ _ _ (hx5 ▸ own_nn i0) k (hx28 ▸ own_nn i3)
theorem own_ef0 (m : MethodId) (i0 : Int64) (i1 : Int64) (i2 : Int64) (i3 : Int64) : entryFrame m #[(.long i0), (.long i1), (.long i2), (.long i3)] maxLocals = mkF m 0 #[.val (.long i0), .second, .val (.long i1), .second, .val (.long i2), .second, .val (.long i3), .second, .unset, .unset, .unset, .unset, .unset, .unset, .unset, .unset, .unset, .unset, .unset, .unset, .unset, .unset, .unset, .unset, .unset] [] := by first | (simp [entryFrame, mkF, argsToLocals, Value.category, maxLocals]; done) | rfl
def Q0 (Z : State) (i0 : Int64) (i1 : Int64) (i2 : Int64) (i3 : Int64) (h0 : Heap) (n0 : Nat) (vr : Option Value) (hr : Heap) (Lr : List Loc) : Prop := vr = some (.int 1) ∧ Fr n0 Lr
set_option maxRecDepth 65536 in
set_option maxHeartbeats 40000000 in
theorem rm0 (l : Launch) (Z : State) (a0 : Array Value) (hw : ∀ d ∈ tables_1, d.before a0 Z = true) (ws : List Jvm.Cond) (i0 : Int64) (i1 : Int64) (i2 : Int64) (i3 : Int64) (h0 : Heap) (n0 : Nat) (Z0 : n0 ≤ h0.size) :
    MetFree l x (head1 (Jvm.Cond.code x code maxLocals ret :: ws) room_1) (fun aQ UQ => aQ = #[(.long i0), (.long i1), (.long i2), (.long i3)] ∧ Z.Warmed39 UQ.vm ∧ UQ.heap = h0) (fun _ _ _ _ _ => True) (fun _ UQ oQ VQ => ∃ vQ LQ, oQ = .returned vQ ∧ Q0 Z i0 i1 i2 i3 h0 n0 vQ VQ.heap LQ ∧ FrameEnd UQ oQ VQ LQ 16 128) := by
  refine MetFree.of_bodySF (plainFor_of_name own_pn1) hisR ?_
  intro p e s m args below meth c s₁ Bd hml0 hP hK
  obtain ⟨rfl, hZ, hh⟩ := hP
  have hx := Bd.exec
  have hby := Bd.bytes
  have hml : c.maxLocals = 25 := hml0
  have hown : s.vm.findClass "com/example/demarq/demarq/broker/MessageMemoryReservePinLaw" = some m.cls := findClass_of_methodNamed Bd.named
  have hnm := (name_of_methodNamed Bd.named Bd.method).1
  have X0 : Stand p l e room_1 s m #[(.long i0), (.long i1), (.long i2), (.long i3)] below meth c s₁ [] 0 0 := Stand.of_body Bd
  have e0 : s₁.heap = h0 := by rw [← hh, Bd.state]; rfl
  have N0 := Fr.nil n0
  show Go p e below (EndQ s below (Q0 Z i0 i1 i2 i3 h0 n0) 16 128) s₁ (entryFrame m #[(.long i0), (.long i1), (.long i2), (.long i3)] maxLocals)
  obtain ⟨Φ, hΦ⟩ : ∃ Φ, Φ = EndQ s below (Q0 Z i0 i1 i2 i3 h0 n0) 16 128 := ⟨_, rfl⟩
  rw [← hΦ, own_ef0]
  show Go p e below Φ s₁ (mkF m 0 #[.val (.long i0), .second, .val (.long i1), .second, .val (.long i2), .second, .val (.long i3), .second, .unset, .unset, .unset, .unset, .unset, .unset, .unset, .unset, .unset, .unset, .unset, .unset, .unset, .unset, .unset, .unset, .unset] [])
  refine Go.of (fun t k => XS.lloadN X0.here hx rfl (hb hby at_0) rfl  k) ?_
  show Go p e below Φ s₁ (mkF m 1 #[.val (.long i0), .second, .val (.long i1), .second, .val (.long i2), .second, .val (.long i3), .second, .unset, .unset, .unset, .unset, .unset, .unset, .unset, .unset, .unset, .unset, .unset, .unset, .unset, .unset, .unset, .unset, .unset] [(.long i0)])
  refine Go.of (fun t k => X0.ldc2Long hx hown (mvT hZ (hw _ (List.mem_of_getElem? (i := 0) rfl))) (g := (mkF m 1 #[.val (.long i0), .second, .val (.long i1), .second, .val (.long i2), .second, .val (.long i3), .second, .unset, .unset, .unset, .unset, .unset, .unset, .unset, .unset, .unset, .unset, .unset, .unset, .unset, .unset, .unset, .unset, .unset] [(.long i0)])) rfl (hb hby at_1) t k) ?_
  show Go p e below Φ s₁ (mkF m 4 #[.val (.long i0), .second, .val (.long i1), .second, .val (.long i2), .second, .val (.long i3), .second, .unset, .unset, .unset, .unset, .unset, .unset, .unset, .unset, .unset, .unset, .unset, .unset, .unset, .unset, .unset, .unset, .unset] [(.long (9223372036854775807 : Int64)), (.long i0)])
  refine Go.of (fun t k => XS.land X0.here hx rfl (hb hby at_4) rfl k) ?_
  show Go p e below Φ s₁ (mkF m 5 #[.val (.long i0), .second, .val (.long i1), .second, .val (.long i2), .second, .val (.long i3), .second, .unset, .unset, .unset, .unset, .unset, .unset, .unset, .unset, .unset, .unset, .unset, .unset, .unset, .unset, .unset, .unset, .unset] [(.long (i0 &&& (9223372036854775807 : Int64)))])
  obtain ⟨x5, hx5⟩ : ∃ z : Int64, z = (i0 &&& (9223372036854775807 : Int64)) := ⟨_, rfl⟩
  rw [← hx5]
  refine Go.of (fun t k => XS.lstore X0.here hx rfl (hb hby at_5) rfl (l' := #[.val (.long i0), .second, .val (.long i1), .second, .val (.long i2), .second, .val (.long i3), .second, .val (.long x5), .second, .unset, .unset, .unset, .unset, .unset, .unset, .unset, .unset, .unset, .unset, .unset, .unset, .unset, .unset, .unset]) rfl k) ?_
  show Go p e below Φ s₁ (mkF m 7 #[.val (.long i0), .second, .val (.long i1), .second, .val (.long i2), .second, .val (.long i3), .second, .val (.long x5), .second, .unset, .unset, .unset, .unset, .unset, .unset, .unset, .unset, .unset, .unset, .unset, .unset, .unset, .unset, .unset] [])
  refine Go.of (fun t k => XS.lloadN X0.here hx rfl (hb hby at_7) rfl  k) ?_
  show Go p e below Φ s₁ (mkF m 8 #[.val (.long i0), .second, .val (.long i1), .second, .val (.long i2), .second, .val (.long i3), .second, .val (.long x5), .second, .unset, .unset, .unset, .unset, .unset, .unset, .unset, .unset, .unset, .unset, .unset, .unset, .unset, .unset, .unset] [(.long i1)])
  refine Go.of (fun t k => X0.ldc2Long hx hown (mvT hZ (hw _ (List.mem_of_getElem? (i := 0) rfl))) (g := (mkF m 8 #[.val (.long i0), .second, .val (.long i1), .second, .val (.long i2), .second, .val (.long i3), .second, .val (.long x5), .second, .unset, .unset, .unset, .unset, .unset, .unset, .unset, .unset, .unset, .unset, .unset, .unset, .unset, .unset, .unset] [(.long i1)])) rfl (hb hby at_8) t k) ?_
  show Go p e below Φ s₁ (mkF m 11 #[.val (.long i0), .second, .val (.long i1), .second, .val (.long i2), .second, .val (.long i3), .second, .val (.long x5), .second, .unset, .unset, .unset, .unset, .unset, .unset, .unset, .unset, .unset, .unset, .unset, .unset, .unset, .unset, .unset] [(.long (9223372036854775807 : Int64)), (.long i1)])
  refine Go.of (fun t k => XS.land X0.here hx rfl (hb hby at_11) rfl k) ?_
  show Go p e below Φ s₁ (mkF m 12 #[.val (.long i0), .second, .val (.long i1), .second, .val (.long i2), .second, .val (.long i3), .second, .val (.long x5), .second, .unset, .unset, .unset, .unset, .unset, .unset, .unset, .unset, .unset, .unset, .unset, .unset, .unset, .unset, .unset] [(.long (i1 &&& (9223372036854775807 : Int64)))])
  obtain ⟨x12, hx12⟩ : ∃ z : Int64, z = (i1 &&& (9223372036854775807 : Int64)) := ⟨_, rfl⟩
  rw [← hx12]
  refine Go.of (fun t k => XS.lstore X0.here hx rfl (hb hby at_12) rfl (l' := #[.val (.long i0), .second, .val (.long i1), .second, .val (.long i2), .second, .val (.long i3), .second, .val (.long x5), .second, .val (.long x12), .second, .unset, .unset, .unset, .unset, .unset, .unset, .unset, .unset, .unset, .unset, .unset, .unset, .unset]) rfl k) ?_
  show Go p e below Φ s₁ (mkF m 14 #[.val (.long i0), .second, .val (.long i1), .second, .val (.long i2), .second, .val (.long i3), .second, .val (.long x5), .second, .val (.long x12), .second, .unset, .unset, .unset, .unset, .unset, .unset, .unset, .unset, .unset, .unset, .unset, .unset, .unset] [])
  refine Go.of (fun t k => XS.lload X0.here hx rfl (hb hby at_14) rfl  k) ?_
  show Go p e below Φ s₁ (mkF m 16 #[.val (.long i0), .second, .val (.long i1), .second, .val (.long i2), .second, .val (.long i3), .second, .val (.long x5), .second, .val (.long x12), .second, .unset, .unset, .unset, .unset, .unset, .unset, .unset, .unset, .unset, .unset, .unset, .unset, .unset] [(.long i2)])
  refine Go.of (fun t k => X0.ldc2Long hx hown (mvT hZ (hw _ (List.mem_of_getElem? (i := 0) rfl))) (g := (mkF m 16 #[.val (.long i0), .second, .val (.long i1), .second, .val (.long i2), .second, .val (.long i3), .second, .val (.long x5), .second, .val (.long x12), .second, .unset, .unset, .unset, .unset, .unset, .unset, .unset, .unset, .unset, .unset, .unset, .unset, .unset] [(.long i2)])) rfl (hb hby at_16) t k) ?_
  show Go p e below Φ s₁ (mkF m 19 #[.val (.long i0), .second, .val (.long i1), .second, .val (.long i2), .second, .val (.long i3), .second, .val (.long x5), .second, .val (.long x12), .second, .unset, .unset, .unset, .unset, .unset, .unset, .unset, .unset, .unset, .unset, .unset, .unset, .unset] [(.long (9223372036854775807 : Int64)), (.long i2)])
  refine Go.of (fun t k => XS.land X0.here hx rfl (hb hby at_19) rfl k) ?_
  show Go p e below Φ s₁ (mkF m 20 #[.val (.long i0), .second, .val (.long i1), .second, .val (.long i2), .second, .val (.long i3), .second, .val (.long x5), .second, .val (.long x12), .second, .unset, .unset, .unset, .unset, .unset, .unset, .unset, .unset, .unset, .unset, .unset, .unset, .unset] [(.long (i2 &&& (9223372036854775807 : Int64)))])
  obtain ⟨x20, hx20⟩ : ∃ z : Int64, z = (i2 &&& (9223372036854775807 : Int64)) := ⟨_, rfl⟩
  rw [← hx20]
  refine Go.of (fun t k => XS.lstore X0.here hx rfl (hb hby at_20) rfl (l' := #[.val (.long i0), .second, .val (.long i1), .second, .val (.long i2), .second, .val (.long i3), .second, .val (.long x5), .second, .val (.long x12), .second, .val (.long x20), .second, .unset, .unset, .unset, .unset, .unset, .unset, .unset, .unset, .unset, .unset, .unset]) rfl k) ?_
  show Go p e below Φ s₁ (mkF m 22 #[.val (.long i0), .second, .val (.long i1), .second, .val (.long i2), .second, .val (.long i3), .second, .val (.long x5), .second, .val (.long x12), .second, .val (.long x20), .second, .unset, .unset, .unset, .unset, .unset, .unset, .unset, .unset, .unset, .unset, .unset] [])
  refine Go.of (fun t k => XS.lload X0.here hx rfl (hb hby at_22) rfl  k) ?_
  show Go p e below Φ s₁ (mkF m 24 #[.val (.long i0), .second, .val (.long i1), .second, .val (.long i2), .second, .val (.long i3), .second, .val (.long x5), .second, .val (.long x12), .second, .val (.long x20), .second, .unset, .unset, .unset, .unset, .unset, .unset, .unset, .unset, .unset, .unset, .unset] [(.long i3)])
  refine Go.of (fun t k => X0.ldc2Long hx hown (mvT hZ (hw _ (List.mem_of_getElem? (i := 0) rfl))) (g := (mkF m 24 #[.val (.long i0), .second, .val (.long i1), .second, .val (.long i2), .second, .val (.long i3), .second, .val (.long x5), .second, .val (.long x12), .second, .val (.long x20), .second, .unset, .unset, .unset, .unset, .unset, .unset, .unset, .unset, .unset, .unset, .unset] [(.long i3)])) rfl (hb hby at_24) t k) ?_
  show Go p e below Φ s₁ (mkF m 27 #[.val (.long i0), .second, .val (.long i1), .second, .val (.long i2), .second, .val (.long i3), .second, .val (.long x5), .second, .val (.long x12), .second, .val (.long x20), .second, .unset, .unset, .unset, .unset, .unset, .unset, .unset, .unset, .unset, .unset, .unset] [(.long (9223372036854775807 : Int64)), (.long i3)])
  refine Go.of (fun t k => XS.land X0.here hx rfl (hb hby at_27) rfl k) ?_
  show Go p e below Φ s₁ (mkF m 28 #[.val (.long i0), .second, .val (.long i1), .second, .val (.long i2), .second, .val (.long i3), .second, .val (.long x5), .second, .val (.long x12), .second, .val (.long x20), .second, .unset, .unset, .unset, .unset, .unset, .unset, .unset, .unset, .unset, .unset, .unset] [(.long (i3 &&& (9223372036854775807 : Int64)))])
  obtain ⟨x28, hx28⟩ : ∃ z : Int64, z = (i3 &&& (9223372036854775807 : Int64)) := ⟨_, rfl⟩
  rw [← hx28]
  refine Go.of (fun t k => XS.lstore X0.here hx rfl (hb hby at_28) rfl (l' := #[.val (.long i0), .second, .val (.long i1), .second, .val (.long i2), .second, .val (.long i3), .second, .val (.long x5), .second, .val (.long x12), .second, .val (.long x20), .second, .val (.long x28), .second, .unset, .unset, .unset, .unset, .unset, .unset, .unset, .unset, .unset]) rfl k) ?_
  show Go p e below Φ s₁ (mkF m 30 #[.val (.long i0), .second, .val (.long i1), .second, .val (.long i2), .second, .val (.long i3), .second, .val (.long x5), .second, .val (.long x12), .second, .val (.long x20), .second, .val (.long x28), .second, .unset, .unset, .unset, .unset, .unset, .unset, .unset, .unset, .unset] [])
  obtain ⟨T1, h1, X1, e1, E1, A1, D1, -, st1⟩ := newO X0 hx hZ hown (hw _ (List.mem_of_getElem? (i := 1) rfl)) (hw _ (List.mem_of_getElem? (i := 2) rfl)) (hw _ (List.mem_of_getElem? (i := 3) rfl)) e0 (g := (mkF m 30 #[.val (.long i0), .second, .val (.long i1), .second, .val (.long i2), .second, .val (.long i3), .second, .val (.long x5), .second, .val (.long x12), .second, .val (.long x20), .second, .val (.long x28), .second, .unset, .unset, .unset, .unset, .unset, .unset, .unset, .unset, .unset] [])) rfl (hb hby at_30) (by decide) (by decide)
  obtain ⟨b1, g1⟩ : ∃ z, z = h0.size := ⟨_, rfl⟩
  rw [← g1] at A1 D1 st1
  have g_b1 : n0 ≤ b1 := Nat.le_trans Z0 (Nat.le_of_eq g1.symm)
  have Z1 := Nat.le_trans Z0 E1.1
  have E_b1 := A1
  have F_b1_limit : Fld Z h1 b1 "com/example/demarq/demarq/broker/MessageMemory" "limit" "J" (.long (0 : Int64)) := D1 (Or.inr (hw _ (List.mem_of_getElem? (i := 11) rfl))) (ty := .long) (by decide)
  have F_b1_used : Fld Z h1 b1 "com/example/demarq/demarq/broker/MessageMemory" "used" "J" (.long (0 : Int64)) := D1 (Or.inl (hw _ (List.mem_of_getElem? (i := 18) rfl))) (ty := .long) (by decide)
  refine Go.of st1 ?_
  show Go p e below Φ T1 (mkF m 33 #[.val (.long i0), .second, .val (.long i1), .second, .val (.long i2), .second, .val (.long i3), .second, .val (.long x5), .second, .val (.long x12), .second, .val (.long x20), .second, .val (.long x28), .second, .unset, .unset, .unset, .unset, .unset, .unset, .unset, .unset, .unset] [(.ref b1)])
  refine Go.of (fun t k => XS.dup X1.here hx rfl (hb hby at_33) rfl rfl k) ?_
  show Go p e below Φ T1 (mkF m 34 #[.val (.long i0), .second, .val (.long i1), .second, .val (.long i2), .second, .val (.long i3), .second, .val (.long x5), .second, .val (.long x12), .second, .val (.long x20), .second, .val (.long x28), .second, .unset, .unset, .unset, .unset, .unset, .unset, .unset, .unset, .unset] [(.ref b1), (.ref b1)])
  refine Go.of (fun t k => XS.lload X1.here hx rfl (hb hby at_34) rfl  k) ?_
  show Go p e below Φ T1 (mkF m 36 #[.val (.long i0), .second, .val (.long i1), .second, .val (.long i2), .second, .val (.long i3), .second, .val (.long x5), .second, .val (.long x12), .second, .val (.long x20), .second, .val (.long x28), .second, .unset, .unset, .unset, .unset, .unset, .unset, .unset, .unset, .unset] [(.long x5), (.ref b1), (.ref b1)])
  obtain ⟨_, _, ⟨T2, L2, k2, n2⟩, -, X2, ⟨Lc2, hQ2, l2, y2, z2⟩, st2⟩ := X1.specialBack hx (y := (⟨"com/example/demarq/demarq/broker/MessageMemory", "<init>", "(J)V"⟩ : MethodName)) rfl hown (mvT hZ (hw _ (List.mem_of_getElem? (i := 4) rfl))) (mvT hZ (hw _ (List.mem_of_getElem? (i := 5) rfl))) (mvT hZ (hw _ (List.mem_of_getElem? (i := 6) rfl))) (by decide) (backOf (W := 1) (rm1 l Z a0 hw [] b1 x5 (0 : Int64) (0 : Int64) h1 n0 Z1 F_b1_limit F_b1_used E_b1 g_b1) hZ (hw _ (List.mem_of_getElem? (i := 6) rfl)) (hw _ (List.mem_of_getElem? (i := 3) rfl)) (by decide) (by decide)) (g := (mkF m 36 #[.val (.long i0), .second, .val (.long i1), .second, .val (.long i2), .second, .val (.long i3), .second, .val (.long x5), .second, .val (.long x12), .second, .val (.long x20), .second, .val (.long x28), .second, .unset, .unset, .unset, .unset, .unset, .unset, .unset, .unset, .unset] [(.long x5), (.ref b1), (.ref b1)])) rfl (by rw [hml]; rfl) (Steps.refl _) (a := b1) (argsL := [(.long x5)]) (rest := [(.ref b1)]) (lenOf own_pd0 rfl) rfl (by show 2 * 0 + _ ≤ _; exact Nat.le_of_eq rfl) (hb hby at_36) (fun _ _ => ⟨rfl, e1, (by decide : 1 + 0 ≤ _), (by decide : 2 + 0 ≤ _)⟩)
  dsimp only [Pt.U, Pt.locs, Pt.cells, Pt.slots] at X2 l2 y2 z2 st2 hQ2
  subst l2 y2 z2
  obtain ⟨rfl, N2q, K2q, c2_0, c2_1, c2_2⟩ := hQ2
  have N2 := Fr.app N0 N2q
  obtain ⟨lc2, X2, N2⟩ : ∃ lc, Stand p l e room_1 s m #[(.long i0), (.long i1), (.long i2), (.long i3)] below meth c T2 lc 1 2 ∧ Fr n0 lc := ⟨_, X2, N2⟩
  have E_b1 := c2_0
  have F_b1_limit := c2_1
  have F_b1_used := c2_2
  have Z2 := Nat.le_trans Z1 K2q.1
  refine Go.tr st2 ?_
  show Go p e below Φ T2 (mkF m 39 #[.val (.long i0), .second, .val (.long i1), .second, .val (.long i2), .second, .val (.long i3), .second, .val (.long x5), .second, .val (.long x12), .second, .val (.long x20), .second, .val (.long x28), .second, .unset, .unset, .unset, .unset, .unset, .unset, .unset, .unset, .unset] [(.ref b1)])
  refine Go.of (fun t k => XS.astore X2.here hx rfl (hb hby at_39) rfl rfl (l' := #[.val (.long i0), .second, .val (.long i1), .second, .val (.long i2), .second, .val (.long i3), .second, .val (.long x5), .second, .val (.long x12), .second, .val (.long x20), .second, .val (.long x28), .second, .val (.ref b1), .unset, .unset, .unset, .unset, .unset, .unset, .unset, .unset]) rfl k) ?_
  show Go p e below Φ T2 (mkF m 41 #[.val (.long i0), .second, .val (.long i1), .second, .val (.long i2), .second, .val (.long i3), .second, .val (.long x5), .second, .val (.long x12), .second, .val (.long x20), .second, .val (.long x28), .second, .val (.ref b1), .unset, .unset, .unset, .unset, .unset, .unset, .unset, .unset] [])
  refine Go.of (fun t k => XS.aload X2.here hx rfl (hb hby at_41) rfl rfl  k) ?_
  show Go p e below Φ T2 (mkF m 43 #[.val (.long i0), .second, .val (.long i1), .second, .val (.long i2), .second, .val (.long i3), .second, .val (.long x5), .second, .val (.long x12), .second, .val (.long x20), .second, .val (.long x28), .second, .val (.ref b1), .unset, .unset, .unset, .unset, .unset, .unset, .unset, .unset] [(.ref b1)])
  refine Go.of (fun t k => XS.lload X2.here hx rfl (hb hby at_43) rfl  k) ?_
  show Go p e below Φ T2 (mkF m 45 #[.val (.long i0), .second, .val (.long i1), .second, .val (.long i2), .second, .val (.long i3), .second, .val (.long x5), .second, .val (.long x12), .second, .val (.long x20), .second, .val (.long x28), .second, .val (.ref b1), .unset, .unset, .unset, .unset, .unset, .unset, .unset, .unset] [(.long x12), (.ref b1)])
  obtain ⟨cq3, kq3, q3a, q3b, q3c⟩ := isOf hZ rfl E_b1
  obtain ⟨_, _, ⟨T3, L3, k3, n3⟩, -, X3, ⟨Lc3, hQ3, l3, y3, z3⟩, st3⟩ := X2.virtualBack hx (y := (⟨"com/example/demarq/demarq/broker/MessageMemory", "add", "(J)V"⟩ : MethodName)) (z := (⟨"com/example/demarq/demarq/broker/MessageMemory", "add", "(J)V"⟩ : MethodName)) hown (mvT hZ (hw _ (List.mem_of_getElem? (i := 12) rfl))) (mvT hZ (hw _ (List.mem_of_getElem? (i := 13) rfl))) (notFace_of_selects (args := #[]) (mvT hZ (hw _ (List.mem_of_getElem? (i := 15) rfl)))) (mvT hZ (hw _ (List.mem_of_getElem? (i := 15) rfl))) (mvT hZ (hw _ (List.mem_of_getElem? (i := 14) rfl))) (by decide) (backOf (W := 0) (rm3 l Z a0 hw [] b1 x12 x5 (0 : Int64) T2.heap n0 Z2 F_b1_limit F_b1_used E_b1 g_b1) hZ (hw _ (List.mem_of_getElem? (i := 16) rfl)) (hw _ (List.mem_of_getElem? (i := 3) rfl)) (by decide) (by decide)) q3a q3c (g := (mkF m 45 #[.val (.long i0), .second, .val (.long i1), .second, .val (.long i2), .second, .val (.long i3), .second, .val (.long x5), .second, .val (.long x12), .second, .val (.long x20), .second, .val (.long x28), .second, .val (.ref b1), .unset, .unset, .unset, .unset, .unset, .unset, .unset, .unset] [(.long x12), (.ref b1)])) rfl (by rw [hml]; rfl) (Steps.refl _) (argsL := [(.long x12)]) (rest := []) (lenOf own_pd0 rfl) rfl (by show 2 * 0 + _ ≤ _; exact Nat.le_of_eq rfl) (hb hby at_45) (fun _ _ => ⟨rfl, rfl, (by decide : 1 + 0 ≤ _), (by decide : 2 + 0 ≤ _)⟩)
  dsimp only [Pt.U, Pt.locs, Pt.cells, Pt.slots] at X3 l3 y3 z3 st3 hQ3
  subst l3 y3 z3
  obtain ⟨rfl, N3q, K3q, c3_0, c3_1, c3_2⟩ := hQ3
  have N3 := Fr.app N2 N3q
  obtain ⟨lc3, X3, N3⟩ : ∃ lc, Stand p l e room_1 s m #[(.long i0), (.long i1), (.long i2), (.long i3)] below meth c T3 lc 1 2 ∧ Fr n0 lc := ⟨_, X3, N3⟩
  have E_b1 := c3_0
  have F_b1_limit := c3_1
  obtain ⟨y3_used, hy3_used⟩ : ∃ z : Int64, z = ((0 : Int64) + x12) := ⟨_, rfl⟩
  rw [← hy3_used] at c3_2
  have F_b1_used := c3_2
  have Z3 := Nat.le_trans Z2 K3q.1
  refine Go.tr st3 ?_
  show Go p e below Φ T3 (mkF m 48 #[.val (.long i0), .second, .val (.long i1), .second, .val (.long i2), .second, .val (.long i3), .second, .val (.long x5), .second, .val (.long x12), .second, .val (.long x20), .second, .val (.long x28), .second, .val (.ref b1), .unset, .unset, .unset, .unset, .unset, .unset, .unset, .unset] [])
  refine Go.of (fun t k => XS.aload X3.here hx rfl (hb hby at_48) rfl rfl  k) ?_
  show Go p e below Φ T3 (mkF m 50 #[.val (.long i0), .second, .val (.long i1), .second, .val (.long i2), .second, .val (.long i3), .second, .val (.long x5), .second, .val (.long x12), .second, .val (.long x20), .second, .val (.long x28), .second, .val (.ref b1), .unset, .unset, .unset, .unset, .unset, .unset, .unset, .unset] [(.ref b1)])
  refine Go.of (fun t k => XS.lload X3.here hx rfl (hb hby at_50) rfl  k) ?_
  show Go p e below Φ T3 (mkF m 52 #[.val (.long i0), .second, .val (.long i1), .second, .val (.long i2), .second, .val (.long i3), .second, .val (.long x5), .second, .val (.long x12), .second, .val (.long x20), .second, .val (.long x28), .second, .val (.ref b1), .unset, .unset, .unset, .unset, .unset, .unset, .unset, .unset] [(.long x20), (.ref b1)])
  obtain ⟨cq4, kq4, q4a, q4b, q4c⟩ := isOf hZ rfl E_b1
  obtain ⟨_, _, ⟨T4, L4, k4, n4⟩, -, X4, ⟨Lc4, hQ4, l4, y4, z4⟩, st4⟩ := X3.virtualBack hx (y := (⟨"com/example/demarq/demarq/broker/MessageMemory", "reserve", "(J)Z"⟩ : MethodName)) (z := (⟨"com/example/demarq/demarq/broker/MessageMemory", "reserve", "(J)Z"⟩ : MethodName)) hown (mvT hZ (hw _ (List.mem_of_getElem? (i := 19) rfl))) (mvT hZ (hw _ (List.mem_of_getElem? (i := 20) rfl))) (notFace_of_selects (args := #[]) (mvT hZ (hw _ (List.mem_of_getElem? (i := 22) rfl)))) (mvT hZ (hw _ (List.mem_of_getElem? (i := 22) rfl))) (mvT hZ (hw _ (List.mem_of_getElem? (i := 21) rfl))) (by decide) (backOf (W := 0) (rm4 l Z a0 hw [] b1 x20 x5 y3_used T3.heap n0 Z3 F_b1_limit F_b1_used E_b1 g_b1) hZ (hw _ (List.mem_of_getElem? (i := 23) rfl)) (hw _ (List.mem_of_getElem? (i := 3) rfl)) (by decide) (by decide)) q4a q4c (g := (mkF m 52 #[.val (.long i0), .second, .val (.long i1), .second, .val (.long i2), .second, .val (.long i3), .second, .val (.long x5), .second, .val (.long x12), .second, .val (.long x20), .second, .val (.long x28), .second, .val (.ref b1), .unset, .unset, .unset, .unset, .unset, .unset, .unset, .unset] [(.long x20), (.ref b1)])) rfl (by rw [hml]; rfl) (Steps.refl _) (argsL := [(.long x20)]) (rest := []) (lenOf own_pd1 rfl) rfl (by show 2 * 0 + _ ≤ _; exact Nat.le_of_eq rfl) (hb hby at_52) (fun _ _ => ⟨rfl, rfl, (by decide : 1 + 0 ≤ _), (by decide : 2 + 0 ≤ _)⟩)
  dsimp only [Pt.U, Pt.locs, Pt.cells, Pt.slots] at X4 l4 y4 z4 st4 hQ4
  subst l4 y4 z4
  obtain ⟨rfl, N4q, K4q, c4_0, c4_1, c4_2⟩ := hQ4
  have N4 := Fr.app N3 N4q
  obtain ⟨lc4, X4, N4⟩ : ∃ lc, Stand p l e room_1 s m #[(.long i0), (.long i1), (.long i2), (.long i3)] below meth c T4 lc 1 2 ∧ Fr n0 lc := ⟨_, X4, N4⟩
  have E_b1 := c4_0
  have F_b1_limit := c4_1
  obtain ⟨y4_used, hy4_used⟩ : ∃ z : Int64, z = (own_p4_a_used x20 x5 y3_used) := ⟨_, rfl⟩
  rw [← hy4_used] at c4_2
  have F_b1_used := c4_2
  have Z4 := Nat.le_trans Z3 K4q.1
  refine Go.tr st4 ?_
  show Go p e below Φ T4 (mkF m 55 #[.val (.long i0), .second, .val (.long i1), .second, .val (.long i2), .second, .val (.long i3), .second, .val (.long x5), .second, .val (.long x12), .second, .val (.long x20), .second, .val (.long x28), .second, .val (.ref b1), .unset, .unset, .unset, .unset, .unset, .unset, .unset, .unset] [(.int (own_res x20 x5 y3_used))])
  obtain ⟨x55, hx55⟩ : ∃ z : Int32, z = (own_res x20 x5 y3_used) := ⟨_, rfl⟩
  rw [← hx55]
  refine Go.of (fun t k => XS.istore X4.here hx rfl (hb hby at_55) rfl (l' := #[.val (.long i0), .second, .val (.long i1), .second, .val (.long i2), .second, .val (.long i3), .second, .val (.long x5), .second, .val (.long x12), .second, .val (.long x20), .second, .val (.long x28), .second, .val (.ref b1), .val (.int x55), .unset, .unset, .unset, .unset, .unset, .unset, .unset]) rfl k) ?_
  show Go p e below Φ T4 (mkF m 57 #[.val (.long i0), .second, .val (.long i1), .second, .val (.long i2), .second, .val (.long i3), .second, .val (.long x5), .second, .val (.long x12), .second, .val (.long x20), .second, .val (.long x28), .second, .val (.ref b1), .val (.int x55), .unset, .unset, .unset, .unset, .unset, .unset, .unset] [])
  refine Go.of (fun t k => XS.lload X4.here hx rfl (hb hby at_57) rfl  k) ?_
  show Go p e below Φ T4 (mkF m 59 #[.val (.long i0), .second, .val (.long i1), .second, .val (.long i2), .second, .val (.long i3), .second, .val (.long x5), .second, .val (.long x12), .second, .val (.long x20), .second, .val (.long x28), .second, .val (.ref b1), .val (.int x55), .unset, .unset, .unset, .unset, .unset, .unset, .unset] [(.long x12)])
  refine Go.of (fun t k => XS.lload X4.here hx rfl (hb hby at_59) rfl  k) ?_
  show Go p e below Φ T4 (mkF m 61 #[.val (.long i0), .second, .val (.long i1), .second, .val (.long i2), .second, .val (.long i3), .second, .val (.long x5), .second, .val (.long x12), .second, .val (.long x20), .second, .val (.long x28), .second, .val (.ref b1), .val (.int x55), .unset, .unset, .unset, .unset, .unset, .unset, .unset] [(.long x20), (.long x12)])
  refine Go.of (fun t k => XS.lload X4.here hx rfl (hb hby at_61) rfl  k) ?_
  show Go p e below Φ T4 (mkF m 63 #[.val (.long i0), .second, .val (.long i1), .second, .val (.long i2), .second, .val (.long i3), .second, .val (.long x5), .second, .val (.long x12), .second, .val (.long x20), .second, .val (.long x28), .second, .val (.ref b1), .val (.int x55), .unset, .unset, .unset, .unset, .unset, .unset, .unset] [(.long x5), (.long x20), (.long x12)])
  obtain ⟨_, _, ⟨T5, L5, k5, n5⟩, -, X5, ⟨Lc5, hQ5, l5, y5, z5⟩, st5⟩ := Jvm.LawKit.callS X4 hx (y := (⟨"com/example/demarq/demarq/broker/MessageMemoryReservePinLaw", "fits", "(JJJ)Z"⟩ : MethodName)) hown (mvT hZ (hw _ (List.mem_of_getElem? (i := 24) rfl))) (mvT hZ (hw _ (List.mem_of_getElem? (i := 25) rfl))) (mvT hZ (hw _ (List.mem_of_getElem? (i := 26) rfl))) (mvT hZ (hw _ (List.mem_of_getElem? (i := 27) rfl))) (by decide) (backOf (W := 0) (rm5 l Z a0 hw [] x12 x20 x5 T4.heap n0 Z4) hZ (hw _ (List.mem_of_getElem? (i := 27) rfl)) (hw _ (List.mem_of_getElem? (i := 26) rfl)) (by decide) (by decide)) (g := (mkF m 63 #[.val (.long i0), .second, .val (.long i1), .second, .val (.long i2), .second, .val (.long i3), .second, .val (.long x5), .second, .val (.long x12), .second, .val (.long x20), .second, .val (.long x28), .second, .val (.ref b1), .val (.int x55), .unset, .unset, .unset, .unset, .unset, .unset, .unset] [(.long x5), (.long x20), (.long x12)])) rfl (by rw [hml]; rfl) (argsL := [(.long x12), (.long x20), (.long x5)]) (rest := []) (lenOf own_pd2 rfl) rfl (by show 2 * 0 + _ ≤ _; exact Nat.le_of_eq rfl) (hb hby at_63) (fun _ _ => ⟨rfl, rfl, (by decide : 1 + 0 ≤ _), (by decide : 2 + 0 ≤ _)⟩)
  dsimp only [Pt.U, Pt.locs, Pt.cells, Pt.slots] at X5 l5 y5 z5 st5 hQ5
  subst l5 y5 z5
  obtain ⟨rfl, N5q, e5q⟩ := hQ5
  have N5 := Fr.app N4 N5q
  obtain ⟨lc5, X5, N5⟩ : ∃ lc, Stand p l e room_1 s m #[(.long i0), (.long i1), (.long i2), (.long i3)] below meth c T5 lc 1 2 ∧ Fr n0 lc := ⟨_, X5, N5⟩
  refine Go.of st5 ?_
  show Go p e below Φ T5 (mkF m 66 #[.val (.long i0), .second, .val (.long i1), .second, .val (.long i2), .second, .val (.long i3), .second, .val (.long x5), .second, .val (.long x12), .second, .val (.long x20), .second, .val (.long x28), .second, .val (.ref b1), .val (.int x55), .unset, .unset, .unset, .unset, .unset, .unset, .unset] [(.int (own_fits x12 x20 x5))])
  obtain ⟨x66, hx66⟩ : ∃ z : Int32, z = (own_fits x12 x20 x5) := ⟨_, rfl⟩
  rw [← hx66]
  refine Go.of (fun t k => XS.istore X5.here hx rfl (hb hby at_66) rfl (l' := #[.val (.long i0), .second, .val (.long i1), .second, .val (.long i2), .second, .val (.long i3), .second, .val (.long x5), .second, .val (.long x12), .second, .val (.long x20), .second, .val (.long x28), .second, .val (.ref b1), .val (.int x55), .val (.int x66), .unset, .unset, .unset, .unset, .unset, .unset]) rfl k) ?_
  show Go p e below Φ T5 (mkF m 68 #[.val (.long i0), .second, .val (.long i1), .second, .val (.long i2), .second, .val (.long i3), .second, .val (.long x5), .second, .val (.long x12), .second, .val (.long x20), .second, .val (.long x28), .second, .val (.ref b1), .val (.int x55), .val (.int x66), .unset, .unset, .unset, .unset, .unset, .unset] [])
  refine Go.of (fun t k => XS.iload X5.here hx rfl (hb hby at_68) rfl  k) ?_
  show Go p e below Φ T5 (mkF m 70 #[.val (.long i0), .second, .val (.long i1), .second, .val (.long i2), .second, .val (.long i3), .second, .val (.long x5), .second, .val (.long x12), .second, .val (.long x20), .second, .val (.long x28), .second, .val (.ref b1), .val (.int x55), .val (.int x66), .unset, .unset, .unset, .unset, .unset, .unset] [(.int x66)])
  suffices j83_6 :  ∀ v83 : Int64, v83 = (if x66 = (0 : Int32) then x12 else (x12 + x20)) → Go p e below Φ T5 (mkF m 83 #[.val (.long i0), .second, .val (.long i1), .second, .val (.long i2), .second, .val (.long i3), .second, .val (.long x5), .second, .val (.long x12), .second, .val (.long x20), .second, .val (.long x28), .second, .val (.ref b1), .val (.int x55), .val (.int x66), .unset, .unset, .unset, .unset, .unset, .unset] [(.long v83)]) by
    by_cases hc70 : x66 = (0 : Int32)
    · refine Go.of (fun t k => XS.ifYes X5.here hx rfl (pc0 := 70) (pc' := 81) rfl (hb hby at_70) rfl (XT.i0_eq_t hc70) (by decide) (by decide) k) ?_
      show Go p e below Φ T5 (mkF m 81 #[.val (.long i0), .second, .val (.long i1), .second, .val (.long i2), .second, .val (.long i3), .second, .val (.long x5), .second, .val (.long x12), .second, .val (.long x20), .second, .val (.long x28), .second, .val (.ref b1), .val (.int x55), .val (.int x66), .unset, .unset, .unset, .unset, .unset, .unset] [])
      refine Go.of (fun t k => XS.lload X5.here hx rfl (hb hby at_81) rfl  k) ?_
      show Go p e below Φ T5 (mkF m 83 #[.val (.long i0), .second, .val (.long i1), .second, .val (.long i2), .second, .val (.long i3), .second, .val (.long x5), .second, .val (.long x12), .second, .val (.long x20), .second, .val (.long x28), .second, .val (.ref b1), .val (.int x55), .val (.int x66), .unset, .unset, .unset, .unset, .unset, .unset] [(.long x12)])
      exact j83_6 _ (by rw [if_pos hc70])
    · refine Go.of (fun t k => XS.ifNo X5.here hx rfl (hb hby at_70) rfl (XT.i0_eq_f hc70) k) ?_
      show Go p e below Φ T5 (mkF m 73 #[.val (.long i0), .second, .val (.long i1), .second, .val (.long i2), .second, .val (.long i3), .second, .val (.long x5), .second, .val (.long x12), .second, .val (.long x20), .second, .val (.long x28), .second, .val (.ref b1), .val (.int x55), .val (.int x66), .unset, .unset, .unset, .unset, .unset, .unset] [])
      refine Go.of (fun t k => XS.lload X5.here hx rfl (hb hby at_73) rfl  k) ?_
      show Go p e below Φ T5 (mkF m 75 #[.val (.long i0), .second, .val (.long i1), .second, .val (.long i2), .second, .val (.long i3), .second, .val (.long x5), .second, .val (.long x12), .second, .val (.long x20), .second, .val (.long x28), .second, .val (.ref b1), .val (.int x55), .val (.int x66), .unset, .unset, .unset, .unset, .unset, .unset] [(.long x12)])
      refine Go.of (fun t k => XS.lload X5.here hx rfl (hb hby at_75) rfl  k) ?_
      show Go p e below Φ T5 (mkF m 77 #[.val (.long i0), .second, .val (.long i1), .second, .val (.long i2), .second, .val (.long i3), .second, .val (.long x5), .second, .val (.long x12), .second, .val (.long x20), .second, .val (.long x28), .second, .val (.ref b1), .val (.int x55), .val (.int x66), .unset, .unset, .unset, .unset, .unset, .unset] [(.long x20), (.long x12)])
      refine Go.of (fun t k => XS.ladd X5.here hx rfl (hb hby at_77) rfl k) ?_
      show Go p e below Φ T5 (mkF m 78 #[.val (.long i0), .second, .val (.long i1), .second, .val (.long i2), .second, .val (.long i3), .second, .val (.long x5), .second, .val (.long x12), .second, .val (.long x20), .second, .val (.long x28), .second, .val (.ref b1), .val (.int x55), .val (.int x66), .unset, .unset, .unset, .unset, .unset, .unset] [(.long (x12 + x20))])
      refine Go.of (fun t k => XS.goto X5.here hx rfl (pc0 := 78) (pc' := 83) rfl (hb hby at_78) (by decide) (by decide) k) ?_
      show Go p e below Φ T5 (mkF m 83 #[.val (.long i0), .second, .val (.long i1), .second, .val (.long i2), .second, .val (.long i3), .second, .val (.long x5), .second, .val (.long x12), .second, .val (.long x20), .second, .val (.long x28), .second, .val (.ref b1), .val (.int x55), .val (.int x66), .unset, .unset, .unset, .unset, .unset, .unset] [(.long (x12 + x20))])
      exact j83_6 _ (by rw [if_neg hc70])
  intro v83 hv83
  show Go p e below Φ T5 (mkF m 83 #[.val (.long i0), .second, .val (.long i1), .second, .val (.long i2), .second, .val (.long i3), .second, .val (.long x5), .second, .val (.long x12), .second, .val (.long x20), .second, .val (.long x28), .second, .val (.ref b1), .val (.int x55), .val (.int x66), .unset, .unset, .unset, .unset, .unset, .unset] [(.long v83)])
  refine Go.of (fun t k => XS.lstore X5.here hx rfl (hb hby at_83) rfl (l' := #[.val (.long i0), .second, .val (.long i1), .second, .val (.long i2), .second, .val (.long i3), .second, .val (.long x5), .second, .val (.long x12), .second, .val (.long x20), .second, .val (.long x28), .second, .val (.ref b1), .val (.int x55), .val (.int x66), .val (.long v83), .second, .unset, .unset, .unset, .unset]) rfl k) ?_
  show Go p e below Φ T5 (mkF m 85 #[.val (.long i0), .second, .val (.long i1), .second, .val (.long i2), .second, .val (.long i3), .second, .val (.long x5), .second, .val (.long x12), .second, .val (.long x20), .second, .val (.long x28), .second, .val (.ref b1), .val (.int x55), .val (.int x66), .val (.long v83), .second, .unset, .unset, .unset, .unset] [])
  refine Go.of (fun t k => XS.iload X5.here hx rfl (hb hby at_85) rfl  k) ?_
  show Go p e below Φ T5 (mkF m 87 #[.val (.long i0), .second, .val (.long i1), .second, .val (.long i2), .second, .val (.long i3), .second, .val (.long x5), .second, .val (.long x12), .second, .val (.long x20), .second, .val (.long x28), .second, .val (.ref b1), .val (.int x55), .val (.int x66), .val (.long v83), .second, .unset, .unset, .unset, .unset] [(.int x55)])
  refine Go.of (fun t k => XS.iload X5.here hx rfl (hb hby at_87) rfl  k) ?_
  show Go p e below Φ T5 (mkF m 89 #[.val (.long i0), .second, .val (.long i1), .second, .val (.long i2), .second, .val (.long i3), .second, .val (.long x5), .second, .val (.long x12), .second, .val (.long x20), .second, .val (.long x28), .second, .val (.ref b1), .val (.int x55), .val (.int x66), .val (.long v83), .second, .unset, .unset, .unset, .unset] [(.int x66), (.int x55)])
  by_cases hc89 : x55 = x66
  · refine Go.of (fun t k => XS.icmpNo X5.here hx rfl (hb hby at_89) rfl (XT.ii_ne_f hc89) k) ?_
    show Go p e below Φ T5 (mkF m 92 #[.val (.long i0), .second, .val (.long i1), .second, .val (.long i2), .second, .val (.long i3), .second, .val (.long x5), .second, .val (.long x12), .second, .val (.long x20), .second, .val (.long x28), .second, .val (.ref b1), .val (.int x55), .val (.int x66), .val (.long v83), .second, .unset, .unset, .unset, .unset] [])
    refine Go.of (fun t k => XS.aload X5.here hx rfl (hb hby at_92) rfl rfl  k) ?_
    show Go p e below Φ T5 (mkF m 94 #[.val (.long i0), .second, .val (.long i1), .second, .val (.long i2), .second, .val (.long i3), .second, .val (.long x5), .second, .val (.long x12), .second, .val (.long x20), .second, .val (.long x28), .second, .val (.ref b1), .val (.int x55), .val (.int x66), .val (.long v83), .second, .unset, .unset, .unset, .unset] [(.ref b1)])
    obtain ⟨cq7, kq7, q7a, q7b, q7c⟩ := isOf hZ (e5q) E_b1
    obtain ⟨_, _, ⟨T7, L7, k7, n7⟩, -, X7, ⟨Lc7, hQ7, l7, y7, z7⟩, st7⟩ := X5.virtualBack hx (y := (⟨"com/example/demarq/demarq/broker/MessageMemory", "used", "()J"⟩ : MethodName)) (z := (⟨"com/example/demarq/demarq/broker/MessageMemory", "used", "()J"⟩ : MethodName)) hown (mvT hZ (hw _ (List.mem_of_getElem? (i := 29) rfl))) (mvT hZ (hw _ (List.mem_of_getElem? (i := 30) rfl))) (notFace_of_selects (args := #[]) (mvT hZ (hw _ (List.mem_of_getElem? (i := 32) rfl)))) (mvT hZ (hw _ (List.mem_of_getElem? (i := 32) rfl))) (mvT hZ (hw _ (List.mem_of_getElem? (i := 31) rfl))) (by decide) (backOf (W := 0) (rm6 l Z a0 hw [] b1 y4_used T4.heap n0 Z4 F_b1_used) hZ (hw _ (List.mem_of_getElem? (i := 33) rfl)) (hw _ (List.mem_of_getElem? (i := 3) rfl)) (by decide) (by decide)) q7a q7c (g := (mkF m 94 #[.val (.long i0), .second, .val (.long i1), .second, .val (.long i2), .second, .val (.long i3), .second, .val (.long x5), .second, .val (.long x12), .second, .val (.long x20), .second, .val (.long x28), .second, .val (.ref b1), .val (.int x55), .val (.int x66), .val (.long v83), .second, .unset, .unset, .unset, .unset] [(.ref b1)])) rfl (by rw [hml]; rfl) (Steps.refl _) (argsL := []) (rest := []) (lenOf own_pd3 rfl) rfl (by show 2 * 0 + _ ≤ _; exact Nat.le_of_eq rfl) (hb hby at_94) (fun _ _ => ⟨rfl, (e5q), (by decide : 1 + 0 ≤ _), (by decide : 2 + 0 ≤ _)⟩)
    dsimp only [Pt.U, Pt.locs, Pt.cells, Pt.slots] at X7 l7 y7 z7 st7 hQ7
    subst l7 y7 z7
    obtain ⟨rfl, N7q, e7q⟩ := hQ7
    have N7 := Fr.app N5 N7q
    obtain ⟨lc7, X7, N7⟩ : ∃ lc, Stand p l e room_1 s m #[(.long i0), (.long i1), (.long i2), (.long i3)] below meth c T7 lc 1 2 ∧ Fr n0 lc := ⟨_, X7, N7⟩
    refine Go.tr st7 ?_
    show Go p e below Φ T7 (mkF m 97 #[.val (.long i0), .second, .val (.long i1), .second, .val (.long i2), .second, .val (.long i3), .second, .val (.long x5), .second, .val (.long x12), .second, .val (.long x20), .second, .val (.long x28), .second, .val (.ref b1), .val (.int x55), .val (.int x66), .val (.long v83), .second, .unset, .unset, .unset, .unset] [(.long y4_used)])
    refine Go.of (fun t k => XS.lload X7.here hx rfl (hb hby at_97) rfl  k) ?_
    show Go p e below Φ T7 (mkF m 99 #[.val (.long i0), .second, .val (.long i1), .second, .val (.long i2), .second, .val (.long i3), .second, .val (.long x5), .second, .val (.long x12), .second, .val (.long x20), .second, .val (.long x28), .second, .val (.ref b1), .val (.int x55), .val (.int x66), .val (.long v83), .second, .unset, .unset, .unset, .unset] [(.long v83), (.long y4_used)])
    refine Go.of (fun t k => XT.lcmp X7.here hx rfl (hb hby at_99) rfl k) ?_
    show Go p e below Φ T7 (mkF m 100 #[.val (.long i0), .second, .val (.long i1), .second, .val (.long i2), .second, .val (.long i3), .second, .val (.long x5), .second, .val (.long x12), .second, .val (.long x20), .second, .val (.long x28), .second, .val (.ref b1), .val (.int x55), .val (.int x66), .val (.long v83), .second, .unset, .unset, .unset, .unset] [(.int (XT.cmpL y4_used v83))])
    by_cases hc100 : y4_used = v83
    · refine Go.of (fun t k => XS.ifNo X7.here hx rfl (hb hby at_100) rfl (XT.ll_ne_f hc100) k) ?_
      show Go p e below Φ T7 (mkF m 103 #[.val (.long i0), .second, .val (.long i1), .second, .val (.long i2), .second, .val (.long i3), .second, .val (.long x5), .second, .val (.long x12), .second, .val (.long x20), .second, .val (.long x28), .second, .val (.ref b1), .val (.int x55), .val (.int x66), .val (.long v83), .second, .unset, .unset, .unset, .unset] [])
      refine Go.of (fun t k => XS.aload X7.here hx rfl (hb hby at_103) rfl rfl  k) ?_
      show Go p e below Φ T7 (mkF m 105 #[.val (.long i0), .second, .val (.long i1), .second, .val (.long i2), .second, .val (.long i3), .second, .val (.long x5), .second, .val (.long x12), .second, .val (.long x20), .second, .val (.long x28), .second, .val (.ref b1), .val (.int x55), .val (.int x66), .val (.long v83), .second, .unset, .unset, .unset, .unset] [(.ref b1)])
      obtain ⟨cq8, kq8, q8a, q8b, q8c⟩ := isOf hZ (e7q) E_b1
      obtain ⟨_, _, ⟨T8, L8, k8, n8⟩, -, X8, ⟨Lc8, hQ8, l8, y8, z8⟩, st8⟩ := X7.virtualBack hx (y := (⟨"com/example/demarq/demarq/broker/MessageMemory", "limit", "()J"⟩ : MethodName)) (z := (⟨"com/example/demarq/demarq/broker/MessageMemory", "limit", "()J"⟩ : MethodName)) hown (mvT hZ (hw _ (List.mem_of_getElem? (i := 34) rfl))) (mvT hZ (hw _ (List.mem_of_getElem? (i := 35) rfl))) (notFace_of_selects (args := #[]) (mvT hZ (hw _ (List.mem_of_getElem? (i := 37) rfl)))) (mvT hZ (hw _ (List.mem_of_getElem? (i := 37) rfl))) (mvT hZ (hw _ (List.mem_of_getElem? (i := 36) rfl))) (by decide) (backOf (W := 0) (rm7 l Z a0 hw [] b1 x5 T4.heap n0 Z4 F_b1_limit) hZ (hw _ (List.mem_of_getElem? (i := 38) rfl)) (hw _ (List.mem_of_getElem? (i := 3) rfl)) (by decide) (by decide)) q8a q8c (g := (mkF m 105 #[.val (.long i0), .second, .val (.long i1), .second, .val (.long i2), .second, .val (.long i3), .second, .val (.long x5), .second, .val (.long x12), .second, .val (.long x20), .second, .val (.long x28), .second, .val (.ref b1), .val (.int x55), .val (.int x66), .val (.long v83), .second, .unset, .unset, .unset, .unset] [(.ref b1)])) rfl (by rw [hml]; rfl) (Steps.refl _) (argsL := []) (rest := []) (lenOf own_pd3 rfl) rfl (by show 2 * 0 + _ ≤ _; exact Nat.le_of_eq rfl) (hb hby at_105) (fun _ _ => ⟨rfl, (e7q), (by decide : 1 + 0 ≤ _), (by decide : 2 + 0 ≤ _)⟩)
      dsimp only [Pt.U, Pt.locs, Pt.cells, Pt.slots] at X8 l8 y8 z8 st8 hQ8
      subst l8 y8 z8
      obtain ⟨rfl, N8q, e8q⟩ := hQ8
      have N8 := Fr.app N7 N8q
      obtain ⟨lc8, X8, N8⟩ : ∃ lc, Stand p l e room_1 s m #[(.long i0), (.long i1), (.long i2), (.long i3)] below meth c T8 lc 1 2 ∧ Fr n0 lc := ⟨_, X8, N8⟩
      refine Go.tr st8 ?_
      show Go p e below Φ T8 (mkF m 108 #[.val (.long i0), .second, .val (.long i1), .second, .val (.long i2), .second, .val (.long i3), .second, .val (.long x5), .second, .val (.long x12), .second, .val (.long x20), .second, .val (.long x28), .second, .val (.ref b1), .val (.int x55), .val (.int x66), .val (.long v83), .second, .unset, .unset, .unset, .unset] [(.long x5)])
      refine Go.of (fun t k => XS.lload X8.here hx rfl (hb hby at_108) rfl  k) ?_
      show Go p e below Φ T8 (mkF m 110 #[.val (.long i0), .second, .val (.long i1), .second, .val (.long i2), .second, .val (.long i3), .second, .val (.long x5), .second, .val (.long x12), .second, .val (.long x20), .second, .val (.long x28), .second, .val (.ref b1), .val (.int x55), .val (.int x66), .val (.long v83), .second, .unset, .unset, .unset, .unset] [(.long x5), (.long x5)])
      refine Go.of (fun t k => XT.lcmp X8.here hx rfl (hb hby at_110) rfl k) ?_
      show Go p e below Φ T8 (mkF m 111 #[.val (.long i0), .second, .val (.long i1), .second, .val (.long i2), .second, .val (.long i3), .second, .val (.long x5), .second, .val (.long x12), .second, .val (.long x20), .second, .val (.long x28), .second, .val (.ref b1), .val (.int x55), .val (.int x66), .val (.long v83), .second, .unset, .unset, .unset, .unset] [(.int (XT.cmpL x5 x5))])
      refine Go.of (fun t k => XS.ifYes X8.here hx rfl (pc0 := 111) (pc' := 116) rfl (hb hby at_111) rfl (XT.ll_eq_t rfl) (by decide) (by decide) k) ?_
      show Go p e below Φ T8 (mkF m 116 #[.val (.long i0), .second, .val (.long i1), .second, .val (.long i2), .second, .val (.long i3), .second, .val (.long x5), .second, .val (.long x12), .second, .val (.long x20), .second, .val (.long x28), .second, .val (.ref b1), .val (.int x55), .val (.int x66), .val (.long v83), .second, .unset, .unset, .unset, .unset] [])
      refine Go.of (fun t k => XS.aload X8.here hx rfl (hb hby at_116) rfl rfl  k) ?_
      show Go p e below Φ T8 (mkF m 118 #[.val (.long i0), .second, .val (.long i1), .second, .val (.long i2), .second, .val (.long i3), .second, .val (.long x5), .second, .val (.long x12), .second, .val (.long x20), .second, .val (.long x28), .second, .val (.ref b1), .val (.int x55), .val (.int x66), .val (.long v83), .second, .unset, .unset, .unset, .unset] [(.ref b1)])
      refine Go.of (fun t k => XS.lload X8.here hx rfl (hb hby at_118) rfl  k) ?_
      show Go p e below Φ T8 (mkF m 120 #[.val (.long i0), .second, .val (.long i1), .second, .val (.long i2), .second, .val (.long i3), .second, .val (.long x5), .second, .val (.long x12), .second, .val (.long x20), .second, .val (.long x28), .second, .val (.ref b1), .val (.int x55), .val (.int x66), .val (.long v83), .second, .unset, .unset, .unset, .unset] [(.long x28), (.ref b1)])
      obtain ⟨cq9, kq9, q9a, q9b, q9c⟩ := isOf hZ (e8q) E_b1
      obtain ⟨_, _, ⟨T9, L9, k9, n9⟩, -, X9, ⟨Lc9, hQ9, l9, y9, z9⟩, st9⟩ := X8.virtualBack hx (y := (⟨"com/example/demarq/demarq/broker/MessageMemory", "reserve", "(J)Z"⟩ : MethodName)) (z := (⟨"com/example/demarq/demarq/broker/MessageMemory", "reserve", "(J)Z"⟩ : MethodName)) hown (mvT hZ (hw _ (List.mem_of_getElem? (i := 19) rfl))) (mvT hZ (hw _ (List.mem_of_getElem? (i := 20) rfl))) (notFace_of_selects (args := #[]) (mvT hZ (hw _ (List.mem_of_getElem? (i := 22) rfl)))) (mvT hZ (hw _ (List.mem_of_getElem? (i := 22) rfl))) (mvT hZ (hw _ (List.mem_of_getElem? (i := 21) rfl))) (by decide) (backOf (W := 0) (rm4 l Z a0 hw [] b1 x28 x5 y4_used T4.heap n0 Z4 F_b1_limit F_b1_used E_b1 g_b1) hZ (hw _ (List.mem_of_getElem? (i := 23) rfl)) (hw _ (List.mem_of_getElem? (i := 3) rfl)) (by decide) (by decide)) q9a q9c (g := (mkF m 120 #[.val (.long i0), .second, .val (.long i1), .second, .val (.long i2), .second, .val (.long i3), .second, .val (.long x5), .second, .val (.long x12), .second, .val (.long x20), .second, .val (.long x28), .second, .val (.ref b1), .val (.int x55), .val (.int x66), .val (.long v83), .second, .unset, .unset, .unset, .unset] [(.long x28), (.ref b1)])) rfl (by rw [hml]; rfl) (Steps.refl _) (argsL := [(.long x28)]) (rest := []) (lenOf own_pd1 rfl) rfl (by show 2 * 0 + _ ≤ _; exact Nat.le_of_eq rfl) (hb hby at_120) (fun _ _ => ⟨rfl, (e8q), (by decide : 1 + 0 ≤ _), (by decide : 2 + 0 ≤ _)⟩)
      dsimp only [Pt.U, Pt.locs, Pt.cells, Pt.slots] at X9 l9 y9 z9 st9 hQ9
      subst l9 y9 z9
      obtain ⟨rfl, N9q, K9q, c9_0, c9_1, c9_2⟩ := hQ9
      have N9 := Fr.app N8 N9q
      obtain ⟨lc9, X9, N9⟩ : ∃ lc, Stand p l e room_1 s m #[(.long i0), (.long i1), (.long i2), (.long i3)] below meth c T9 lc 1 2 ∧ Fr n0 lc := ⟨_, X9, N9⟩
      have E_b1 := c9_0
      have F_b1_limit := c9_1
      obtain ⟨y9_used, hy9_used⟩ : ∃ z : Int64, z = (own_p4_a_used x28 x5 y4_used) := ⟨_, rfl⟩
      rw [← hy9_used] at c9_2
      have F_b1_used := c9_2
      have Z9 := Nat.le_trans Z4 K9q.1
      refine Go.tr st9 ?_
      show Go p e below Φ T9 (mkF m 123 #[.val (.long i0), .second, .val (.long i1), .second, .val (.long i2), .second, .val (.long i3), .second, .val (.long x5), .second, .val (.long x12), .second, .val (.long x20), .second, .val (.long x28), .second, .val (.ref b1), .val (.int x55), .val (.int x66), .val (.long v83), .second, .unset, .unset, .unset, .unset] [(.int (own_res x28 x5 y4_used))])
      obtain ⟨x123, hx123⟩ : ∃ z : Int32, z = (own_res x28 x5 y4_used) := ⟨_, rfl⟩
      rw [← hx123]
      refine Go.of (fun t k => XS.istore X9.here hx rfl (hb hby at_123) rfl (l' := #[.val (.long i0), .second, .val (.long i1), .second, .val (.long i2), .second, .val (.long i3), .second, .val (.long x5), .second, .val (.long x12), .second, .val (.long x20), .second, .val (.long x28), .second, .val (.ref b1), .val (.int x55), .val (.int x66), .val (.long v83), .second, .val (.int x123), .unset, .unset, .unset]) rfl k) ?_
      show Go p e below Φ T9 (mkF m 125 #[.val (.long i0), .second, .val (.long i1), .second, .val (.long i2), .second, .val (.long i3), .second, .val (.long x5), .second, .val (.long x12), .second, .val (.long x20), .second, .val (.long x28), .second, .val (.ref b1), .val (.int x55), .val (.int x66), .val (.long v83), .second, .val (.int x123), .unset, .unset, .unset] [])
      refine Go.of (fun t k => XS.lload X9.here hx rfl (hb hby at_125) rfl  k) ?_
      show Go p e below Φ T9 (mkF m 127 #[.val (.long i0), .second, .val (.long i1), .second, .val (.long i2), .second, .val (.long i3), .second, .val (.long x5), .second, .val (.long x12), .second, .val (.long x20), .second, .val (.long x28), .second, .val (.ref b1), .val (.int x55), .val (.int x66), .val (.long v83), .second, .val (.int x123), .unset, .unset, .unset] [(.long v83)])
      refine Go.of (fun t k => XS.lload X9.here hx rfl (hb hby at_127) rfl  k) ?_
      show Go p e below Φ T9 (mkF m 129 #[.val (.long i0), .second, .val (.long i1), .second, .val (.long i2), .second, .val (.long i3), .second, .val (.long x5), .second, .val (.long x12), .second, .val (.long x20), .second, .val (.long x28), .second, .val (.ref b1), .val (.int x55), .val (.int x66), .val (.long v83), .second, .val (.int x123), .unset, .unset, .unset] [(.long x28), (.long v83)])
      refine Go.of (fun t k => XS.lload X9.here hx rfl (hb hby at_129) rfl  k) ?_
      show Go p e below Φ T9 (mkF m 131 #[.val (.long i0), .second, .val (.long i1), .second, .val (.long i2), .second, .val (.long i3), .second, .val (.long x5), .second, .val (.long x12), .second, .val (.long x20), .second, .val (.long x28), .second, .val (.ref b1), .val (.int x55), .val (.int x66), .val (.long v83), .second, .val (.int x123), .unset, .unset, .unset] [(.long x5), (.long x28), (.long v83)])
      obtain ⟨_, _, ⟨T10, L10, k10, n10⟩, -, X10, ⟨Lc10, hQ10, l10, y10, z10⟩, st10⟩ := Jvm.LawKit.callS X9 hx (y := (⟨"com/example/demarq/demarq/broker/MessageMemoryReservePinLaw", "fits", "(JJJ)Z"⟩ : MethodName)) hown (mvT hZ (hw _ (List.mem_of_getElem? (i := 24) rfl))) (mvT hZ (hw _ (List.mem_of_getElem? (i := 25) rfl))) (mvT hZ (hw _ (List.mem_of_getElem? (i := 26) rfl))) (mvT hZ (hw _ (List.mem_of_getElem? (i := 27) rfl))) (by decide) (backOf (W := 0) (rm5 l Z a0 hw [] v83 x28 x5 T9.heap n0 Z9) hZ (hw _ (List.mem_of_getElem? (i := 27) rfl)) (hw _ (List.mem_of_getElem? (i := 26) rfl)) (by decide) (by decide)) (g := (mkF m 131 #[.val (.long i0), .second, .val (.long i1), .second, .val (.long i2), .second, .val (.long i3), .second, .val (.long x5), .second, .val (.long x12), .second, .val (.long x20), .second, .val (.long x28), .second, .val (.ref b1), .val (.int x55), .val (.int x66), .val (.long v83), .second, .val (.int x123), .unset, .unset, .unset] [(.long x5), (.long x28), (.long v83)])) rfl (by rw [hml]; rfl) (argsL := [(.long v83), (.long x28), (.long x5)]) (rest := []) (lenOf own_pd2 rfl) rfl (by show 2 * 0 + _ ≤ _; exact Nat.le_of_eq rfl) (hb hby at_131) (fun _ _ => ⟨rfl, rfl, (by decide : 1 + 0 ≤ _), (by decide : 2 + 0 ≤ _)⟩)
      dsimp only [Pt.U, Pt.locs, Pt.cells, Pt.slots] at X10 l10 y10 z10 st10 hQ10
      subst l10 y10 z10
      obtain ⟨rfl, N10q, e10q⟩ := hQ10
      have N10 := Fr.app N9 N10q
      obtain ⟨lc10, X10, N10⟩ : ∃ lc, Stand p l e room_1 s m #[(.long i0), (.long i1), (.long i2), (.long i3)] below meth c T10 lc 1 2 ∧ Fr n0 lc := ⟨_, X10, N10⟩
      refine Go.of st10 ?_
      show Go p e below Φ T10 (mkF m 134 #[.val (.long i0), .second, .val (.long i1), .second, .val (.long i2), .second, .val (.long i3), .second, .val (.long x5), .second, .val (.long x12), .second, .val (.long x20), .second, .val (.long x28), .second, .val (.ref b1), .val (.int x55), .val (.int x66), .val (.long v83), .second, .val (.int x123), .unset, .unset, .unset] [(.int (own_fits v83 x28 x5))])
      obtain ⟨x134, hx134⟩ : ∃ z : Int32, z = (own_fits v83 x28 x5) := ⟨_, rfl⟩
      rw [← hx134]
      refine Go.of (fun t k => XS.istore X10.here hx rfl (hb hby at_134) rfl (l' := #[.val (.long i0), .second, .val (.long i1), .second, .val (.long i2), .second, .val (.long i3), .second, .val (.long x5), .second, .val (.long x12), .second, .val (.long x20), .second, .val (.long x28), .second, .val (.ref b1), .val (.int x55), .val (.int x66), .val (.long v83), .second, .val (.int x123), .val (.int x134), .unset, .unset]) rfl k) ?_
      show Go p e below Φ T10 (mkF m 136 #[.val (.long i0), .second, .val (.long i1), .second, .val (.long i2), .second, .val (.long i3), .second, .val (.long x5), .second, .val (.long x12), .second, .val (.long x20), .second, .val (.long x28), .second, .val (.ref b1), .val (.int x55), .val (.int x66), .val (.long v83), .second, .val (.int x123), .val (.int x134), .unset, .unset] [])
      refine Go.of (fun t k => XS.iload X10.here hx rfl (hb hby at_136) rfl  k) ?_
      show Go p e below Φ T10 (mkF m 138 #[.val (.long i0), .second, .val (.long i1), .second, .val (.long i2), .second, .val (.long i3), .second, .val (.long x5), .second, .val (.long x12), .second, .val (.long x20), .second, .val (.long x28), .second, .val (.ref b1), .val (.int x55), .val (.int x66), .val (.long v83), .second, .val (.int x123), .val (.int x134), .unset, .unset] [(.int x134)])
      suffices j151_11 :  ∀ v151 : Int64, v151 = (if x134 = (0 : Int32) then v83 else (v83 + x28)) → Go p e below Φ T10 (mkF m 151 #[.val (.long i0), .second, .val (.long i1), .second, .val (.long i2), .second, .val (.long i3), .second, .val (.long x5), .second, .val (.long x12), .second, .val (.long x20), .second, .val (.long x28), .second, .val (.ref b1), .val (.int x55), .val (.int x66), .val (.long v83), .second, .val (.int x123), .val (.int x134), .unset, .unset] [(.long v151)]) by
        by_cases hc138 : x134 = (0 : Int32)
        · refine Go.of (fun t k => XS.ifYes X10.here hx rfl (pc0 := 138) (pc' := 149) rfl (hb hby at_138) rfl (XT.i0_eq_t hc138) (by decide) (by decide) k) ?_
          show Go p e below Φ T10 (mkF m 149 #[.val (.long i0), .second, .val (.long i1), .second, .val (.long i2), .second, .val (.long i3), .second, .val (.long x5), .second, .val (.long x12), .second, .val (.long x20), .second, .val (.long x28), .second, .val (.ref b1), .val (.int x55), .val (.int x66), .val (.long v83), .second, .val (.int x123), .val (.int x134), .unset, .unset] [])
          refine Go.of (fun t k => XS.lload X10.here hx rfl (hb hby at_149) rfl  k) ?_
          show Go p e below Φ T10 (mkF m 151 #[.val (.long i0), .second, .val (.long i1), .second, .val (.long i2), .second, .val (.long i3), .second, .val (.long x5), .second, .val (.long x12), .second, .val (.long x20), .second, .val (.long x28), .second, .val (.ref b1), .val (.int x55), .val (.int x66), .val (.long v83), .second, .val (.int x123), .val (.int x134), .unset, .unset] [(.long v83)])
          exact j151_11 _ (by rw [if_pos hc138])
        · refine Go.of (fun t k => XS.ifNo X10.here hx rfl (hb hby at_138) rfl (XT.i0_eq_f hc138) k) ?_
          show Go p e below Φ T10 (mkF m 141 #[.val (.long i0), .second, .val (.long i1), .second, .val (.long i2), .second, .val (.long i3), .second, .val (.long x5), .second, .val (.long x12), .second, .val (.long x20), .second, .val (.long x28), .second, .val (.ref b1), .val (.int x55), .val (.int x66), .val (.long v83), .second, .val (.int x123), .val (.int x134), .unset, .unset] [])
          refine Go.of (fun t k => XS.lload X10.here hx rfl (hb hby at_141) rfl  k) ?_
          show Go p e below Φ T10 (mkF m 143 #[.val (.long i0), .second, .val (.long i1), .second, .val (.long i2), .second, .val (.long i3), .second, .val (.long x5), .second, .val (.long x12), .second, .val (.long x20), .second, .val (.long x28), .second, .val (.ref b1), .val (.int x55), .val (.int x66), .val (.long v83), .second, .val (.int x123), .val (.int x134), .unset, .unset] [(.long v83)])
          refine Go.of (fun t k => XS.lload X10.here hx rfl (hb hby at_143) rfl  k) ?_
          show Go p e below Φ T10 (mkF m 145 #[.val (.long i0), .second, .val (.long i1), .second, .val (.long i2), .second, .val (.long i3), .second, .val (.long x5), .second, .val (.long x12), .second, .val (.long x20), .second, .val (.long x28), .second, .val (.ref b1), .val (.int x55), .val (.int x66), .val (.long v83), .second, .val (.int x123), .val (.int x134), .unset, .unset] [(.long x28), (.long v83)])
          refine Go.of (fun t k => XS.ladd X10.here hx rfl (hb hby at_145) rfl k) ?_
          show Go p e below Φ T10 (mkF m 146 #[.val (.long i0), .second, .val (.long i1), .second, .val (.long i2), .second, .val (.long i3), .second, .val (.long x5), .second, .val (.long x12), .second, .val (.long x20), .second, .val (.long x28), .second, .val (.ref b1), .val (.int x55), .val (.int x66), .val (.long v83), .second, .val (.int x123), .val (.int x134), .unset, .unset] [(.long (v83 + x28))])
          refine Go.of (fun t k => XS.goto X10.here hx rfl (pc0 := 146) (pc' := 151) rfl (hb hby at_146) (by decide) (by decide) k) ?_
          show Go p e below Φ T10 (mkF m 151 #[.val (.long i0), .second, .val (.long i1), .second, .val (.long i2), .second, .val (.long i3), .second, .val (.long x5), .second, .val (.long x12), .second, .val (.long x20), .second, .val (.long x28), .second, .val (.ref b1), .val (.int x55), .val (.int x66), .val (.long v83), .second, .val (.int x123), .val (.int x134), .unset, .unset] [(.long (v83 + x28))])
          exact j151_11 _ (by rw [if_neg hc138])
      intro v151 hv151
      show Go p e below Φ T10 (mkF m 151 #[.val (.long i0), .second, .val (.long i1), .second, .val (.long i2), .second, .val (.long i3), .second, .val (.long x5), .second, .val (.long x12), .second, .val (.long x20), .second, .val (.long x28), .second, .val (.ref b1), .val (.int x55), .val (.int x66), .val (.long v83), .second, .val (.int x123), .val (.int x134), .unset, .unset] [(.long v151)])
      refine Go.of (fun t k => XS.lstore X10.here hx rfl (hb hby at_151) rfl (l' := #[.val (.long i0), .second, .val (.long i1), .second, .val (.long i2), .second, .val (.long i3), .second, .val (.long x5), .second, .val (.long x12), .second, .val (.long x20), .second, .val (.long x28), .second, .val (.ref b1), .val (.int x55), .val (.int x66), .val (.long v83), .second, .val (.int x123), .val (.int x134), .val (.long v151), .second]) rfl k) ?_
      show Go p e below Φ T10 (mkF m 153 #[.val (.long i0), .second, .val (.long i1), .second, .val (.long i2), .second, .val (.long i3), .second, .val (.long x5), .second, .val (.long x12), .second, .val (.long x20), .second, .val (.long x28), .second, .val (.ref b1), .val (.int x55), .val (.int x66), .val (.long v83), .second, .val (.int x123), .val (.int x134), .val (.long v151), .second] [])
      refine Go.of (fun t k => XS.iload X10.here hx rfl (hb hby at_153) rfl  k) ?_
      show Go p e below Φ T10 (mkF m 155 #[.val (.long i0), .second, .val (.long i1), .second, .val (.long i2), .second, .val (.long i3), .second, .val (.long x5), .second, .val (.long x12), .second, .val (.long x20), .second, .val (.long x28), .second, .val (.ref b1), .val (.int x55), .val (.int x66), .val (.long v83), .second, .val (.int x123), .val (.int x134), .val (.long v151), .second] [(.int x123)])
      refine Go.of (fun t k => XS.iload X10.here hx rfl (hb hby at_155) rfl  k) ?_
      show Go p e below Φ T10 (mkF m 157 #[.val (.long i0), .second, .val (.long i1), .second, .val (.long i2), .second, .val (.long i3), .second, .val (.long x5), .second, .val (.long x12), .second, .val (.long x20), .second, .val (.long x28), .second, .val (.ref b1), .val (.int x55), .val (.int x66), .val (.long v83), .second, .val (.int x123), .val (.int x134), .val (.long v151), .second] [(.int x134), (.int x123)])
      by_cases hc157 : x123 = x134
      · refine Go.of (fun t k => XS.icmpNo X10.here hx rfl (hb hby at_157) rfl (XT.ii_ne_f hc157) k) ?_
        show Go p e below Φ T10 (mkF m 160 #[.val (.long i0), .second, .val (.long i1), .second, .val (.long i2), .second, .val (.long i3), .second, .val (.long x5), .second, .val (.long x12), .second, .val (.long x20), .second, .val (.long x28), .second, .val (.ref b1), .val (.int x55), .val (.int x66), .val (.long v83), .second, .val (.int x123), .val (.int x134), .val (.long v151), .second] [])
        refine Go.of (fun t k => XS.aload X10.here hx rfl (hb hby at_160) rfl rfl  k) ?_
        show Go p e below Φ T10 (mkF m 162 #[.val (.long i0), .second, .val (.long i1), .second, .val (.long i2), .second, .val (.long i3), .second, .val (.long x5), .second, .val (.long x12), .second, .val (.long x20), .second, .val (.long x28), .second, .val (.ref b1), .val (.int x55), .val (.int x66), .val (.long v83), .second, .val (.int x123), .val (.int x134), .val (.long v151), .second] [(.ref b1)])
        obtain ⟨cq12, kq12, q12a, q12b, q12c⟩ := isOf hZ (e10q) E_b1
        obtain ⟨_, _, ⟨T12, L12, k12, n12⟩, -, X12, ⟨Lc12, hQ12, l12, y12, z12⟩, st12⟩ := X10.virtualBack hx (y := (⟨"com/example/demarq/demarq/broker/MessageMemory", "used", "()J"⟩ : MethodName)) (z := (⟨"com/example/demarq/demarq/broker/MessageMemory", "used", "()J"⟩ : MethodName)) hown (mvT hZ (hw _ (List.mem_of_getElem? (i := 29) rfl))) (mvT hZ (hw _ (List.mem_of_getElem? (i := 30) rfl))) (notFace_of_selects (args := #[]) (mvT hZ (hw _ (List.mem_of_getElem? (i := 32) rfl)))) (mvT hZ (hw _ (List.mem_of_getElem? (i := 32) rfl))) (mvT hZ (hw _ (List.mem_of_getElem? (i := 31) rfl))) (by decide) (backOf (W := 0) (rm6 l Z a0 hw [] b1 y9_used T9.heap n0 Z9 F_b1_used) hZ (hw _ (List.mem_of_getElem? (i := 33) rfl)) (hw _ (List.mem_of_getElem? (i := 3) rfl)) (by decide) (by decide)) q12a q12c (g := (mkF m 162 #[.val (.long i0), .second, .val (.long i1), .second, .val (.long i2), .second, .val (.long i3), .second, .val (.long x5), .second, .val (.long x12), .second, .val (.long x20), .second, .val (.long x28), .second, .val (.ref b1), .val (.int x55), .val (.int x66), .val (.long v83), .second, .val (.int x123), .val (.int x134), .val (.long v151), .second] [(.ref b1)])) rfl (by rw [hml]; rfl) (Steps.refl _) (argsL := []) (rest := []) (lenOf own_pd3 rfl) rfl (by show 2 * 0 + _ ≤ _; exact Nat.le_of_eq rfl) (hb hby at_162) (fun _ _ => ⟨rfl, (e10q), (by decide : 1 + 0 ≤ _), (by decide : 2 + 0 ≤ _)⟩)
        dsimp only [Pt.U, Pt.locs, Pt.cells, Pt.slots] at X12 l12 y12 z12 st12 hQ12
        subst l12 y12 z12
        obtain ⟨rfl, N12q, e12q⟩ := hQ12
        have N12 := Fr.app N10 N12q
        obtain ⟨lc12, X12, N12⟩ : ∃ lc, Stand p l e room_1 s m #[(.long i0), (.long i1), (.long i2), (.long i3)] below meth c T12 lc 1 2 ∧ Fr n0 lc := ⟨_, X12, N12⟩
        refine Go.tr st12 ?_
        show Go p e below Φ T12 (mkF m 165 #[.val (.long i0), .second, .val (.long i1), .second, .val (.long i2), .second, .val (.long i3), .second, .val (.long x5), .second, .val (.long x12), .second, .val (.long x20), .second, .val (.long x28), .second, .val (.ref b1), .val (.int x55), .val (.int x66), .val (.long v83), .second, .val (.int x123), .val (.int x134), .val (.long v151), .second] [(.long y9_used)])
        refine Go.of (fun t k => XS.lload X12.here hx rfl (hb hby at_165) rfl  k) ?_
        show Go p e below Φ T12 (mkF m 167 #[.val (.long i0), .second, .val (.long i1), .second, .val (.long i2), .second, .val (.long i3), .second, .val (.long x5), .second, .val (.long x12), .second, .val (.long x20), .second, .val (.long x28), .second, .val (.ref b1), .val (.int x55), .val (.int x66), .val (.long v83), .second, .val (.int x123), .val (.int x134), .val (.long v151), .second] [(.long v151), (.long y9_used)])
        refine Go.of (fun t k => XT.lcmp X12.here hx rfl (hb hby at_167) rfl k) ?_
        show Go p e below Φ T12 (mkF m 168 #[.val (.long i0), .second, .val (.long i1), .second, .val (.long i2), .second, .val (.long i3), .second, .val (.long x5), .second, .val (.long x12), .second, .val (.long x20), .second, .val (.long x28), .second, .val (.ref b1), .val (.int x55), .val (.int x66), .val (.long v83), .second, .val (.int x123), .val (.int x134), .val (.long v151), .second] [(.int (XT.cmpL y9_used v151))])
        by_cases hc168 : y9_used = v151
        · refine Go.of (fun t k => XS.ifNo X12.here hx rfl (hb hby at_168) rfl (XT.ll_ne_f hc168) k) ?_
          show Go p e below Φ T12 (mkF m 171 #[.val (.long i0), .second, .val (.long i1), .second, .val (.long i2), .second, .val (.long i3), .second, .val (.long x5), .second, .val (.long x12), .second, .val (.long x20), .second, .val (.long x28), .second, .val (.ref b1), .val (.int x55), .val (.int x66), .val (.long v83), .second, .val (.int x123), .val (.int x134), .val (.long v151), .second] [])
          refine Go.of (fun t k => XS.aload X12.here hx rfl (hb hby at_171) rfl rfl  k) ?_
          show Go p e below Φ T12 (mkF m 173 #[.val (.long i0), .second, .val (.long i1), .second, .val (.long i2), .second, .val (.long i3), .second, .val (.long x5), .second, .val (.long x12), .second, .val (.long x20), .second, .val (.long x28), .second, .val (.ref b1), .val (.int x55), .val (.int x66), .val (.long v83), .second, .val (.int x123), .val (.int x134), .val (.long v151), .second] [(.ref b1)])
          obtain ⟨cq13, kq13, q13a, q13b, q13c⟩ := isOf hZ (e12q) E_b1
          obtain ⟨_, _, ⟨T13, L13, k13, n13⟩, -, X13, ⟨Lc13, hQ13, l13, y13, z13⟩, st13⟩ := X12.virtualBack hx (y := (⟨"com/example/demarq/demarq/broker/MessageMemory", "limit", "()J"⟩ : MethodName)) (z := (⟨"com/example/demarq/demarq/broker/MessageMemory", "limit", "()J"⟩ : MethodName)) hown (mvT hZ (hw _ (List.mem_of_getElem? (i := 34) rfl))) (mvT hZ (hw _ (List.mem_of_getElem? (i := 35) rfl))) (notFace_of_selects (args := #[]) (mvT hZ (hw _ (List.mem_of_getElem? (i := 37) rfl)))) (mvT hZ (hw _ (List.mem_of_getElem? (i := 37) rfl))) (mvT hZ (hw _ (List.mem_of_getElem? (i := 36) rfl))) (by decide) (backOf (W := 0) (rm7 l Z a0 hw [] b1 x5 T9.heap n0 Z9 F_b1_limit) hZ (hw _ (List.mem_of_getElem? (i := 38) rfl)) (hw _ (List.mem_of_getElem? (i := 3) rfl)) (by decide) (by decide)) q13a q13c (g := (mkF m 173 #[.val (.long i0), .second, .val (.long i1), .second, .val (.long i2), .second, .val (.long i3), .second, .val (.long x5), .second, .val (.long x12), .second, .val (.long x20), .second, .val (.long x28), .second, .val (.ref b1), .val (.int x55), .val (.int x66), .val (.long v83), .second, .val (.int x123), .val (.int x134), .val (.long v151), .second] [(.ref b1)])) rfl (by rw [hml]; rfl) (Steps.refl _) (argsL := []) (rest := []) (lenOf own_pd3 rfl) rfl (by show 2 * 0 + _ ≤ _; exact Nat.le_of_eq rfl) (hb hby at_173) (fun _ _ => ⟨rfl, (e12q), (by decide : 1 + 0 ≤ _), (by decide : 2 + 0 ≤ _)⟩)
          dsimp only [Pt.U, Pt.locs, Pt.cells, Pt.slots] at X13 l13 y13 z13 st13 hQ13
          subst l13 y13 z13
          obtain ⟨rfl, N13q, e13q⟩ := hQ13
          have N13 := Fr.app N12 N13q
          obtain ⟨lc13, X13, N13⟩ : ∃ lc, Stand p l e room_1 s m #[(.long i0), (.long i1), (.long i2), (.long i3)] below meth c T13 lc 1 2 ∧ Fr n0 lc := ⟨_, X13, N13⟩
          refine Go.tr st13 ?_
          show Go p e below Φ T13 (mkF m 176 #[.val (.long i0), .second, .val (.long i1), .second, .val (.long i2), .second, .val (.long i3), .second, .val (.long x5), .second, .val (.long x12), .second, .val (.long x20), .second, .val (.long x28), .second, .val (.ref b1), .val (.int x55), .val (.int x66), .val (.long v83), .second, .val (.int x123), .val (.int x134), .val (.long v151), .second] [(.long x5)])
          refine Go.of (fun t k => XS.lload X13.here hx rfl (hb hby at_176) rfl  k) ?_
          show Go p e below Φ T13 (mkF m 178 #[.val (.long i0), .second, .val (.long i1), .second, .val (.long i2), .second, .val (.long i3), .second, .val (.long x5), .second, .val (.long x12), .second, .val (.long x20), .second, .val (.long x28), .second, .val (.ref b1), .val (.int x55), .val (.int x66), .val (.long v83), .second, .val (.int x123), .val (.int x134), .val (.long v151), .second] [(.long x5), (.long x5)])
          refine Go.of (fun t k => XT.lcmp X13.here hx rfl (hb hby at_178) rfl k) ?_
          show Go p e below Φ T13 (mkF m 179 #[.val (.long i0), .second, .val (.long i1), .second, .val (.long i2), .second, .val (.long i3), .second, .val (.long x5), .second, .val (.long x12), .second, .val (.long x20), .second, .val (.long x28), .second, .val (.ref b1), .val (.int x55), .val (.int x66), .val (.long v83), .second, .val (.int x123), .val (.int x134), .val (.long v151), .second] [(.int (XT.cmpL x5 x5))])
          refine Go.of (fun t k => XS.ifNo X13.here hx rfl (hb hby at_179) rfl (XT.ll_ne_f rfl) k) ?_
          show Go p e below Φ T13 (mkF m 182 #[.val (.long i0), .second, .val (.long i1), .second, .val (.long i2), .second, .val (.long i3), .second, .val (.long x5), .second, .val (.long x12), .second, .val (.long x20), .second, .val (.long x28), .second, .val (.ref b1), .val (.int x55), .val (.int x66), .val (.long v83), .second, .val (.int x123), .val (.int x134), .val (.long v151), .second] [])
          refine Go.of (fun t k => XS.iconst X13.here hx rfl (hb hby at_182) k) ?_
          show Go p e below Φ T13 (mkF m 183 #[.val (.long i0), .second, .val (.long i1), .second, .val (.long i2), .second, .val (.long i3), .second, .val (.long x5), .second, .val (.long x12), .second, .val (.long x20), .second, .val (.long x28), .second, .val (.ref b1), .val (.int x55), .val (.int x66), .val (.long v83), .second, .val (.int x123), .val (.int x134), .val (.long v151), .second] [(.int (1 : Int32))])
          refine Go.of (fun t k => XS.goto X13.here hx rfl (pc0 := 183) (pc' := 187) rfl (hb hby at_183) (by decide) (by decide) k) ?_
          show Go p e below Φ T13 (mkF m 187 #[.val (.long i0), .second, .val (.long i1), .second, .val (.long i2), .second, .val (.long i3), .second, .val (.long x5), .second, .val (.long x12), .second, .val (.long x20), .second, .val (.long x28), .second, .val (.ref b1), .val (.int x55), .val (.int x66), .val (.long v83), .second, .val (.int x123), .val (.int x134), .val (.long v151), .second] [(.int (1 : Int32))])
          rw [hΦ]
          refine Go.ret X13 hx Bd.notSynchronized Bd.returns rfl (Or.inl ⟨rfl, Or.inr (Or.inl rfl), _, rfl⟩) (hb hby at_187) (by decide) (by decide) ?_
          rw [(e13q)]
          exact ⟨rfl, N13⟩
        · refine Go.of (fun t k => XS.ifYes X12.here hx rfl (pc0 := 168) (pc' := 186) rfl (hb hby at_168) rfl (XT.ll_ne_t hc168) (by decide) (by decide) k) ?_
          show Go p e below Φ T12 (mkF m 186 #[.val (.long i0), .second, .val (.long i1), .second, .val (.long i2), .second, .val (.long i3), .second, .val (.long x5), .second, .val (.long x12), .second, .val (.long x20), .second, .val (.long x28), .second, .val (.ref b1), .val (.int x55), .val (.int x66), .val (.long v83), .second, .val (.int x123), .val (.int x134), .val (.long v151), .second] [])
          refine Go.of (fun t k => XS.iconst X12.here hx rfl (hb hby at_186) k) ?_
          show Go p e below Φ T12 (mkF m 187 #[.val (.long i0), .second, .val (.long i1), .second, .val (.long i2), .second, .val (.long i3), .second, .val (.long x5), .second, .val (.long x12), .second, .val (.long x20), .second, .val (.long x28), .second, .val (.ref b1), .val (.int x55), .val (.int x66), .val (.long v83), .second, .val (.int x123), .val (.int x134), .val (.long v151), .second] [(.int (0 : Int32))])
          rw [hΦ]
          refine Go.ret X12 hx Bd.notSynchronized Bd.returns rfl (Or.inl ⟨rfl, Or.inr (Or.inl rfl), _, rfl⟩) (hb hby at_187) (by decide) (by decide) ?_
          rw [(e12q)]
          exact ⟨congrArg (fun z => some (Value.int z)) (own_plain2 i0 i1 i2 i3 x5 hx5 x12 hx12 x20 hx20 x28 hx28 y3_used hy3_used y4_used hy4_used x55 hx55 x66 hx66 v83 hv83 y9_used hy9_used x123 hx123 x134 hx134 v151 hv151 hc89 hc100 hc157 hc168), N12⟩
      · refine Go.of (fun t k => XS.icmpYes X10.here hx rfl (pc0 := 157) (pc' := 186) rfl (hb hby at_157) rfl (XT.ii_ne_t hc157) (by decide) (by decide) k) ?_
        show Go p e below Φ T10 (mkF m 186 #[.val (.long i0), .second, .val (.long i1), .second, .val (.long i2), .second, .val (.long i3), .second, .val (.long x5), .second, .val (.long x12), .second, .val (.long x20), .second, .val (.long x28), .second, .val (.ref b1), .val (.int x55), .val (.int x66), .val (.long v83), .second, .val (.int x123), .val (.int x134), .val (.long v151), .second] [])
        refine Go.of (fun t k => XS.iconst X10.here hx rfl (hb hby at_186) k) ?_
        show Go p e below Φ T10 (mkF m 187 #[.val (.long i0), .second, .val (.long i1), .second, .val (.long i2), .second, .val (.long i3), .second, .val (.long x5), .second, .val (.long x12), .second, .val (.long x20), .second, .val (.long x28), .second, .val (.ref b1), .val (.int x55), .val (.int x66), .val (.long v83), .second, .val (.int x123), .val (.int x134), .val (.long v151), .second] [(.int (0 : Int32))])
        rw [hΦ]
        refine Go.ret X10 hx Bd.notSynchronized Bd.returns rfl (Or.inl ⟨rfl, Or.inr (Or.inl rfl), _, rfl⟩) (hb hby at_187) (by decide) (by decide) ?_
        rw [(e10q)]
        exact ⟨congrArg (fun z => some (Value.int z)) (own_plain3 i0 i1 i2 i3 x5 hx5 x12 hx12 x20 hx20 x28 hx28 y3_used hy3_used y4_used hy4_used x55 hx55 x66 hx66 v83 hv83 y9_used hy9_used x123 hx123 x134 hx134 v151 hv151 hc89 hc100 hc157), N10⟩
    · refine Go.of (fun t k => XS.ifYes X7.here hx rfl (pc0 := 100) (pc' := 114) rfl (hb hby at_100) rfl (XT.ll_ne_t hc100) (by decide) (by decide) k) ?_
      show Go p e below Φ T7 (mkF m 114 #[.val (.long i0), .second, .val (.long i1), .second, .val (.long i2), .second, .val (.long i3), .second, .val (.long x5), .second, .val (.long x12), .second, .val (.long x20), .second, .val (.long x28), .second, .val (.ref b1), .val (.int x55), .val (.int x66), .val (.long v83), .second, .unset, .unset, .unset, .unset] [])
      refine Go.of (fun t k => XS.iconst X7.here hx rfl (hb hby at_114) k) ?_
      show Go p e below Φ T7 (mkF m 115 #[.val (.long i0), .second, .val (.long i1), .second, .val (.long i2), .second, .val (.long i3), .second, .val (.long x5), .second, .val (.long x12), .second, .val (.long x20), .second, .val (.long x28), .second, .val (.ref b1), .val (.int x55), .val (.int x66), .val (.long v83), .second, .unset, .unset, .unset, .unset] [(.int (0 : Int32))])
      rw [hΦ]
      refine Go.ret X7 hx Bd.notSynchronized Bd.returns rfl (Or.inl ⟨rfl, Or.inr (Or.inl rfl), _, rfl⟩) (hb hby at_115) (by decide) (by decide) ?_
      rw [(e7q)]
      exact ⟨congrArg (fun z => some (Value.int z)) (own_plain4 i0 i1 i2 i3 x5 hx5 x12 hx12 x20 hx20 x28 hx28 y3_used hy3_used y4_used hy4_used x55 hx55 x66 hx66 v83 hv83 hc89 hc100), N7⟩
  · refine Go.of (fun t k => XS.icmpYes X5.here hx rfl (pc0 := 89) (pc' := 114) rfl (hb hby at_89) rfl (XT.ii_ne_t hc89) (by decide) (by decide) k) ?_
    show Go p e below Φ T5 (mkF m 114 #[.val (.long i0), .second, .val (.long i1), .second, .val (.long i2), .second, .val (.long i3), .second, .val (.long x5), .second, .val (.long x12), .second, .val (.long x20), .second, .val (.long x28), .second, .val (.ref b1), .val (.int x55), .val (.int x66), .val (.long v83), .second, .unset, .unset, .unset, .unset] [])
    refine Go.of (fun t k => XS.iconst X5.here hx rfl (hb hby at_114) k) ?_
    show Go p e below Φ T5 (mkF m 115 #[.val (.long i0), .second, .val (.long i1), .second, .val (.long i2), .second, .val (.long i3), .second, .val (.long x5), .second, .val (.long x12), .second, .val (.long x20), .second, .val (.long x28), .second, .val (.ref b1), .val (.int x55), .val (.int x66), .val (.long v83), .second, .unset, .unset, .unset, .unset] [(.int (0 : Int32))])
    rw [hΦ]
    refine Go.ret X5 hx Bd.notSynchronized Bd.returns rfl (Or.inl ⟨rfl, Or.inr (Or.inl rfl), _, rfl⟩) (hb hby at_115) (by decide) (by decide) ?_
    rw [(e5q)]
    exact ⟨congrArg (fun z => some (Value.int z)) (own_plain5 i0 i1 i2 i3 x5 hx5 x12 hx12 x20 hx20 x28 hx28 y3_used hy3_used y4_used hy4_used x55 hx55 x66 hx66 v83 hv83 hc89), N5⟩
set_option maxRecDepth 65536 in
set_option maxHeartbeats 40000000 in
theorem comes_1 {Post : Tables → Env → Array Value → State → Outcome → State → Prop} (hpost : ∀ tb e args s v u, (limb_1_1.after args s (.returned v) u = true ∧ limb_1_2.after args s (.returned v) u = true ∧ True) → FrameEnd s (.returned v) u (Jvm.fieldLocs frame_1_writes args s ++ Jvm.arrayLocs frame_1_arrays args s ++ Jvm.staticLocs frame_1_statics s) 16 128 → Post tb e args s (.returned v) u) :
    ArmFor flags0 classFile x code maxLocals ret World_1 tables_1 room_1 Calls_1 rest_1 Pre_1 Post := by
  intro l hfl _ _ p e ha hc hk s m args below hf hA hF happ hP
  obtain ⟨hcalls, hrest, hpre⟩ := hP
  obtain ⟨-, -, -, hnamed, -, -, -, hat⟩ := (Spec.applies_iff hf).mp happ
  obtain ⟨hg, hn⟩ := and_e (Cond.before_iff.mp (show (Jvm.Cond.and given_1 narrow_1).before args s = true from hpre))
  obtain ⟨g1, g2⟩ := and_e hg
  obtain ⟨g3, g4⟩ := and_e g2
  obtain ⟨g5, g6⟩ := and_e g4
  obtain ⟨g7, g8⟩ := and_e g6
  obtain ⟨w0, w1, w2, w3, rfl⟩ : ∃ w0 w1 w2 w3 : Value, args = #[w0, w1, w2, w3] := by
    have hs : args.size = 4 := by simpa [Cond.value, given_1] using g1
    obtain ⟨L⟩ := args
    match L, hs with
    | [w0, w1, w2, w3], _ => exact ⟨w0, w1, w2, w3, rfl⟩
  have hw := fun d (hd : d ∈ tables_1) => atoms_spec (ws := Jvm.Cond.code x code maxLocals ret :: tables_1) hat d (List.mem_cons_of_mem _ hd)
  have hfit : Fit s := fun {y c} hc i hi => by
    obtain ⟨ha, rfl⟩ := Array.getElem?_eq_some_iff.mp hc
    have q := List.all_eq_true.mp ((Array.all_eq_true_iff_forall_mem.mp hF) _ (Array.getElem_mem ha)) i (List.mem_range.mpr hi)
    simpa [Array.getElem?_eq_getElem hi] using q
  obtain ⟨i0, ei0⟩ := isL_v g3
  obtain rfl : w0 = (.long i0) := Option.some.inj ei0
  obtain ⟨i1, ei1⟩ := isL_v g5
  obtain rfl : w1 = (.long i1) := Option.some.inj ei1
  obtain ⟨i2, ei2⟩ := isL_v g7
  obtain rfl : w2 = (.long i2) := Option.some.inj ei2
  obtain ⟨i3, ei3⟩ := isL_v g8
  obtain rfl : w3 = (.long i3) := Option.some.inj ei3
  obtain ⟨n, o, h1, h2, h3, _, L, rfl, ⟨rfl, N⟩, hq⟩ := rm0 l s _ hw tables_1 i0 i1 i2 i3  s.heap s.heap.size (Nat.le_refl _)  p e ha hc hk s m _ below hf ((Spec.applies_iff_loose hf).mp happ).1 ⟨rfl, State.Warmed39.refl s, rfl⟩ trivial
  refine ⟨n, _, h1, h2, h3, hpost _ _ _ _ _ _ ⟨Cond.after_iff.mpr rfl, Cond.after_iff.mpr (eq_i res_at (Term.int_eval (1)) rfl), trivial⟩ ⟨hq.1, hq.2.1, (hq.2.2.sift fun y hy => Or.inr (N y hy)).mono (by decide) (by decide)⟩⟩
theorem main_1_1 : Claimed_1_1 := comes_1 fun _ _ _ _ _ _ h hF => ⟨h.1, hF⟩
theorem main_1_2 : Claimed_1_2 := comes_1 fun _ _ _ _ _ _ h hF => ⟨h.2.1, hF⟩
end Jvm.Pilot.@@N@@
namespace Jvm.Pilot.@@N@@
open Jvm Jvm.ClassFile Sem Op Lib Jvm.Free Jvm.Stand Jvm.Pilot.@@N@@.Jvm.D
/-! MADE BY PROGRAM (witnessworld.py) out of the Statement's table words and the real class files: 9 classes; the members and pool entries that the words name. The judged class is class 1, her method 2. -/
namespace start1
open Jvm.ClassFile
def u (s : String) : CpInfo := .utf8 (stringToUtf16 s)
/-- a pool by its gaps: so many unusable entries, then the entry; so many at the end -/
def gap : Nat → List CpInfo → List CpInfo
  | 0, r => r
  | n + 1, r => .unusable :: gap n r
def poolList (es : List (Nat × CpInfo)) (last : Nat) : List CpInfo := es.foldr (fun e r => gap e.1 (e.2 :: r)) (gap last [])
def pool (es : List (Nat × CpInfo)) (last : Nat) : Array CpInfo := ⟨poolList es last⟩
def fileOf (pool : Array CpInfo) (this : Nat) (attrs : Array Attribute := #[]) (ms : Array MethodInfo := #[]) (fl : Nat := 33) (sup : Nat := 0) (ifs : Array Nat := #[]) (fds : Array FieldInfo := #[]) : ClassFile where
  minorVersion := 0
  majorVersion := 65
  constantPool := pool
  accessFlags := fl
  thisClass := this
  superClass := sup
  interfaces := ifs
  fields := fds
  methods := ms
  attributes := attrs
def plain (name : String) (sup : Option ClassId) : Class where
  name := name
  kind := .ordinary
  loader := none
  accessFlags := 33
  super := sup
  interfaces := #[]
  cf := none
  fields := #[]
  methods := #[]
  instanceTypes := #[]
  staticTypes := #[]
  resolved := #[]
  callSites := []
  init := .initialized
  statics := none
  mirror := none

def pool0 : Array CpInfo := pool [(5, u "<init>"), (0, u "()V"), (1, .class_ 10), (1, u "java/lang/Object")] 113

def k0c0 : Code := { maxStack := 0, maxLocals := 1, code := object_method_1_code, exceptionTable := #[], attributes := #[] }
def k0m0 : Method := { name := "<init>", desc := "()V", sig := { parameters := [], returnType := none }, accessFlags := 1, code := some k0c0 }
/-- java/lang/Object -/
def k0 : Class := { plain "java/lang/Object" none with
  accessFlags := 33
  interfaces := #[]
  cf := some (fileOf pool0 8 #[] #[{ accessFlags := 1, nameIndex := 5, descriptorIndex := 6, attributes := #[] }] 33 0 #[] #[])
  fields := #[]
  methods := #[k0m0]
  instanceTypes := #[]
  staticTypes := #[]
  resolved := Array.replicate 124 none
  statics := none }

def pool1 : Array CpInfo := pool [(2, .class_ 4), (1, u "java/lang/Object"), (0, u "<init>"), (0, u "()V"), (2, .long 9223372036854775808), (1, .long 9223372036854775807), (1, .class_ 14), (0, u "com/example/demarq/demarq/broker/MessageMemory"), (0, .methodref 13 16), (0, .nameAndType 5 17), (0, u "(J)V"), (0, .methodref 13 19), (0, .nameAndType 20 17), (0, u "add"), (0, .methodref 13 22), (0, .nameAndType 23 24), (0, u "reserve"), (0, u "(J)Z"), (0, .methodref 26 27), (0, .class_ 28), (0, .nameAndType 29 30), (0, u "com/example/demarq/demarq/broker/MessageMemoryReservePinLaw"), (0, u "fits"), (0, u "(JJJ)Z"), (0, .methodref 13 32), (0, .nameAndType 33 34), (0, u "used"), (0, u "()J"), (0, .methodref 13 36), (0, .nameAndType 37 34), (0, u "limit"), (3, u "law"), (0, u "(JJJJ)Z")] 2

def k1m0 : Method := { name := "<init>", desc := "()V", sig := { parameters := [], returnType := none }, accessFlags := 2, code := none }
def k1c1 : Code := { maxStack := 6, maxLocals := 8, code := method_2_code, exceptionTable := #[], attributes := #[] }
def k1m1 : Method := { name := "fits", desc := "(JJJ)Z", sig := { parameters := [.long, .long, .long], returnType := some .boolean }, accessFlags := 10, code := some k1c1 }
def k1c2 : Code := { maxStack := 6, maxLocals := 25, code := code, exceptionTable := #[], attributes := #[] }
def k1m2 : Method := { name := "law", desc := "(JJJJ)Z", sig := { parameters := [.long, .long, .long, .long], returnType := some .boolean }, accessFlags := 9, code := some k1c2 }
/-- com/example/demarq/demarq/broker/MessageMemoryReservePinLaw -/
def k1 : Class := { plain "com/example/demarq/demarq/broker/MessageMemoryReservePinLaw" (some 0) with
  accessFlags := 49
  interfaces := #[]
  cf := some (fileOf pool1 26 #[] #[{ accessFlags := 2, nameIndex := 5, descriptorIndex := 6, attributes := #[] }, { accessFlags := 10, nameIndex := 29, descriptorIndex := 30, attributes := #[] }, { accessFlags := 9, nameIndex := 41, descriptorIndex := 42, attributes := #[] }] 49 2 #[] #[])
  fields := #[]
  methods := #[k1m0, k1m1, k1m2]
  instanceTypes := #[]
  staticTypes := #[]
  resolved := Array.replicate 45 none
  statics := none }

def pool2 : Array CpInfo := pool [(1, .methodref 2 3), (0, .class_ 4), (0, .nameAndType 5 6), (0, u "java/lang/Object"), (0, u "<init>"), (0, u "()V"), (0, .fieldref 8 9), (0, .class_ 10), (0, .nameAndType 11 12), (0, u "com/example/demarq/demarq/broker/MessageMemory"), (0, u "limit"), (0, u "J"), (9, u "()J"), (6, u "(J)V"), (2, .fieldref 8 33), (0, .nameAndType 34 12), (0, u "used"), (0, u "PER_MESSAGE"), (1, u "HEAP_SHARE_NUMERATOR"), (0, u "HEAP_SHARE_DENOMINATOR"), (6, u "reserve"), (0, u "(J)Z"), (1, u "add")] 3

def k2c0 : Code := { maxStack := 3, maxLocals := 3, code := prog_8_method_1_code, exceptionTable := #[], attributes := #[] }
def k2m0 : Method := { name := "<init>", desc := "(J)V", sig := { parameters := [.long], returnType := none }, accessFlags := 0, code := some k2c0 }
def k2c1 : Code := { maxStack := 6, maxLocals := 3, code := prog_8_method_4_code, exceptionTable := #[], attributes := #[] }
def k2m1 : Method := { name := "reserve", desc := "(J)Z", sig := { parameters := [.long], returnType := some .boolean }, accessFlags := 0, code := some k2c1 }
def k2c2 : Code := { maxStack := 5, maxLocals := 3, code := prog_8_method_5_code, exceptionTable := #[], attributes := #[] }
def k2m2 : Method := { name := "add", desc := "(J)V", sig := { parameters := [.long], returnType := none }, accessFlags := 0, code := some k2c2 }
def k2c3 : Code := { maxStack := 2, maxLocals := 1, code := prog_8_method_7_code, exceptionTable := #[], attributes := #[] }
def k2m3 : Method := { name := "used", desc := "()J", sig := { parameters := [], returnType := some .long }, accessFlags := 0, code := some k2c3 }
def k2c4 : Code := { maxStack := 2, maxLocals := 1, code := prog_8_method_8_code, exceptionTable := #[], attributes := #[] }
def k2m4 : Method := { name := "limit", desc := "()J", sig := { parameters := [], returnType := some .long }, accessFlags := 0, code := some k2c4 }
/-- com/example/demarq/demarq/broker/MessageMemory -/
def k2 : Class := { plain "com/example/demarq/demarq/broker/MessageMemory" (some 0) with
  accessFlags := 48
  interfaces := #[]
  cf := some (fileOf pool2 8 #[] #[{ accessFlags := 0, nameIndex := 5, descriptorIndex := 29, attributes := #[] }, { accessFlags := 0, nameIndex := 45, descriptorIndex := 46, attributes := #[] }, { accessFlags := 0, nameIndex := 48, descriptorIndex := 29, attributes := #[] }, { accessFlags := 0, nameIndex := 34, descriptorIndex := 22, attributes := #[] }, { accessFlags := 0, nameIndex := 11, descriptorIndex := 22, attributes := #[] }] 48 2 #[] #[{ accessFlags := 24, nameIndex := 35, descriptorIndex := 12, attributes := #[] }, { accessFlags := 26, nameIndex := 37, descriptorIndex := 12, attributes := #[] }, { accessFlags := 26, nameIndex := 38, descriptorIndex := 12, attributes := #[] }, { accessFlags := 18, nameIndex := 11, descriptorIndex := 12, attributes := #[] }, { accessFlags := 2, nameIndex := 34, descriptorIndex := 12, attributes := #[] }])
  fields := #[{ name := "PER_MESSAGE", type := .long, accessFlags := 24, slot := 0, constantValue := 0 }, { name := "HEAP_SHARE_NUMERATOR", type := .long, accessFlags := 26, slot := 1, constantValue := 0 }, { name := "HEAP_SHARE_DENOMINATOR", type := .long, accessFlags := 26, slot := 2, constantValue := 0 }, { name := "limit", type := .long, accessFlags := 18, slot := 0, constantValue := 0 }, { name := "used", type := .long, accessFlags := 2, slot := 1, constantValue := 0 }]
  methods := #[k2m0, k2m1, k2m2, k2m3, k2m4]
  instanceTypes := #[.long, .long]
  staticTypes := #[.long, .long, .long]
  resolved := Array.replicate 52 none
  statics := none }

def pool3 : Array CpInfo := pool [(1, u "java/lang/Cloneable"), (0, .class_ 1), (0, u "java/lang/Object"), (0, .class_ 3)] 3

/-- java/lang/Cloneable -/
def k3 : Class := { plain "java/lang/Cloneable" (some 0) with
  accessFlags := 1537
  interfaces := #[]
  cf := some (fileOf pool3 2 #[] #[] 1537 4 #[] #[])
  fields := #[]
  methods := #[]
  instanceTypes := #[]
  staticTypes := #[]
  resolved := Array.replicate 8 none
  statics := none }

def pool4 : Array CpInfo := pool [(1, u "java/io/Serializable"), (0, .class_ 1), (0, u "java/lang/Object"), (0, .class_ 3)] 3

/-- java/io/Serializable -/
def k4 : Class := { plain "java/io/Serializable" (some 0) with
  accessFlags := 1537
  interfaces := #[]
  cf := some (fileOf pool4 2 #[] #[] 1537 4 #[] #[])
  fields := #[]
  methods := #[]
  instanceTypes := #[]
  staticTypes := #[]
  resolved := Array.replicate 8 none
  statics := none }

/-- the primitive byte -/
def k5 : Class := { plain "byte" none with kind := .primitive 'B', accessFlags := 0x411 }
/-- [B -/
def k6 : Class := { plain "[B" (some 0) with kind := .array 5 .byte, interfaces := #[3, 4], accessFlags := 1041 }

/-- the primitive int -/
def k7 : Class := { plain "int" none with kind := .primitive 'I', accessFlags := 0x411 }
/-- [I -/
def k8 : Class := { plain "[I" (some 0) with kind := .array 7 .int, interfaces := #[3, 4], accessFlags := 1041 }

def heap : Heap := #[]
def classes : Array Class := #[k0, k1, k2, k3, k4, k5, k6, k7, k8]
def interned : List (Array UInt16 × Addr) := []
def slotsUsed : Nat := 0
def theMethod : MethodId := ⟨1, 2⟩
def args0 : Array Value := #[.long 9, .long 3, .long 4, .long 5]
def aboutOver (below : List Frame) : State where
  vm := { classes := classes, interned := interned.toArray }
  heap := heap
  slotsUsed := slotsUsed
  threads := #[{ frames := .invoking theMethod args0 :: below }]
def below0 : List Frame := [.native { method := ⟨0, 0⟩, args := #[] }]
def about1 : State := aboutOver below0
def p0 : Program := .bare "" "" ""
def e0 : Env := launch0.env 0 0 0
theorem w_frames : about1.frames = Frame.invoking theMethod args0 :: below0 := rfl
set_option maxRecDepth 65536 in
theorem w_args : argsFit about1.vm theMethod args0 = true := by decide +kernel
set_option maxRecDepth 65536 in
theorem w_heap : heapFits about1 = true := by decide +kernel
set_option maxRecDepth 65536 in
theorem w_runnable : about1.curStatus? = some .runnable := by decide +kernel
set_option maxRecDepth 65536 in
theorem w_alone : about1.alone = true := by decide +kernel
set_option maxRecDepth 65536 in
theorem w_named : about1.methodNamed? x = some theMethod := by decide +kernel
set_option maxRecDepth 65536 in
theorem w_hears : about1.hears theMethod below0 = true := by decide +kernel
set_option maxRecDepth 65536 in
theorem w_ripe : about1.ripe theMethod args0 below0 = true := by decide +kernel
theorem w_running : about1.status = .running := rfl
set_option maxRecDepth 65536 in
theorem w_room : about1.hasRoom e0.platform room_1 = true :=
  launch0.hasRoom_least _ room_1 (by decide +kernel) (by decide +kernel) (by decide +kernel) (by decide +kernel) (by decide +kernel) (by decide +kernel)
theorem allAtoms_all (ts : List Jvm.Cond) (a : Array Jvm.Value) (st : Jvm.State) : (allAtoms ts).before a st = ts.all (fun c => c.before a st) := by
  induction ts with
  | nil => rfl
  | cons c t ih =>
    show (Jvm.Cond.and c (allAtoms t)).before a st = _
    rw [Jvm.Cond.before_and, ih, List.all_cons]
def words1 : List Jvm.Cond := Jvm.Cond.code x code maxLocals ret :: tables_1
/-- a 'code' word, met by the world's own term for the bytes: nothing is compared byte by byte -/
theorem code_word {y : MethodName} {bytes : ByteArray} {mx : Nat} {rt : Option FieldType} {a : Array Value} {s : State} {m : MethodId} {meth : Method} {c : Code} (h1 : s.methodNamed? y = some m) (h2 : s.vm.method? m = some meth) (h3 : meth.code = some c) (h4 : c.code = bytes)
    (h5 : (c.maxLocals == mx && c.exceptionTable.isEmpty && decide (c.maxStack ≤ mostOperands) && decide (meth.sig.returnType = rt) && !meth.locks && decide (parseMethodDescriptor y.desc = some meth.sig)) = true) : (Jvm.Cond.code y bytes mx rt).before a s = true := by
  simp only [Bool.and_eq_true, beq_iff_eq, Bool.not_eq_true', decide_eq_true_eq] at h5
  obtain ⟨⟨⟨⟨⟨g1, g2⟩, g3⟩, g4⟩, g5⟩, g6⟩ := h5
  simp [Cond.before, Cond.holds, Cond.value, h1, h2, h3, h4, g1, g2, g3, g4, g5, g6]
def isCode : Jvm.Cond → Bool
  | .code _ _ _ _ => true
  | _ => false
theorem all_split {L : List Jvm.Cond} {P : Jvm.Cond → Bool} (h1 : L.all (fun c => isCode c || P c) = true) (h2 : ∀ c ∈ L.filter isCode, P c = true) : L.all P = true := by
  refine List.all_eq_true.mpr fun c hc => ?_
  have h := List.all_eq_true.mp h1 c hc
  rcases Bool.eq_false_or_eq_true (isCode c) with hi | hi
  · exact h2 c (List.mem_filter.mpr ⟨hc, hi⟩)
  · simpa [hi] using h
set_option maxRecDepth 65536 in
theorem w_c0 : (Jvm.Cond.code x code maxLocals ret).before args0 about1 = true := code_word (m := ⟨1, 2⟩) (meth := k1m2) (c := k1c2) (by decide +kernel) rfl rfl rfl (by decide +kernel)
set_option maxRecDepth 65536 in
theorem w_c1 : (Jvm.Cond.code ({ cls := "com/example/demarq/demarq/broker/MessageMemory", name := "<init>", desc := "(J)V" } : Jvm.MethodName) prog_8_method_1_code (3 : Nat) (Option.none : Option Jvm.ClassFile.FieldType)).before args0 about1 = true := code_word (m := ⟨2, 0⟩) (meth := k2m0) (c := k2c0) (by decide +kernel) rfl rfl rfl (by decide +kernel)
set_option maxRecDepth 65536 in
theorem w_c2 : (Jvm.Cond.code ({ cls := "java/lang/Object", name := "<init>", desc := "()V" } : Jvm.MethodName) object_method_1_code (1 : Nat) (Option.none : Option Jvm.ClassFile.FieldType)).before args0 about1 = true := code_word (m := ⟨0, 0⟩) (meth := k0m0) (c := k0c0) (by decide +kernel) rfl rfl rfl (by decide +kernel)
set_option maxRecDepth 65536 in
theorem w_c3 : (Jvm.Cond.code ({ cls := "com/example/demarq/demarq/broker/MessageMemory", name := "add", desc := "(J)V" } : Jvm.MethodName) prog_8_method_5_code (3 : Nat) (Option.none : Option Jvm.ClassFile.FieldType)).before args0 about1 = true := code_word (m := ⟨2, 2⟩) (meth := k2m2) (c := k2c2) (by decide +kernel) rfl rfl rfl (by decide +kernel)
set_option maxRecDepth 65536 in
theorem w_c4 : (Jvm.Cond.code ({ cls := "com/example/demarq/demarq/broker/MessageMemory", name := "reserve", desc := "(J)Z" } : Jvm.MethodName) prog_8_method_4_code (3 : Nat) (Option.some Jvm.ClassFile.FieldType.boolean)).before args0 about1 = true := code_word (m := ⟨2, 1⟩) (meth := k2m1) (c := k2c1) (by decide +kernel) rfl rfl rfl (by decide +kernel)
set_option maxRecDepth 65536 in
theorem w_c5 : (Jvm.Cond.code ({ cls := "com/example/demarq/demarq/broker/MessageMemoryReservePinLaw", name := "fits", desc := "(JJJ)Z" } : Jvm.MethodName) method_2_code (8 : Nat) (Option.some Jvm.ClassFile.FieldType.boolean)).before args0 about1 = true := code_word (m := ⟨1, 1⟩) (meth := k1m1) (c := k1c1) (by decide +kernel) rfl rfl rfl (by decide +kernel)
set_option maxRecDepth 65536 in
theorem w_c6 : (Jvm.Cond.code ({ cls := "com/example/demarq/demarq/broker/MessageMemory", name := "used", desc := "()J" } : Jvm.MethodName) prog_8_method_7_code (1 : Nat) (Option.some Jvm.ClassFile.FieldType.long)).before args0 about1 = true := code_word (m := ⟨2, 3⟩) (meth := k2m3) (c := k2c3) (by decide +kernel) rfl rfl rfl (by decide +kernel)
set_option maxRecDepth 65536 in
theorem w_c7 : (Jvm.Cond.code ({ cls := "com/example/demarq/demarq/broker/MessageMemory", name := "limit", desc := "()J" } : Jvm.MethodName) prog_8_method_8_code (1 : Nat) (Option.some Jvm.ClassFile.FieldType.long)).before args0 about1 = true := code_word (m := ⟨2, 4⟩) (meth := k2m4) (c := k2c4) (by decide +kernel) rfl rfl rfl (by decide +kernel)
def codes1 : List Jvm.Cond := [Jvm.Cond.code x code maxLocals ret, Jvm.Cond.code ({ cls := "com/example/demarq/demarq/broker/MessageMemory", name := "<init>", desc := "(J)V" } : Jvm.MethodName) prog_8_method_1_code (3 : Nat) (Option.none : Option Jvm.ClassFile.FieldType), Jvm.Cond.code ({ cls := "java/lang/Object", name := "<init>", desc := "()V" } : Jvm.MethodName) object_method_1_code (1 : Nat) (Option.none : Option Jvm.ClassFile.FieldType), Jvm.Cond.code ({ cls := "com/example/demarq/demarq/broker/MessageMemory", name := "add", desc := "(J)V" } : Jvm.MethodName) prog_8_method_5_code (3 : Nat) (Option.none : Option Jvm.ClassFile.FieldType), Jvm.Cond.code ({ cls := "com/example/demarq/demarq/broker/MessageMemory", name := "reserve", desc := "(J)Z" } : Jvm.MethodName) prog_8_method_4_code (3 : Nat) (Option.some Jvm.ClassFile.FieldType.boolean), Jvm.Cond.code ({ cls := "com/example/demarq/demarq/broker/MessageMemoryReservePinLaw", name := "fits", desc := "(JJJ)Z" } : Jvm.MethodName) method_2_code (8 : Nat) (Option.some Jvm.ClassFile.FieldType.boolean), Jvm.Cond.code ({ cls := "com/example/demarq/demarq/broker/MessageMemory", name := "used", desc := "()J" } : Jvm.MethodName) prog_8_method_7_code (1 : Nat) (Option.some Jvm.ClassFile.FieldType.long), Jvm.Cond.code ({ cls := "com/example/demarq/demarq/broker/MessageMemory", name := "limit", desc := "()J" } : Jvm.MethodName) prog_8_method_8_code (1 : Nat) (Option.some Jvm.ClassFile.FieldType.long)]
set_option maxRecDepth 65536 in
theorem codes_eq : words1.filter isCode = codes1 := rfl
theorem w_codes : ∀ c ∈ words1.filter isCode, c.before args0 about1 = true := by
  rw [codes_eq]
  intro c hc
  simp only [codes1, List.mem_cons, List.not_mem_nil, or_false] at hc
  rcases hc with rfl | rfl | rfl | rfl | rfl | rfl | rfl | rfl
  · exact w_c0
  · exact w_c1
  · exact w_c2
  · exact w_c3
  · exact w_c4
  · exact w_c5
  · exact w_c6
  · exact w_c7
set_option maxRecDepth 65536 in
theorem w_t1 : (words1.take 24).all (fun c => isCode c || c.before args0 about1) = true := by decide +kernel
set_option maxRecDepth 65536 in
theorem w_t2 : (words1.drop 24).all (fun c => isCode c || c.before args0 about1) = true := by decide +kernel
theorem w_tables : (allAtoms (Jvm.Cond.code x code maxLocals ret :: tables_1)).before args0 about1 = true := by
  rw [allAtoms_all]
  show words1.all (fun c => c.before args0 about1) = true
  refine all_split ?_ w_codes
  rw [← List.take_append_drop 24 words1, List.all_append, w_t1, w_t2]
  rfl
set_option maxRecDepth 65536 in
theorem w_case : (Jvm.Cond.and given_1 narrow_1).before args0 about1 = true := by decide +kernel
theorem w_applies : (headSpec (Jvm.Cond.code x code maxLocals ret :: tables_1) room_1).applies x e0.platform about1 = true :=
  (Spec.applies_iff w_frames).mpr ⟨w_running, w_runnable, w_alone, w_named, w_hears, w_ripe, w_room, w_tables⟩
theorem atStart : AtStart classFile x code maxLocals ret World_1 tables_1 room_1 Calls_1 rest_1 Pre_1 launch0 p0 e0 about1 theMethod args0 below0 :=
  ⟨lists_1, trivial, launch0.admits_env _ _ _, launch0.least_env, fairChoices_fair.cas, fairChoices_fair.clock, w_frames, w_args, w_heap, w_applies, trivial, trivial, w_case⟩
end start1
theorem witness_1 : WitnessClaimed_1 := ⟨start1.p0, start1.e0, start1.about1, start1.theMethod, start1.args0, start1.below0, start1.atStart⟩
end Jvm.Pilot.@@N@@
