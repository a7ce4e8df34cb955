import JvmDerived
import JvmDerived.Pilot.@@N@@Statement
import JvmDerived.Pilot.@@N@@Code
set_option linter.unusedVariables false
set_option linter.unusedSimpArgs false
namespace Jvm.Pilot.@@N@@
open Jvm Jvm.ClassFile Sem Op Lib Jvm.Free Jvm.Stand Jvm.LawKit Jvm.RoadKit Bundle Jvm.Pilot.@@N@@.Jvm.D
section Own
variable {p : Program} {l : Launch} {e : Env} {R : Room} {s : State} {m : MethodId} {args : Array Value} {below : List Frame} {meth : Method} {c : Code} {T T' : State} {locs : List Loc} {cells slots : Nat} {Φ : State → Outcome → Prop} {g g' : JFrame}
/-- from (T, g) the run comes to an end that Φ takes -/
def Go (p : Program) (e : Env) (below : List Frame) (Φ : State → Outcome → Prop) (T : State) (g : JFrame) : Prop := ∃ t o, Steps p.tables e below (T.setTop g) t ∧ Φ t o
theorem Go.of (h : ∀ t, Steps p.tables e below (T'.setTop g') t → Steps p.tables e below (T.setTop g) t) (k : Go p e below Φ T' g') : Go p e below Φ T g := by
  obtain ⟨t, o, h1, h2⟩ := k
  exact ⟨t, o, h t h1, h2⟩
theorem Go.tr (h : Steps p.tables e below (T.setTop g) (T'.setTop g')) (k : Go p e below Φ T' g') : Go p e below Φ T g := by
  obtain ⟨t, o, h1, h2⟩ := k
  exact ⟨t, o, h.trans h1, h2⟩
/-- what a body owes at its end -/
def EndQ (s : State) (below : List Frame) (Q : Option Value → Heap → List Loc → Prop) (C S : Nat) (t : State) (o : Outcome) : Prop := t.status = .running ∧ Ended t below o ∧ ∃ v L, o = .returned v ∧ Q v t.heap L ∧ FrameEnd s o t L C S
theorem Go.ret (X : Stand p l e R s m args below meth c T locs cells slots) (hx : p.tables.exec = Jvm.exec) (hlocks : meth.locks = false) {pc : Nat} {Ls : Array Slot} {w : Value} {t : FieldType} {i : Instr} {rest : List Value} (hret : meth.sig.returnType = some t) (hn : narrow t w = w)
    (hi : (i = .ireturn ∧ (t = .int ∨ t = .boolean ∨ t = .byte ∨ t = .char ∨ t = .short) ∧ ∃ z, w = .int z) ∨ (i = .lreturn ∧ t = .long ∧ ∃ z, w = .long z) ∨ (i = .dreturn ∧ t = .double ∧ ∃ z, w = .double z) ∨ (i = .freturn ∧ t = .float ∧ ∃ z, w = .float z) ∨ (i = .areturn ∧ t.isReference = true ∧ w.isRef = true))
    (hd : decode c.code pc = .ok (i, 1)) {Q : Option Value → Heap → List Loc → Prop} {C S : Nat} (hC : cells ≤ C) (hS : slots ≤ S) (hQ : Q (some w) T.heap locs) : Go p e below (EndQ s below Q C S) T (mkF m pc Ls (w :: rest)) := by
  obtain ⟨fs, hr, hrun, hended, hW, hsame⟩ := X.leave (v := some w) (fun h => by rw [hret] at h; cases h) hlocks
  exact ⟨_, _, retOut X hx hret hn hi hd hr, hrun, hended, _, _, rfl, hQ, ⟨_, rfl⟩, hW, hsame.mono hC hS⟩
theorem Go.retV (X : Stand p l e R s m args below meth c T locs cells slots) (hx : p.tables.exec = Jvm.exec) (hlocks : meth.locks = false) {pc : Nat} {Ls : Array Slot} (hret : meth.sig.returnType = none)
    (hd : decode c.code pc = .ok (.return_, 1)) {Q : Option Value → Heap → List Loc → Prop} {C S : Nat} (hC : cells ≤ C) (hS : slots ≤ S) (hQ : Q none T.heap locs) : Go p e below (EndQ s below Q C S) T (mkF m pc Ls []) := by
  obtain ⟨fs, hr, hrun, hended, hW, hsame⟩ := X.leave (v := none) (fun _ => rfl) hlocks
  exact ⟨_, _, X.returnOut hx hret hd hr, hrun, hended, _, _, rfl, hQ, ⟨_, rfl⟩, hW, hsame.mono hC hS⟩
def own_ushr (x y : Int32) : Int32 := (x.toUInt32 >>> (y &&& 31).toUInt32).toInt32
def own_ushrL (x : Int64) (y : Int32) : Int64 := (x.toUInt64 >>> (y &&& 0x3f).toInt64.toUInt64).toInt64
theorem own_one {v : Int32} (h : v = 1) : narrow .boolean (.int v) = .int v := by rw [h]; rfl
theorem own_nar_ref {t : FieldType} {v : Value} (h : v.isRef = true) (ht : t.isReference = true := by rfl) : narrow t v = v := by cases v <;> simp [Value.isRef] at h <;> cases t <;> first | rfl | cases ht
theorem own_fits_ref {t : FieldType} {v : Value} (h : v.isRef = true) (ht : t.isReference = true := by rfl) : fits t v = true := by cases v <;> simp [Value.isRef] at h <;> cases t <;> first | rfl | cases ht
end Own
theorem own_fldI {t : Term} {args : Array Value} {s : State} {a : Addr} {C n d : String} {k : Int32} (ev : t.eval args s none [] s = some (.ref a)) (h : (Cond.eq (Term.field t C n d) (Term.int k)).value args s none s [] = some true) : Fld s s.heap a C n d (.int k) := by
  have q := Jvm.Free.NT.SwA.eq_int (Cond.before_iff.mpr h)
  rw [fld_at ev] at q
  exact Fld.start q
theorem own_d1_0 : decode prog_5_method_6_code 0 = .ok (.aload_n 0, 1) := by decide +kernel
theorem own_d1_1 : decode prog_5_method_6_code 1 = .ok (.getstatic 3, 3) := by decide +kernel
theorem own_d1_4 : decode prog_5_method_6_code 4 = .ok (.if_acmp .eq 14, 3) := by decide +kernel
theorem own_d1_7 : decode prog_5_method_6_code 7 = .ok (.aload_n 0, 1) := by decide +kernel
theorem own_d1_8 : decode prog_5_method_6_code 8 = .ok (.getstatic 37, 3) := by decide +kernel
theorem own_d1_11 : decode prog_5_method_6_code 11 = .ok (.if_acmp .eq 7, 3) := by decide +kernel
theorem own_d1_14 : decode prog_5_method_6_code 14 = .ok (.iconst 1, 1) := by decide +kernel
theorem own_d1_15 : decode prog_5_method_6_code 15 = .ok (.goto 4, 3) := by decide +kernel
theorem own_d1_18 : decode prog_5_method_6_code 18 = .ok (.iconst 0, 1) := by decide +kernel
theorem own_d1_19 : decode prog_5_method_6_code 19 = .ok (.ireturn, 1) := by decide +kernel
theorem own_pn0 : plainName "com/example/millrace/millrace/io/Command" = true := by first | (simp [plainName, overriddenIn]; done) | decide +kernel
theorem own_pn1 : plainName "com/example/millrace/millrace/io/CommandEscapesHeadersPinLaw" = true := by first | (simp [plainName, overriddenIn]; done) | decide +kernel
theorem own_pd0 : parseMethodDescriptor "()Z" = some ⟨[], some .boolean⟩ := by decide +kernel
def own_esc (a : Addr) (sc : Addr) (sd : Addr) : Int32 := (if a = sc then (0 : Int32) else (if a = sd then (0 : Int32) else (1 : Int32)))
theorem own_ef1 (m : MethodId) (a : Addr) : entryFrame m #[(.ref a)] 1 = mkF m 0 #[.val (.ref a)] [] := by first | (simp [entryFrame, mkF, argsToLocals, Value.category]; done) | rfl
def Q1 (Z : State) (a : Addr) (sc : Addr) (sd : Addr) (h0 : Heap) (n0 : Nat) (vr : Option Value) (hr : Heap) (Lr : List Loc) : Prop := vr = some (.int (own_esc a sc sd)) ∧ Fr n0 Lr ∧ hr = h0
set_option maxRecDepth 65536 in
set_option maxHeartbeats 40000000 in
theorem rm1 (l : Launch) (Z : State) (a0 : Array Value) (hw : ∀ d ∈ tables_1, d.before a0 Z = true) (ws : List Jvm.Cond) (a : Addr) (sc : Addr) (sd : Addr) (h0 : Heap) (n0 : Nat) (Z0 : n0 ≤ h0.size) (S_CONNECT : Sta Z h0 "com/example/millrace/millrace/io/Command" "CONNECT" "Lcom/example/millrace/millrace/io/Command;" (.ref sc)) (S_CONNECTED : Sta Z h0 "com/example/millrace/millrace/io/Command" "CONNECTED" "Lcom/example/millrace/millrace/io/Command;" (.ref sd)) :
    MetFree l (⟨"com/example/millrace/millrace/io/Command", "escapesHeaders", "()Z"⟩ : MethodName) (head1 (Jvm.Cond.code (⟨"com/example/millrace/millrace/io/Command", "escapesHeaders", "()Z"⟩ : MethodName) prog_5_method_6_code 1 (some .boolean) :: ws) ({ frames := 0, cells := 0, slots := 0, locals := 0 } : Room)) (fun aQ UQ => aQ = #[(.ref a)] ∧ Z.Warmed39 UQ.vm ∧ UQ.heap = h0) (fun _ _ _ _ _ => True) (fun _ UQ oQ VQ => ∃ vQ LQ, oQ = .returned vQ ∧ Q1 Z a sc sd h0 n0 vQ VQ.heap LQ ∧ FrameEnd UQ oQ VQ LQ ({ frames := 0, cells := 0, slots := 0, locals := 0 } : Room).cells ({ frames := 0, cells := 0, slots := 0, locals := 0 } : Room).slots) := by
  refine MetFree.of_bodySF (plainFor_of_name own_pn0) hisR ?_
  intro p e s m args below meth c s₁ Bd hml0 hP hK
  obtain ⟨rfl, hZ, hh⟩ := hP
  have hx := Bd.exec
  have hby := Bd.bytes
  have hml : c.maxLocals = 1 := hml0
  have hown : s.vm.findClass "com/example/millrace/millrace/io/Command" = some m.cls := findClass_of_methodNamed Bd.named
  have hnm := (name_of_methodNamed Bd.named Bd.method).1
  have X0 : Stand p l e ({ frames := 0, cells := 0, slots := 0, locals := 0 } : Room) s m #[(.ref a)] below meth c s₁ [] 0 0 := Stand.of_body Bd
  have e0 : s₁.heap = h0 := by rw [← hh, Bd.state]; rfl
  have N0 := Fr.nil n0
  show Go p e below (EndQ s below (Q1 Z a sc sd h0 n0) ({ frames := 0, cells := 0, slots := 0, locals := 0 } : Room).cells ({ frames := 0, cells := 0, slots := 0, locals := 0 } : Room).slots) s₁ (entryFrame m #[(.ref a)] 1)
  obtain ⟨Φ, hΦ⟩ : ∃ Φ, Φ = EndQ s below (Q1 Z a sc sd h0 n0) ({ frames := 0, cells := 0, slots := 0, locals := 0 } : Room).cells ({ frames := 0, cells := 0, slots := 0, locals := 0 } : Room).slots := ⟨_, rfl⟩
  rw [← hΦ, own_ef1]
  show Go p e below Φ s₁ (mkF m 0 #[.val (.ref a)] [])
  refine Go.of (fun t k => XS.aloadN X0.here hx rfl (hb hby own_d1_0) rfl rfl  k) ?_
  show Go p e below Φ s₁ (mkF m 1 #[.val (.ref a)] [(.ref a)])
  obtain ⟨T1, X1, e1, st1⟩ := getS2 X0 hx hZ hown (host := "") (Or.inl (hw _ (List.mem_of_getElem? (i := 41) rfl))) Via.refl e0 S_CONNECT (g := (mkF m 1 #[.val (.ref a)] [(.ref a)])) rfl (hb hby own_d1_1)
  refine Go.of st1 ?_
  show Go p e below Φ T1 (mkF m 4 #[.val (.ref a)] [(.ref sc), (.ref a)])
  by_cases hc4 : a = sc
  · refine Go.of (fun t k => Jvm.RoadKit.acmp (g := (mkF m 4 #[.val (.ref a)] [(.ref sc), (.ref a)])) X1 hx rfl rfl rfl (pc0 := 4) (pc' := 18) (same := true) rfl (hb hby own_d1_4) rfl (decide_eq_true (congrArg Value.ref hc4)) (by decide) (by decide) k) ?_
    show Go p e below Φ T1 (mkF m 18 #[.val (.ref a)] [])
    refine Go.of (fun t k => XS.iconst X1.here hx rfl (hb hby own_d1_18) k) ?_
    show Go p e below Φ T1 (mkF m 19 #[.val (.ref a)] [(.int (0 : Int32))])
    rw [hΦ]
    refine Go.ret X1 hx Bd.notSynchronized Bd.returns rfl (Or.inl ⟨rfl, Or.inr (Or.inl rfl), _, rfl⟩) (hb hby own_d1_19) (by decide) (by decide) ?_
    rw [e1]
    exact ⟨by rw [own_esc, if_pos hc4], N0, rfl⟩
  · refine Go.of (fun t k => Jvm.RoadKit.acmp (g := (mkF m 4 #[.val (.ref a)] [(.ref sc), (.ref a)])) X1 hx rfl rfl rfl (pc0 := 4) (pc' := 7) (same := false) rfl (hb hby own_d1_4) rfl (decide_eq_false fun q => hc4 (Value.ref.inj q)) (by decide) (by decide) k) ?_
    show Go p e below Φ T1 (mkF m 7 #[.val (.ref a)] [])
    refine Go.of (fun t k => XS.aloadN X1.here hx rfl (hb hby own_d1_7) rfl rfl  k) ?_
    show Go p e below Φ T1 (mkF m 8 #[.val (.ref a)] [(.ref a)])
    obtain ⟨T2, X2, e2, st2⟩ := getS2 X1 hx hZ hown (host := "") (Or.inl (hw _ (List.mem_of_getElem? (i := 42) rfl))) Via.refl e1 S_CONNECTED (g := (mkF m 8 #[.val (.ref a)] [(.ref a)])) rfl (hb hby own_d1_8)
    refine Go.of st2 ?_
    show Go p e below Φ T2 (mkF m 11 #[.val (.ref a)] [(.ref sd), (.ref a)])
    by_cases hc11 : a = sd
    · refine Go.of (fun t k => Jvm.RoadKit.acmp (g := (mkF m 11 #[.val (.ref a)] [(.ref sd), (.ref a)])) X2 hx rfl rfl rfl (pc0 := 11) (pc' := 18) (same := true) rfl (hb hby own_d1_11) rfl (decide_eq_true (congrArg Value.ref hc11)) (by decide) (by decide) k) ?_
      show Go p e below Φ T2 (mkF m 18 #[.val (.ref a)] [])
      refine Go.of (fun t k => XS.iconst X2.here hx rfl (hb hby own_d1_18) k) ?_
      show Go p e below Φ T2 (mkF m 19 #[.val (.ref a)] [(.int (0 : Int32))])
      rw [hΦ]
      refine Go.ret X2 hx Bd.notSynchronized Bd.returns rfl (Or.inl ⟨rfl, Or.inr (Or.inl rfl), _, rfl⟩) (hb hby own_d1_19) (by decide) (by decide) ?_
      rw [e2]
      exact ⟨by rw [own_esc, if_neg hc4, if_pos hc11], N0, rfl⟩
    · refine Go.of (fun t k => Jvm.RoadKit.acmp (g := (mkF m 11 #[.val (.ref a)] [(.ref sd), (.ref a)])) X2 hx rfl rfl rfl (pc0 := 11) (pc' := 14) (same := false) rfl (hb hby own_d1_11) rfl (decide_eq_false fun q => hc11 (Value.ref.inj q)) (by decide) (by decide) k) ?_
      show Go p e below Φ T2 (mkF m 14 #[.val (.ref a)] [])
      refine Go.of (fun t k => XS.iconst X2.here hx rfl (hb hby own_d1_14) k) ?_
      show Go p e below Φ T2 (mkF m 15 #[.val (.ref a)] [(.int (1 : Int32))])
      refine Go.of (fun t k => XS.goto X2.here hx rfl (pc0 := 15) (pc' := 19) rfl (hb hby own_d1_15) (by decide) (by decide) k) ?_
      show Go p e below Φ T2 (mkF m 19 #[.val (.ref a)] [(.int (1 : Int32))])
      rw [hΦ]
      refine Go.ret X2 hx Bd.notSynchronized Bd.returns rfl (Or.inl ⟨rfl, Or.inr (Or.inl rfl), _, rfl⟩) (hb hby own_d1_19) (by decide) (by decide) ?_
      rw [e2]
      exact ⟨by rw [own_esc, if_neg hc4, if_neg hc11], N0, rfl⟩
theorem own_k15 (i x : Int32) (hx : x = ((i &&& (2147483647 : Int32)) % (15 : Int32))) : x = (0 : Int32) ∨ x = (1 : Int32) ∨ x = (2 : Int32) ∨ x = (3 : Int32) ∨ x = (4 : Int32) ∨ x = (5 : Int32) ∨ x = (6 : Int32) ∨ x = (7 : Int32) ∨ x = (8 : Int32) ∨ x = (9 : Int32) ∨ x = (10 : Int32) ∨ x = (11 : Int32) ∨ x = (12 : Int32) ∨ x = (13 : Int32) ∨ x = (14 : Int32) := by
  have m := c_mask i 2147483647 31 (by decide) (by decide)
  have r := (c_irem (i &&& 2147483647) 15 15 (by decide)).1 (by rw [m]; omega)
  rw [← hx, m] at r
  have e : x = Int32.ofInt x.toInt := (Int32.ofInt_toInt x).symm
  have b : x.toInt = 0 ∨ x.toInt = 1 ∨ x.toInt = 2 ∨ x.toInt = 3 ∨ x.toInt = 4 ∨ x.toInt = 5 ∨ x.toInt = 6 ∨ x.toInt = 7 ∨ x.toInt = 8 ∨ x.toInt = 9 ∨ x.toInt = 10 ∨ x.toInt = 11 ∨ x.toInt = 12 ∨ x.toInt = 13 ∨ x.toInt = 14 := by omega
  rcases b with q | q | q | q | q | q | q | q | q | q | q | q | q | q | q <;> rw [q] at e <;> rw [e] <;> decide
theorem own_ef0 (m : MethodId) (i0 : Int32) : entryFrame m #[(.int i0)] maxLocals = mkF m 0 #[.val (.int i0), .unset, .unset, .unset] [] := by first | (simp [entryFrame, mkF, argsToLocals, Value.category, maxLocals]; done) | rfl
def Q0 (Z : State) (i0 : Int32) (s0 : Addr) (s1 : Addr) (s2 : Addr) (s3 : Addr) (s4 : Addr) (s5 : Addr) (s6 : Addr) (s7 : Addr) (s8 : Addr) (s9 : Addr) (s10 : Addr) (s11 : Addr) (s12 : Addr) (s13 : Addr) (s14 : Addr) (h0 : Heap) (n0 : Nat) (vr : Option Value) (hr : Heap) (Lr : List Loc) : Prop := vr = some (.int 1) ∧ Fr n0 Lr
set_option maxRecDepth 65536 in
set_option maxHeartbeats 40000000 in
theorem rm0 (l : Launch) (Z : State) (a0 : Array Value) (hw : ∀ d ∈ tables_1, d.before a0 Z = true) (ws : List Jvm.Cond) (i0 : Int32) (s0 : Addr) (s1 : Addr) (s2 : Addr) (s3 : Addr) (s4 : Addr) (s5 : Addr) (s6 : Addr) (s7 : Addr) (s8 : Addr) (s9 : Addr) (s10 : Addr) (s11 : Addr) (s12 : Addr) (s13 : Addr) (s14 : Addr) (h0 : Heap) (n0 : Nat) (Z0 : n0 ≤ h0.size) (O0 : Old Z n0 h0) (S_CONNECT : Sta Z Z.heap "com/example/millrace/millrace/io/Command" "CONNECT" "Lcom/example/millrace/millrace/io/Command;" (.ref s0)) (S_STOMP : Sta Z Z.heap "com/example/millrace/millrace/io/Command" "STOMP" "Lcom/example/millrace/millrace/io/Command;" (.ref s1)) (S_SEND : Sta Z Z.heap "com/example/millrace/millrace/io/Command" "SEND" "Lcom/example/millrace/millrace/io/Command;" (.ref s2)) (S_SUBSCRIBE : Sta Z Z.heap "com/example/millrace/millrace/io/Command" "SUBSCRIBE" "Lcom/example/millrace/millrace/io/Command;" (.ref s3)) (S_UNSUBSCRIBE : Sta Z Z.heap "com/example/millrace/millrace/io/Command" "UNSUBSCRIBE" "Lcom/example/millrace/millrace/io/Command;" (.ref s4)) (S_ACK : Sta Z Z.heap "com/example/millrace/millrace/io/Command" "ACK" "Lcom/example/millrace/millrace/io/Command;" (.ref s5)) (S_NACK : Sta Z Z.heap "com/example/millrace/millrace/io/Command" "NACK" "Lcom/example/millrace/millrace/io/Command;" (.ref s6)) (S_BEGIN : Sta Z Z.heap "com/example/millrace/millrace/io/Command" "BEGIN" "Lcom/example/millrace/millrace/io/Command;" (.ref s7)) (S_COMMIT : Sta Z Z.heap "com/example/millrace/millrace/io/Command" "COMMIT" "Lcom/example/millrace/millrace/io/Command;" (.ref s8)) (S_ABORT : Sta Z Z.heap "com/example/millrace/millrace/io/Command" "ABORT" "Lcom/example/millrace/millrace/io/Command;" (.ref s9)) (S_DISCONNECT : Sta Z Z.heap "com/example/millrace/millrace/io/Command" "DISCONNECT" "Lcom/example/millrace/millrace/io/Command;" (.ref s10)) (S_CONNECTED : Sta Z Z.heap "com/example/millrace/millrace/io/Command" "CONNECTED" "Lcom/example/millrace/millrace/io/Command;" (.ref s11)) (S_MESSAGE : Sta Z Z.heap "com/example/millrace/millrace/io/Command" "MESSAGE" "Lcom/example/millrace/millrace/io/Command;" (.ref s12)) (S_RECEIPT : Sta Z Z.heap "com/example/millrace/millrace/io/Command" "RECEIPT" "Lcom/example/millrace/millrace/io/Command;" (.ref s13)) (S_ERROR : Sta Z Z.heap "com/example/millrace/millrace/io/Command" "ERROR" "Lcom/example/millrace/millrace/io/Command;" (.ref s14)) (E_s0 : Exa Z Z.heap s0 "com/example/millrace/millrace/io/Command") (E_s1 : Exa Z Z.heap s1 "com/example/millrace/millrace/io/Command") (E_s2 : Exa Z Z.heap s2 "com/example/millrace/millrace/io/Command") (E_s3 : Exa Z Z.heap s3 "com/example/millrace/millrace/io/Command") (E_s4 : Exa Z Z.heap s4 "com/example/millrace/millrace/io/Command") (E_s5 : Exa Z Z.heap s5 "com/example/millrace/millrace/io/Command") (E_s6 : Exa Z Z.heap s6 "com/example/millrace/millrace/io/Command") (E_s7 : Exa Z Z.heap s7 "com/example/millrace/millrace/io/Command") (E_s8 : Exa Z Z.heap s8 "com/example/millrace/millrace/io/Command") (E_s9 : Exa Z Z.heap s9 "com/example/millrace/millrace/io/Command") (E_s10 : Exa Z Z.heap s10 "com/example/millrace/millrace/io/Command") (E_s11 : Exa Z Z.heap s11 "com/example/millrace/millrace/io/Command") (E_s12 : Exa Z Z.heap s12 "com/example/millrace/millrace/io/Command") (E_s13 : Exa Z Z.heap s13 "com/example/millrace/millrace/io/Command") (E_s14 : Exa Z Z.heap s14 "com/example/millrace/millrace/io/Command") (F_s0_ordinal : Fld Z Z.heap s0 "java/lang/Enum" "ordinal" "I" (.int (0 : Int32))) (F_s1_ordinal : Fld Z Z.heap s1 "java/lang/Enum" "ordinal" "I" (.int (1 : Int32))) (F_s2_ordinal : Fld Z Z.heap s2 "java/lang/Enum" "ordinal" "I" (.int (2 : Int32))) (F_s3_ordinal : Fld Z Z.heap s3 "java/lang/Enum" "ordinal" "I" (.int (3 : Int32))) (F_s4_ordinal : Fld Z Z.heap s4 "java/lang/Enum" "ordinal" "I" (.int (4 : Int32))) (F_s5_ordinal : Fld Z Z.heap s5 "java/lang/Enum" "ordinal" "I" (.int (5 : Int32))) (F_s6_ordinal : Fld Z Z.heap s6 "java/lang/Enum" "ordinal" "I" (.int (6 : Int32))) (F_s7_ordinal : Fld Z Z.heap s7 "java/lang/Enum" "ordinal" "I" (.int (7 : Int32))) (F_s8_ordinal : Fld Z Z.heap s8 "java/lang/Enum" "ordinal" "I" (.int (8 : Int32))) (F_s9_ordinal : Fld Z Z.heap s9 "java/lang/Enum" "ordinal" "I" (.int (9 : Int32))) (F_s10_ordinal : Fld Z Z.heap s10 "java/lang/Enum" "ordinal" "I" (.int (10 : Int32))) (F_s11_ordinal : Fld Z Z.heap s11 "java/lang/Enum" "ordinal" "I" (.int (11 : Int32))) (F_s12_ordinal : Fld Z Z.heap s12 "java/lang/Enum" "ordinal" "I" (.int (12 : Int32))) (F_s13_ordinal : Fld Z Z.heap s13 "java/lang/Enum" "ordinal" "I" (.int (13 : Int32))) (F_s14_ordinal : Fld Z Z.heap s14 "java/lang/Enum" "ordinal" "I" (.int (14 : Int32))) :
    MetFree l x (head1 (Jvm.Cond.code x code maxLocals ret :: ws) room_1) (fun aQ UQ => aQ = #[(.int i0)] ∧ Z.Warmed39 UQ.vm ∧ UQ.heap = h0) (fun _ _ _ _ _ => True) (fun _ UQ oQ VQ => ∃ vQ LQ, oQ = .returned vQ ∧ Q0 Z i0 s0 s1 s2 s3 s4 s5 s6 s7 s8 s9 s10 s11 s12 s13 s14 h0 n0 vQ VQ.heap LQ ∧ FrameEnd UQ oQ VQ LQ 16 128) := by
  refine MetFree.of_bodySF (plainFor_of_name own_pn1) hisR ?_
  intro p e s m args below meth c s₁ Bd hml0 hP hK
  obtain ⟨rfl, hZ, hh⟩ := hP
  have hx := Bd.exec
  have hby := Bd.bytes
  have hml : c.maxLocals = 4 := hml0
  have hown : s.vm.findClass "com/example/millrace/millrace/io/CommandEscapesHeadersPinLaw" = some m.cls := findClass_of_methodNamed Bd.named
  have hnm := (name_of_methodNamed Bd.named Bd.method).1
  have X0 : Stand p l e room_1 s m #[(.int i0)] below meth c s₁ [] 0 0 := Stand.of_body Bd
  have e0 : s₁.heap = h0 := by rw [← hh, Bd.state]; rfl
  have N0 := Fr.nil n0
  show Go p e below (EndQ s below (Q0 Z i0 s0 s1 s2 s3 s4 s5 s6 s7 s8 s9 s10 s11 s12 s13 s14 h0 n0) 16 128) s₁ (entryFrame m #[(.int i0)] maxLocals)
  obtain ⟨Φ, hΦ⟩ : ∃ Φ, Φ = EndQ s below (Q0 Z i0 s0 s1 s2 s3 s4 s5 s6 s7 s8 s9 s10 s11 s12 s13 s14 h0 n0) 16 128 := ⟨_, rfl⟩
  rw [← hΦ, own_ef0]
  show Go p e below Φ s₁ (mkF m 0 #[.val (.int i0), .unset, .unset, .unset] [])
  refine Go.of (fun t k => XS.bipush X0.here hx rfl (hb hby at_0) k) ?_
  show Go p e below Φ s₁ (mkF m 2 #[.val (.int i0), .unset, .unset, .unset] [(.int (15 : Int32))])
  obtain ⟨T1, h1, k1, X1, e1, E1, A1, Ov1, st1⟩ := newR X0 hx hZ hown (hw _ (List.mem_of_getElem? (i := 0) rfl)) (hw _ (List.mem_of_getElem? (i := 1) rfl)) e0 (g := (mkF m 2 #[.val (.int i0), .unset, .unset, .unset] [(.int (15 : Int32))])) rfl (hb hby at_2) rfl (by decide) (cap := 15) (by decide) (by decide) (by decide) (by decide)
  obtain ⟨b1, g1⟩ : ∃ z, z = h0.size := ⟨_, rfl⟩
  rw [← g1] at A1 st1
  have g_b1 : n0 ≤ b1 := Nat.le_trans Z0 (Nat.le_of_eq g1.symm)
  have Z1 := Nat.le_trans Z0 E1.1
  have O1 := O0.ext E1
  have V_b1 : Arv Z h1 b1 k1 (.object "com/example/millrace/millrace/io/Command") (15 : Int32) [.null, .null, .null, .null, .null, .null, .null, .null, .null, .null, .null, .null, .null, .null, .null] .null := (Arv.new A1 (by decide)).pad (pad_rep [] .null 15)
  refine Go.of st1 ?_
  show Go p e below Φ T1 (mkF m 5 #[.val (.int i0), .unset, .unset, .unset] [(.ref b1)])
  refine Go.of (fun t k => XS.dup X1.here hx rfl (hb hby at_5) rfl rfl k) ?_
  show Go p e below Φ T1 (mkF m 6 #[.val (.int i0), .unset, .unset, .unset] [(.ref b1), (.ref b1)])
  refine Go.of (fun t k => XS.iconst X1.here hx rfl (hb hby at_6) k) ?_
  show Go p e below Φ T1 (mkF m 7 #[.val (.int i0), .unset, .unset, .unset] [(.int (0 : Int32)), (.ref b1), (.ref b1)])
  obtain ⟨T2, X2, e2, st2⟩ := getS2 X1 hx hZ hown (host := "") (Or.inl (hw _ (List.mem_of_getElem? (i := 2) rfl))) Via.refl e1 (S_CONNECT.ext O1.2) (g := (mkF m 7 #[.val (.int i0), .unset, .unset, .unset] [(.int (0 : Int32)), (.ref b1), (.ref b1)])) rfl (hb hby at_7)
  refine Go.of st2 ?_
  show Go p e below Φ T2 (mkF m 10 #[.val (.int i0), .unset, .unset, .unset] [(.ref s0), (.int (0 : Int32)), (.ref b1), (.ref b1)])
  obtain ⟨cl10, Ar10, q10, S10, N10, H10, G10⟩ := id V_b1
  have hin10 : ¬ ((0 : Int32) < 0 ∨ cl10.slots.size ≤ ((0 : Int32)).toNatClampNeg) := inb_of S10 ⟨by decide, by decide⟩
  obtain ⟨T3, h3, X3, e3, W3, st3⟩ := stR X2 hx hZ e2 Ar10 (j := (0 : Int32)) hin10 rfl (Sto.ofV Ar10 q10 Ov1 (Ins.self (E_s0.ext O1.2))) (g := (mkF m 10 #[.val (.int i0), .unset, .unset, .unset] [(.ref s0), (.int (0 : Int32)), (.ref b1), (.ref b1)])) rfl rfl (hb hby at_10)
  have V_b1 : Arv Z h3 b1 k1 (.object "com/example/millrace/millrace/io/Command") (15 : Int32) [(.ref s0), .null, .null, .null, .null, .null, .null, .null, .null, .null, .null, .null, .null, .null, .null] .null := Arv.set Ar10 q10 S10 N10 H10 G10 rfl W3 0 rfl (Nat.le_of_ble_eq_true rfl)
  have N3 := Fr.snoc X3 N0 g_b1
  have Z3 := Nat.le_trans Z1 (Keep.of_wr W3).1
  have O3 := O1.wr W3 g_b1
  obtain ⟨lc3, X3, N3⟩ : ∃ lc, Stand p l e room_1 s m #[(.int i0)] below meth c T3 lc 1 15 ∧ Fr n0 lc := ⟨_, X3, N3⟩
  refine Go.of st3 ?_
  show Go p e below Φ T3 (mkF m 11 #[.val (.int i0), .unset, .unset, .unset] [(.ref b1)])
  refine Go.of (fun t k => XS.dup X3.here hx rfl (hb hby at_11) rfl rfl k) ?_
  show Go p e below Φ T3 (mkF m 12 #[.val (.int i0), .unset, .unset, .unset] [(.ref b1), (.ref b1)])
  refine Go.of (fun t k => XS.iconst X3.here hx rfl (hb hby at_12) k) ?_
  show Go p e below Φ T3 (mkF m 13 #[.val (.int i0), .unset, .unset, .unset] [(.int (1 : Int32)), (.ref b1), (.ref b1)])
  obtain ⟨T4, X4, e4, st4⟩ := getS2 X3 hx hZ hown (host := "") (Or.inl (hw _ (List.mem_of_getElem? (i := 6) rfl))) Via.refl e3 (S_STOMP.ext O3.2) (g := (mkF m 13 #[.val (.int i0), .unset, .unset, .unset] [(.int (1 : Int32)), (.ref b1), (.ref b1)])) rfl (hb hby at_13)
  refine Go.of st4 ?_
  show Go p e below Φ T4 (mkF m 16 #[.val (.int i0), .unset, .unset, .unset] [(.ref s1), (.int (1 : Int32)), (.ref b1), (.ref b1)])
  obtain ⟨cl16, Ar16, q16, S16, N16, H16, G16⟩ := id V_b1
  have hin16 : ¬ ((1 : Int32) < 0 ∨ cl16.slots.size ≤ ((1 : Int32)).toNatClampNeg) := inb_of S16 ⟨by decide, by decide⟩
  obtain ⟨T5, h5, X5, e5, W5, st5⟩ := stR X4 hx hZ e4 Ar16 (j := (1 : Int32)) hin16 rfl (Sto.ofV Ar16 q16 Ov1 (Ins.self (E_s1.ext O3.2))) (g := (mkF m 16 #[.val (.int i0), .unset, .unset, .unset] [(.ref s1), (.int (1 : Int32)), (.ref b1), (.ref b1)])) rfl rfl (hb hby at_16)
  have V_b1 : Arv Z h5 b1 k1 (.object "com/example/millrace/millrace/io/Command") (15 : Int32) [(.ref s0), (.ref s1), .null, .null, .null, .null, .null, .null, .null, .null, .null, .null, .null, .null, .null] .null := Arv.set Ar16 q16 S16 N16 H16 G16 rfl W5 1 rfl (Nat.le_of_ble_eq_true rfl)
  have N5 := Fr.snoc X5 N3 g_b1
  have Z5 := Nat.le_trans Z3 (Keep.of_wr W5).1
  have O5 := O3.wr W5 g_b1
  obtain ⟨lc5, X5, N5⟩ : ∃ lc, Stand p l e room_1 s m #[(.int i0)] below meth c T5 lc 1 15 ∧ Fr n0 lc := ⟨_, X5, N5⟩
  refine Go.of st5 ?_
  show Go p e below Φ T5 (mkF m 17 #[.val (.int i0), .unset, .unset, .unset] [(.ref b1)])
  refine Go.of (fun t k => XS.dup X5.here hx rfl (hb hby at_17) rfl rfl k) ?_
  show Go p e below Φ T5 (mkF m 18 #[.val (.int i0), .unset, .unset, .unset] [(.ref b1), (.ref b1)])
  refine Go.of (fun t k => XS.iconst X5.here hx rfl (hb hby at_18) k) ?_
  show Go p e below Φ T5 (mkF m 19 #[.val (.int i0), .unset, .unset, .unset] [(.int (2 : Int32)), (.ref b1), (.ref b1)])
  obtain ⟨T6, X6, e6, st6⟩ := getS2 X5 hx hZ hown (host := "") (Or.inl (hw _ (List.mem_of_getElem? (i := 8) rfl))) Via.refl e5 (S_SEND.ext O5.2) (g := (mkF m 19 #[.val (.int i0), .unset, .unset, .unset] [(.int (2 : Int32)), (.ref b1), (.ref b1)])) rfl (hb hby at_19)
  refine Go.of st6 ?_
  show Go p e below Φ T6 (mkF m 22 #[.val (.int i0), .unset, .unset, .unset] [(.ref s2), (.int (2 : Int32)), (.ref b1), (.ref b1)])
  obtain ⟨cl22, Ar22, q22, S22, N22, H22, G22⟩ := id V_b1
  have hin22 : ¬ ((2 : Int32) < 0 ∨ cl22.slots.size ≤ ((2 : Int32)).toNatClampNeg) := inb_of S22 ⟨by decide, by decide⟩
  obtain ⟨T7, h7, X7, e7, W7, st7⟩ := stR X6 hx hZ e6 Ar22 (j := (2 : Int32)) hin22 rfl (Sto.ofV Ar22 q22 Ov1 (Ins.self (E_s2.ext O5.2))) (g := (mkF m 22 #[.val (.int i0), .unset, .unset, .unset] [(.ref s2), (.int (2 : Int32)), (.ref b1), (.ref b1)])) rfl rfl (hb hby at_22)
  have V_b1 : Arv Z h7 b1 k1 (.object "com/example/millrace/millrace/io/Command") (15 : Int32) [(.ref s0), (.ref s1), (.ref s2), .null, .null, .null, .null, .null, .null, .null, .null, .null, .null, .null, .null] .null := Arv.set Ar22 q22 S22 N22 H22 G22 rfl W7 2 rfl (Nat.le_of_ble_eq_true rfl)
  have N7 := Fr.snoc X7 N5 g_b1
  have Z7 := Nat.le_trans Z5 (Keep.of_wr W7).1
  have O7 := O5.wr W7 g_b1
  obtain ⟨lc7, X7, N7⟩ : ∃ lc, Stand p l e room_1 s m #[(.int i0)] below meth c T7 lc 1 15 ∧ Fr n0 lc := ⟨_, X7, N7⟩
  refine Go.of st7 ?_
  show Go p e below Φ T7 (mkF m 23 #[.val (.int i0), .unset, .unset, .unset] [(.ref b1)])
  refine Go.of (fun t k => XS.dup X7.here hx rfl (hb hby at_23) rfl rfl k) ?_
  show Go p e below Φ T7 (mkF m 24 #[.val (.int i0), .unset, .unset, .unset] [(.ref b1), (.ref b1)])
  refine Go.of (fun t k => XS.iconst X7.here hx rfl (hb hby at_24) k) ?_
  show Go p e below Φ T7 (mkF m 25 #[.val (.int i0), .unset, .unset, .unset] [(.int (3 : Int32)), (.ref b1), (.ref b1)])
  obtain ⟨T8, X8, e8, st8⟩ := getS2 X7 hx hZ hown (host := "") (Or.inl (hw _ (List.mem_of_getElem? (i := 10) rfl))) Via.refl e7 (S_SUBSCRIBE.ext O7.2) (g := (mkF m 25 #[.val (.int i0), .unset, .unset, .unset] [(.int (3 : Int32)), (.ref b1), (.ref b1)])) rfl (hb hby at_25)
  refine Go.of st8 ?_
  show Go p e below Φ T8 (mkF m 28 #[.val (.int i0), .unset, .unset, .unset] [(.ref s3), (.int (3 : Int32)), (.ref b1), (.ref b1)])
  obtain ⟨cl28, Ar28, q28, S28, N28, H28, G28⟩ := id V_b1
  have hin28 : ¬ ((3 : Int32) < 0 ∨ cl28.slots.size ≤ ((3 : Int32)).toNatClampNeg) := inb_of S28 ⟨by decide, by decide⟩
  obtain ⟨T9, h9, X9, e9, W9, st9⟩ := stR X8 hx hZ e8 Ar28 (j := (3 : Int32)) hin28 rfl (Sto.ofV Ar28 q28 Ov1 (Ins.self (E_s3.ext O7.2))) (g := (mkF m 28 #[.val (.int i0), .unset, .unset, .unset] [(.ref s3), (.int (3 : Int32)), (.ref b1), (.ref b1)])) rfl rfl (hb hby at_28)
  have V_b1 : Arv Z h9 b1 k1 (.object "com/example/millrace/millrace/io/Command") (15 : Int32) [(.ref s0), (.ref s1), (.ref s2), (.ref s3), .null, .null, .null, .null, .null, .null, .null, .null, .null, .null, .null] .null := Arv.set Ar28 q28 S28 N28 H28 G28 rfl W9 3 rfl (Nat.le_of_ble_eq_true rfl)
  have N9 := Fr.snoc X9 N7 g_b1
  have Z9 := Nat.le_trans Z7 (Keep.of_wr W9).1
  have O9 := O7.wr W9 g_b1
  obtain ⟨lc9, X9, N9⟩ : ∃ lc, Stand p l e room_1 s m #[(.int i0)] below meth c T9 lc 1 15 ∧ Fr n0 lc := ⟨_, X9, N9⟩
  refine Go.of st9 ?_
  show Go p e below Φ T9 (mkF m 29 #[.val (.int i0), .unset, .unset, .unset] [(.ref b1)])
  refine Go.of (fun t k => XS.dup X9.here hx rfl (hb hby at_29) rfl rfl k) ?_
  show Go p e below Φ T9 (mkF m 30 #[.val (.int i0), .unset, .unset, .unset] [(.ref b1), (.ref b1)])
  refine Go.of (fun t k => XS.iconst X9.here hx rfl (hb hby at_30) k) ?_
  show Go p e below Φ T9 (mkF m 31 #[.val (.int i0), .unset, .unset, .unset] [(.int (4 : Int32)), (.ref b1), (.ref b1)])
  obtain ⟨T10, X10, e10, st10⟩ := getS2 X9 hx hZ hown (host := "") (Or.inl (hw _ (List.mem_of_getElem? (i := 12) rfl))) Via.refl e9 (S_UNSUBSCRIBE.ext O9.2) (g := (mkF m 31 #[.val (.int i0), .unset, .unset, .unset] [(.int (4 : Int32)), (.ref b1), (.ref b1)])) rfl (hb hby at_31)
  refine Go.of st10 ?_
  show Go p e below Φ T10 (mkF m 34 #[.val (.int i0), .unset, .unset, .unset] [(.ref s4), (.int (4 : Int32)), (.ref b1), (.ref b1)])
  obtain ⟨cl34, Ar34, q34, S34, N34, H34, G34⟩ := id V_b1
  have hin34 : ¬ ((4 : Int32) < 0 ∨ cl34.slots.size ≤ ((4 : Int32)).toNatClampNeg) := inb_of S34 ⟨by decide, by decide⟩
  obtain ⟨T11, h11, X11, e11, W11, st11⟩ := stR X10 hx hZ e10 Ar34 (j := (4 : Int32)) hin34 rfl (Sto.ofV Ar34 q34 Ov1 (Ins.self (E_s4.ext O9.2))) (g := (mkF m 34 #[.val (.int i0), .unset, .unset, .unset] [(.ref s4), (.int (4 : Int32)), (.ref b1), (.ref b1)])) rfl rfl (hb hby at_34)
  have V_b1 : Arv Z h11 b1 k1 (.object "com/example/millrace/millrace/io/Command") (15 : Int32) [(.ref s0), (.ref s1), (.ref s2), (.ref s3), (.ref s4), .null, .null, .null, .null, .null, .null, .null, .null, .null, .null] .null := Arv.set Ar34 q34 S34 N34 H34 G34 rfl W11 4 rfl (Nat.le_of_ble_eq_true rfl)
  have N11 := Fr.snoc X11 N9 g_b1
  have Z11 := Nat.le_trans Z9 (Keep.of_wr W11).1
  have O11 := O9.wr W11 g_b1
  obtain ⟨lc11, X11, N11⟩ : ∃ lc, Stand p l e room_1 s m #[(.int i0)] below meth c T11 lc 1 15 ∧ Fr n0 lc := ⟨_, X11, N11⟩
  refine Go.of st11 ?_
  show Go p e below Φ T11 (mkF m 35 #[.val (.int i0), .unset, .unset, .unset] [(.ref b1)])
  refine Go.of (fun t k => XS.dup X11.here hx rfl (hb hby at_35) rfl rfl k) ?_
  show Go p e below Φ T11 (mkF m 36 #[.val (.int i0), .unset, .unset, .unset] [(.ref b1), (.ref b1)])
  refine Go.of (fun t k => XS.iconst X11.here hx rfl (hb hby at_36) k) ?_
  show Go p e below Φ T11 (mkF m 37 #[.val (.int i0), .unset, .unset, .unset] [(.int (5 : Int32)), (.ref b1), (.ref b1)])
  obtain ⟨T12, X12, e12, st12⟩ := getS2 X11 hx hZ hown (host := "") (Or.inl (hw _ (List.mem_of_getElem? (i := 14) rfl))) Via.refl e11 (S_ACK.ext O11.2) (g := (mkF m 37 #[.val (.int i0), .unset, .unset, .unset] [(.int (5 : Int32)), (.ref b1), (.ref b1)])) rfl (hb hby at_37)
  refine Go.of st12 ?_
  show Go p e below Φ T12 (mkF m 40 #[.val (.int i0), .unset, .unset, .unset] [(.ref s5), (.int (5 : Int32)), (.ref b1), (.ref b1)])
  obtain ⟨cl40, Ar40, q40, S40, N40, H40, G40⟩ := id V_b1
  have hin40 : ¬ ((5 : Int32) < 0 ∨ cl40.slots.size ≤ ((5 : Int32)).toNatClampNeg) := inb_of S40 ⟨by decide, by decide⟩
  obtain ⟨T13, h13, X13, e13, W13, st13⟩ := stR X12 hx hZ e12 Ar40 (j := (5 : Int32)) hin40 rfl (Sto.ofV Ar40 q40 Ov1 (Ins.self (E_s5.ext O11.2))) (g := (mkF m 40 #[.val (.int i0), .unset, .unset, .unset] [(.ref s5), (.int (5 : Int32)), (.ref b1), (.ref b1)])) rfl rfl (hb hby at_40)
  have V_b1 : Arv Z h13 b1 k1 (.object "com/example/millrace/millrace/io/Command") (15 : Int32) [(.ref s0), (.ref s1), (.ref s2), (.ref s3), (.ref s4), (.ref s5), .null, .null, .null, .null, .null, .null, .null, .null, .null] .null := Arv.set Ar40 q40 S40 N40 H40 G40 rfl W13 5 rfl (Nat.le_of_ble_eq_true rfl)
  have N13 := Fr.snoc X13 N11 g_b1
  have Z13 := Nat.le_trans Z11 (Keep.of_wr W13).1
  have O13 := O11.wr W13 g_b1
  obtain ⟨lc13, X13, N13⟩ : ∃ lc, Stand p l e room_1 s m #[(.int i0)] below meth c T13 lc 1 15 ∧ Fr n0 lc := ⟨_, X13, N13⟩
  refine Go.of st13 ?_
  show Go p e below Φ T13 (mkF m 41 #[.val (.int i0), .unset, .unset, .unset] [(.ref b1)])
  refine Go.of (fun t k => XS.dup X13.here hx rfl (hb hby at_41) rfl rfl k) ?_
  show Go p e below Φ T13 (mkF m 42 #[.val (.int i0), .unset, .unset, .unset] [(.ref b1), (.ref b1)])
  refine Go.of (fun t k => XS.bipush X13.here hx rfl (hb hby at_42) k) ?_
  show Go p e below Φ T13 (mkF m 44 #[.val (.int i0), .unset, .unset, .unset] [(.int (6 : Int32)), (.ref b1), (.ref b1)])
  obtain ⟨T14, X14, e14, st14⟩ := getS2 X13 hx hZ hown (host := "") (Or.inl (hw _ (List.mem_of_getElem? (i := 16) rfl))) Via.refl e13 (S_NACK.ext O13.2) (g := (mkF m 44 #[.val (.int i0), .unset, .unset, .unset] [(.int (6 : Int32)), (.ref b1), (.ref b1)])) rfl (hb hby at_44)
  refine Go.of st14 ?_
  show Go p e below Φ T14 (mkF m 47 #[.val (.int i0), .unset, .unset, .unset] [(.ref s6), (.int (6 : Int32)), (.ref b1), (.ref b1)])
  obtain ⟨cl47, Ar47, q47, S47, N47, H47, G47⟩ := id V_b1
  have hin47 : ¬ ((6 : Int32) < 0 ∨ cl47.slots.size ≤ ((6 : Int32)).toNatClampNeg) := inb_of S47 ⟨by decide, by decide⟩
  obtain ⟨T15, h15, X15, e15, W15, st15⟩ := stR X14 hx hZ e14 Ar47 (j := (6 : Int32)) hin47 rfl (Sto.ofV Ar47 q47 Ov1 (Ins.self (E_s6.ext O13.2))) (g := (mkF m 47 #[.val (.int i0), .unset, .unset, .unset] [(.ref s6), (.int (6 : Int32)), (.ref b1), (.ref b1)])) rfl rfl (hb hby at_47)
  have V_b1 : Arv Z h15 b1 k1 (.object "com/example/millrace/millrace/io/Command") (15 : Int32) [(.ref s0), (.ref s1), (.ref s2), (.ref s3), (.ref s4), (.ref s5), (.ref s6), .null, .null, .null, .null, .null, .null, .null, .null] .null := Arv.set Ar47 q47 S47 N47 H47 G47 rfl W15 6 rfl (Nat.le_of_ble_eq_true rfl)
  have N15 := Fr.snoc X15 N13 g_b1
  have Z15 := Nat.le_trans Z13 (Keep.of_wr W15).1
  have O15 := O13.wr W15 g_b1
  obtain ⟨lc15, X15, N15⟩ : ∃ lc, Stand p l e room_1 s m #[(.int i0)] below meth c T15 lc 1 15 ∧ Fr n0 lc := ⟨_, X15, N15⟩
  refine Go.of st15 ?_
  show Go p e below Φ T15 (mkF m 48 #[.val (.int i0), .unset, .unset, .unset] [(.ref b1)])
  refine Go.of (fun t k => XS.dup X15.here hx rfl (hb hby at_48) rfl rfl k) ?_
  show Go p e below Φ T15 (mkF m 49 #[.val (.int i0), .unset, .unset, .unset] [(.ref b1), (.ref b1)])
  refine Go.of (fun t k => XS.bipush X15.here hx rfl (hb hby at_49) k) ?_
  show Go p e below Φ T15 (mkF m 51 #[.val (.int i0), .unset, .unset, .unset] [(.int (7 : Int32)), (.ref b1), (.ref b1)])
  obtain ⟨T16, X16, e16, st16⟩ := getS2 X15 hx hZ hown (host := "") (Or.inl (hw _ (List.mem_of_getElem? (i := 18) rfl))) Via.refl e15 (S_BEGIN.ext O15.2) (g := (mkF m 51 #[.val (.int i0), .unset, .unset, .unset] [(.int (7 : Int32)), (.ref b1), (.ref b1)])) rfl (hb hby at_51)
  refine Go.of st16 ?_
  show Go p e below Φ T16 (mkF m 54 #[.val (.int i0), .unset, .unset, .unset] [(.ref s7), (.int (7 : Int32)), (.ref b1), (.ref b1)])
  obtain ⟨cl54, Ar54, q54, S54, N54, H54, G54⟩ := id V_b1
  have hin54 : ¬ ((7 : Int32) < 0 ∨ cl54.slots.size ≤ ((7 : Int32)).toNatClampNeg) := inb_of S54 ⟨by decide, by decide⟩
  obtain ⟨T17, h17, X17, e17, W17, st17⟩ := stR X16 hx hZ e16 Ar54 (j := (7 : Int32)) hin54 rfl (Sto.ofV Ar54 q54 Ov1 (Ins.self (E_s7.ext O15.2))) (g := (mkF m 54 #[.val (.int i0), .unset, .unset, .unset] [(.ref s7), (.int (7 : Int32)), (.ref b1), (.ref b1)])) rfl rfl (hb hby at_54)
  have V_b1 : Arv Z h17 b1 k1 (.object "com/example/millrace/millrace/io/Command") (15 : Int32) [(.ref s0), (.ref s1), (.ref s2), (.ref s3), (.ref s4), (.ref s5), (.ref s6), (.ref s7), .null, .null, .null, .null, .null, .null, .null] .null := Arv.set Ar54 q54 S54 N54 H54 G54 rfl W17 7 rfl (Nat.le_of_ble_eq_true rfl)
  have N17 := Fr.snoc X17 N15 g_b1
  have Z17 := Nat.le_trans Z15 (Keep.of_wr W17).1
  have O17 := O15.wr W17 g_b1
  obtain ⟨lc17, X17, N17⟩ : ∃ lc, Stand p l e room_1 s m #[(.int i0)] below meth c T17 lc 1 15 ∧ Fr n0 lc := ⟨_, X17, N17⟩
  refine Go.of st17 ?_
  show Go p e below Φ T17 (mkF m 55 #[.val (.int i0), .unset, .unset, .unset] [(.ref b1)])
  refine Go.of (fun t k => XS.dup X17.here hx rfl (hb hby at_55) rfl rfl k) ?_
  show Go p e below Φ T17 (mkF m 56 #[.val (.int i0), .unset, .unset, .unset] [(.ref b1), (.ref b1)])
  refine Go.of (fun t k => XS.bipush X17.here hx rfl (hb hby at_56) k) ?_
  show Go p e below Φ T17 (mkF m 58 #[.val (.int i0), .unset, .unset, .unset] [(.int (8 : Int32)), (.ref b1), (.ref b1)])
  obtain ⟨T18, X18, e18, st18⟩ := getS2 X17 hx hZ hown (host := "") (Or.inl (hw _ (List.mem_of_getElem? (i := 20) rfl))) Via.refl e17 (S_COMMIT.ext O17.2) (g := (mkF m 58 #[.val (.int i0), .unset, .unset, .unset] [(.int (8 : Int32)), (.ref b1), (.ref b1)])) rfl (hb hby at_58)
  refine Go.of st18 ?_
  show Go p e below Φ T18 (mkF m 61 #[.val (.int i0), .unset, .unset, .unset] [(.ref s8), (.int (8 : Int32)), (.ref b1), (.ref b1)])
  obtain ⟨cl61, Ar61, q61, S61, N61, H61, G61⟩ := id V_b1
  have hin61 : ¬ ((8 : Int32) < 0 ∨ cl61.slots.size ≤ ((8 : Int32)).toNatClampNeg) := inb_of S61 ⟨by decide, by decide⟩
  obtain ⟨T19, h19, X19, e19, W19, st19⟩ := stR X18 hx hZ e18 Ar61 (j := (8 : Int32)) hin61 rfl (Sto.ofV Ar61 q61 Ov1 (Ins.self (E_s8.ext O17.2))) (g := (mkF m 61 #[.val (.int i0), .unset, .unset, .unset] [(.ref s8), (.int (8 : Int32)), (.ref b1), (.ref b1)])) rfl rfl (hb hby at_61)
  have V_b1 : Arv Z h19 b1 k1 (.object "com/example/millrace/millrace/io/Command") (15 : Int32) [(.ref s0), (.ref s1), (.ref s2), (.ref s3), (.ref s4), (.ref s5), (.ref s6), (.ref s7), (.ref s8), .null, .null, .null, .null, .null, .null] .null := Arv.set Ar61 q61 S61 N61 H61 G61 rfl W19 8 rfl (Nat.le_of_ble_eq_true rfl)
  have N19 := Fr.snoc X19 N17 g_b1
  have Z19 := Nat.le_trans Z17 (Keep.of_wr W19).1
  have O19 := O17.wr W19 g_b1
  obtain ⟨lc19, X19, N19⟩ : ∃ lc, Stand p l e room_1 s m #[(.int i0)] below meth c T19 lc 1 15 ∧ Fr n0 lc := ⟨_, X19, N19⟩
  refine Go.of st19 ?_
  show Go p e below Φ T19 (mkF m 62 #[.val (.int i0), .unset, .unset, .unset] [(.ref b1)])
  refine Go.of (fun t k => XS.dup X19.here hx rfl (hb hby at_62) rfl rfl k) ?_
  show Go p e below Φ T19 (mkF m 63 #[.val (.int i0), .unset, .unset, .unset] [(.ref b1), (.ref b1)])
  refine Go.of (fun t k => XS.bipush X19.here hx rfl (hb hby at_63) k) ?_
  show Go p e below Φ T19 (mkF m 65 #[.val (.int i0), .unset, .unset, .unset] [(.int (9 : Int32)), (.ref b1), (.ref b1)])
  obtain ⟨T20, X20, e20, st20⟩ := getS2 X19 hx hZ hown (host := "") (Or.inl (hw _ (List.mem_of_getElem? (i := 22) rfl))) Via.refl e19 (S_ABORT.ext O19.2) (g := (mkF m 65 #[.val (.int i0), .unset, .unset, .unset] [(.int (9 : Int32)), (.ref b1), (.ref b1)])) rfl (hb hby at_65)
  refine Go.of st20 ?_
  show Go p e below Φ T20 (mkF m 68 #[.val (.int i0), .unset, .unset, .unset] [(.ref s9), (.int (9 : Int32)), (.ref b1), (.ref b1)])
  obtain ⟨cl68, Ar68, q68, S68, N68, H68, G68⟩ := id V_b1
  have hin68 : ¬ ((9 : Int32) < 0 ∨ cl68.slots.size ≤ ((9 : Int32)).toNatClampNeg) := inb_of S68 ⟨by decide, by decide⟩
  obtain ⟨T21, h21, X21, e21, W21, st21⟩ := stR X20 hx hZ e20 Ar68 (j := (9 : Int32)) hin68 rfl (Sto.ofV Ar68 q68 Ov1 (Ins.self (E_s9.ext O19.2))) (g := (mkF m 68 #[.val (.int i0), .unset, .unset, .unset] [(.ref s9), (.int (9 : Int32)), (.ref b1), (.ref b1)])) rfl rfl (hb hby at_68)
  have V_b1 : Arv Z h21 b1 k1 (.object "com/example/millrace/millrace/io/Command") (15 : Int32) [(.ref s0), (.ref s1), (.ref s2), (.ref s3), (.ref s4), (.ref s5), (.ref s6), (.ref s7), (.ref s8), (.ref s9), .null, .null, .null, .null, .null] .null := Arv.set Ar68 q68 S68 N68 H68 G68 rfl W21 9 rfl (Nat.le_of_ble_eq_true rfl)
  have N21 := Fr.snoc X21 N19 g_b1
  have Z21 := Nat.le_trans Z19 (Keep.of_wr W21).1
  have O21 := O19.wr W21 g_b1
  obtain ⟨lc21, X21, N21⟩ : ∃ lc, Stand p l e room_1 s m #[(.int i0)] below meth c T21 lc 1 15 ∧ Fr n0 lc := ⟨_, X21, N21⟩
  refine Go.of st21 ?_
  show Go p e below Φ T21 (mkF m 69 #[.val (.int i0), .unset, .unset, .unset] [(.ref b1)])
  refine Go.of (fun t k => XS.dup X21.here hx rfl (hb hby at_69) rfl rfl k) ?_
  show Go p e below Φ T21 (mkF m 70 #[.val (.int i0), .unset, .unset, .unset] [(.ref b1), (.ref b1)])
  refine Go.of (fun t k => XS.bipush X21.here hx rfl (hb hby at_70) k) ?_
  show Go p e below Φ T21 (mkF m 72 #[.val (.int i0), .unset, .unset, .unset] [(.int (10 : Int32)), (.ref b1), (.ref b1)])
  obtain ⟨T22, X22, e22, st22⟩ := getS2 X21 hx hZ hown (host := "") (Or.inl (hw _ (List.mem_of_getElem? (i := 24) rfl))) Via.refl e21 (S_DISCONNECT.ext O21.2) (g := (mkF m 72 #[.val (.int i0), .unset, .unset, .unset] [(.int (10 : Int32)), (.ref b1), (.ref b1)])) rfl (hb hby at_72)
  refine Go.of st22 ?_
  show Go p e below Φ T22 (mkF m 75 #[.val (.int i0), .unset, .unset, .unset] [(.ref s10), (.int (10 : Int32)), (.ref b1), (.ref b1)])
  obtain ⟨cl75, Ar75, q75, S75, N75, H75, G75⟩ := id V_b1
  have hin75 : ¬ ((10 : Int32) < 0 ∨ cl75.slots.size ≤ ((10 : Int32)).toNatClampNeg) := inb_of S75 ⟨by decide, by decide⟩
  obtain ⟨T23, h23, X23, e23, W23, st23⟩ := stR X22 hx hZ e22 Ar75 (j := (10 : Int32)) hin75 rfl (Sto.ofV Ar75 q75 Ov1 (Ins.self (E_s10.ext O21.2))) (g := (mkF m 75 #[.val (.int i0), .unset, .unset, .unset] [(.ref s10), (.int (10 : Int32)), (.ref b1), (.ref b1)])) rfl rfl (hb hby at_75)
  have V_b1 : Arv Z h23 b1 k1 (.object "com/example/millrace/millrace/io/Command") (15 : Int32) [(.ref s0), (.ref s1), (.ref s2), (.ref s3), (.ref s4), (.ref s5), (.ref s6), (.ref s7), (.ref s8), (.ref s9), (.ref s10), .null, .null, .null, .null] .null := Arv.set Ar75 q75 S75 N75 H75 G75 rfl W23 10 rfl (Nat.le_of_ble_eq_true rfl)
  have N23 := Fr.snoc X23 N21 g_b1
  have Z23 := Nat.le_trans Z21 (Keep.of_wr W23).1
  have O23 := O21.wr W23 g_b1
  obtain ⟨lc23, X23, N23⟩ : ∃ lc, Stand p l e room_1 s m #[(.int i0)] below meth c T23 lc 1 15 ∧ Fr n0 lc := ⟨_, X23, N23⟩
  refine Go.of st23 ?_
  show Go p e below Φ T23 (mkF m 76 #[.val (.int i0), .unset, .unset, .unset] [(.ref b1)])
  refine Go.of (fun t k => XS.dup X23.here hx rfl (hb hby at_76) rfl rfl k) ?_
  show Go p e below Φ T23 (mkF m 77 #[.val (.int i0), .unset, .unset, .unset] [(.ref b1), (.ref b1)])
  refine Go.of (fun t k => XS.bipush X23.here hx rfl (hb hby at_77) k) ?_
  show Go p e below Φ T23 (mkF m 79 #[.val (.int i0), .unset, .unset, .unset] [(.int (11 : Int32)), (.ref b1), (.ref b1)])
  obtain ⟨T24, X24, e24, st24⟩ := getS2 X23 hx hZ hown (host := "") (Or.inl (hw _ (List.mem_of_getElem? (i := 26) rfl))) Via.refl e23 (S_CONNECTED.ext O23.2) (g := (mkF m 79 #[.val (.int i0), .unset, .unset, .unset] [(.int (11 : Int32)), (.ref b1), (.ref b1)])) rfl (hb hby at_79)
  refine Go.of st24 ?_
  show Go p e below Φ T24 (mkF m 82 #[.val (.int i0), .unset, .unset, .unset] [(.ref s11), (.int (11 : Int32)), (.ref b1), (.ref b1)])
  obtain ⟨cl82, Ar82, q82, S82, N82, H82, G82⟩ := id V_b1
  have hin82 : ¬ ((11 : Int32) < 0 ∨ cl82.slots.size ≤ ((11 : Int32)).toNatClampNeg) := inb_of S82 ⟨by decide, by decide⟩
  obtain ⟨T25, h25, X25, e25, W25, st25⟩ := stR X24 hx hZ e24 Ar82 (j := (11 : Int32)) hin82 rfl (Sto.ofV Ar82 q82 Ov1 (Ins.self (E_s11.ext O23.2))) (g := (mkF m 82 #[.val (.int i0), .unset, .unset, .unset] [(.ref s11), (.int (11 : Int32)), (.ref b1), (.ref b1)])) rfl rfl (hb hby at_82)
  have V_b1 : Arv Z h25 b1 k1 (.object "com/example/millrace/millrace/io/Command") (15 : Int32) [(.ref s0), (.ref s1), (.ref s2), (.ref s3), (.ref s4), (.ref s5), (.ref s6), (.ref s7), (.ref s8), (.ref s9), (.ref s10), (.ref s11), .null, .null, .null] .null := Arv.set Ar82 q82 S82 N82 H82 G82 rfl W25 11 rfl (Nat.le_of_ble_eq_true rfl)
  have N25 := Fr.snoc X25 N23 g_b1
  have Z25 := Nat.le_trans Z23 (Keep.of_wr W25).1
  have O25 := O23.wr W25 g_b1
  obtain ⟨lc25, X25, N25⟩ : ∃ lc, Stand p l e room_1 s m #[(.int i0)] below meth c T25 lc 1 15 ∧ Fr n0 lc := ⟨_, X25, N25⟩
  refine Go.of st25 ?_
  show Go p e below Φ T25 (mkF m 83 #[.val (.int i0), .unset, .unset, .unset] [(.ref b1)])
  refine Go.of (fun t k => XS.dup X25.here hx rfl (hb hby at_83) rfl rfl k) ?_
  show Go p e below Φ T25 (mkF m 84 #[.val (.int i0), .unset, .unset, .unset] [(.ref b1), (.ref b1)])
  refine Go.of (fun t k => XS.bipush X25.here hx rfl (hb hby at_84) k) ?_
  show Go p e below Φ T25 (mkF m 86 #[.val (.int i0), .unset, .unset, .unset] [(.int (12 : Int32)), (.ref b1), (.ref b1)])
  obtain ⟨T26, X26, e26, st26⟩ := getS2 X25 hx hZ hown (host := "") (Or.inl (hw _ (List.mem_of_getElem? (i := 28) rfl))) Via.refl e25 (S_MESSAGE.ext O25.2) (g := (mkF m 86 #[.val (.int i0), .unset, .unset, .unset] [(.int (12 : Int32)), (.ref b1), (.ref b1)])) rfl (hb hby at_86)
  refine Go.of st26 ?_
  show Go p e below Φ T26 (mkF m 89 #[.val (.int i0), .unset, .unset, .unset] [(.ref s12), (.int (12 : Int32)), (.ref b1), (.ref b1)])
  obtain ⟨cl89, Ar89, q89, S89, N89, H89, G89⟩ := id V_b1
  have hin89 : ¬ ((12 : Int32) < 0 ∨ cl89.slots.size ≤ ((12 : Int32)).toNatClampNeg) := inb_of S89 ⟨by decide, by decide⟩
  obtain ⟨T27, h27, X27, e27, W27, st27⟩ := stR X26 hx hZ e26 Ar89 (j := (12 : Int32)) hin89 rfl (Sto.ofV Ar89 q89 Ov1 (Ins.self (E_s12.ext O25.2))) (g := (mkF m 89 #[.val (.int i0), .unset, .unset, .unset] [(.ref s12), (.int (12 : Int32)), (.ref b1), (.ref b1)])) rfl rfl (hb hby at_89)
  have V_b1 : Arv Z h27 b1 k1 (.object "com/example/millrace/millrace/io/Command") (15 : Int32) [(.ref s0), (.ref s1), (.ref s2), (.ref s3), (.ref s4), (.ref s5), (.ref s6), (.ref s7), (.ref s8), (.ref s9), (.ref s10), (.ref s11), (.ref s12), .null, .null] .null := Arv.set Ar89 q89 S89 N89 H89 G89 rfl W27 12 rfl (Nat.le_of_ble_eq_true rfl)
  have N27 := Fr.snoc X27 N25 g_b1
  have Z27 := Nat.le_trans Z25 (Keep.of_wr W27).1
  have O27 := O25.wr W27 g_b1
  obtain ⟨lc27, X27, N27⟩ : ∃ lc, Stand p l e room_1 s m #[(.int i0)] below meth c T27 lc 1 15 ∧ Fr n0 lc := ⟨_, X27, N27⟩
  refine Go.of st27 ?_
  show Go p e below Φ T27 (mkF m 90 #[.val (.int i0), .unset, .unset, .unset] [(.ref b1)])
  refine Go.of (fun t k => XS.dup X27.here hx rfl (hb hby at_90) rfl rfl k) ?_
  show Go p e below Φ T27 (mkF m 91 #[.val (.int i0), .unset, .unset, .unset] [(.ref b1), (.ref b1)])
  refine Go.of (fun t k => XS.bipush X27.here hx rfl (hb hby at_91) k) ?_
  show Go p e below Φ T27 (mkF m 93 #[.val (.int i0), .unset, .unset, .unset] [(.int (13 : Int32)), (.ref b1), (.ref b1)])
  obtain ⟨T28, X28, e28, st28⟩ := getS2 X27 hx hZ hown (host := "") (Or.inl (hw _ (List.mem_of_getElem? (i := 30) rfl))) Via.refl e27 (S_RECEIPT.ext O27.2) (g := (mkF m 93 #[.val (.int i0), .unset, .unset, .unset] [(.int (13 : Int32)), (.ref b1), (.ref b1)])) rfl (hb hby at_93)
  refine Go.of st28 ?_
  show Go p e below Φ T28 (mkF m 96 #[.val (.int i0), .unset, .unset, .unset] [(.ref s13), (.int (13 : Int32)), (.ref b1), (.ref b1)])
  obtain ⟨cl96, Ar96, q96, S96, N96, H96, G96⟩ := id V_b1
  have hin96 : ¬ ((13 : Int32) < 0 ∨ cl96.slots.size ≤ ((13 : Int32)).toNatClampNeg) := inb_of S96 ⟨by decide, by decide⟩
  obtain ⟨T29, h29, X29, e29, W29, st29⟩ := stR X28 hx hZ e28 Ar96 (j := (13 : Int32)) hin96 rfl (Sto.ofV Ar96 q96 Ov1 (Ins.self (E_s13.ext O27.2))) (g := (mkF m 96 #[.val (.int i0), .unset, .unset, .unset] [(.ref s13), (.int (13 : Int32)), (.ref b1), (.ref b1)])) rfl rfl (hb hby at_96)
  have V_b1 : Arv Z h29 b1 k1 (.object "com/example/millrace/millrace/io/Command") (15 : Int32) [(.ref s0), (.ref s1), (.ref s2), (.ref s3), (.ref s4), (.ref s5), (.ref s6), (.ref s7), (.ref s8), (.ref s9), (.ref s10), (.ref s11), (.ref s12), (.ref s13), .null] .null := Arv.set Ar96 q96 S96 N96 H96 G96 rfl W29 13 rfl (Nat.le_of_ble_eq_true rfl)
  have N29 := Fr.snoc X29 N27 g_b1
  have Z29 := Nat.le_trans Z27 (Keep.of_wr W29).1
  have O29 := O27.wr W29 g_b1
  obtain ⟨lc29, X29, N29⟩ : ∃ lc, Stand p l e room_1 s m #[(.int i0)] below meth c T29 lc 1 15 ∧ Fr n0 lc := ⟨_, X29, N29⟩
  refine Go.of st29 ?_
  show Go p e below Φ T29 (mkF m 97 #[.val (.int i0), .unset, .unset, .unset] [(.ref b1)])
  refine Go.of (fun t k => XS.dup X29.here hx rfl (hb hby at_97) rfl rfl k) ?_
  show Go p e below Φ T29 (mkF m 98 #[.val (.int i0), .unset, .unset, .unset] [(.ref b1), (.ref b1)])
  refine Go.of (fun t k => XS.bipush X29.here hx rfl (hb hby at_98) k) ?_
  show Go p e below Φ T29 (mkF m 100 #[.val (.int i0), .unset, .unset, .unset] [(.int (14 : Int32)), (.ref b1), (.ref b1)])
  obtain ⟨T30, X30, e30, st30⟩ := getS2 X29 hx hZ hown (host := "") (Or.inl (hw _ (List.mem_of_getElem? (i := 32) rfl))) Via.refl e29 (S_ERROR.ext O29.2) (g := (mkF m 100 #[.val (.int i0), .unset, .unset, .unset] [(.int (14 : Int32)), (.ref b1), (.ref b1)])) rfl (hb hby at_100)
  refine Go.of st30 ?_
  show Go p e below Φ T30 (mkF m 103 #[.val (.int i0), .unset, .unset, .unset] [(.ref s14), (.int (14 : Int32)), (.ref b1), (.ref b1)])
  obtain ⟨cl103, Ar103, q103, S103, N103, H103, G103⟩ := id V_b1
  have hin103 : ¬ ((14 : Int32) < 0 ∨ cl103.slots.size ≤ ((14 : Int32)).toNatClampNeg) := inb_of S103 ⟨by decide, by decide⟩
  obtain ⟨T31, h31, X31, e31, W31, st31⟩ := stR X30 hx hZ e30 Ar103 (j := (14 : Int32)) hin103 rfl (Sto.ofV Ar103 q103 Ov1 (Ins.self (E_s14.ext O29.2))) (g := (mkF m 103 #[.val (.int i0), .unset, .unset, .unset] [(.ref s14), (.int (14 : Int32)), (.ref b1), (.ref b1)])) rfl rfl (hb hby at_103)
  have V_b1 : Arv Z h31 b1 k1 (.object "com/example/millrace/millrace/io/Command") (15 : Int32) [(.ref s0), (.ref s1), (.ref s2), (.ref s3), (.ref s4), (.ref s5), (.ref s6), (.ref s7), (.ref s8), (.ref s9), (.ref s10), (.ref s11), (.ref s12), (.ref s13), (.ref s14)] .null := Arv.set Ar103 q103 S103 N103 H103 G103 rfl W31 14 rfl (Nat.le_of_ble_eq_true rfl)
  have N31 := Fr.snoc X31 N29 g_b1
  have Z31 := Nat.le_trans Z29 (Keep.of_wr W31).1
  have O31 := O29.wr W31 g_b1
  obtain ⟨lc31, X31, N31⟩ : ∃ lc, Stand p l e room_1 s m #[(.int i0)] below meth c T31 lc 1 15 ∧ Fr n0 lc := ⟨_, X31, N31⟩
  refine Go.of st31 ?_
  show Go p e below Φ T31 (mkF m 104 #[.val (.int i0), .unset, .unset, .unset] [(.ref b1)])
  refine Go.of (fun t k => XS.astoreN X31.here hx rfl (hb hby at_104) rfl rfl (l' := #[.val (.int i0), .val (.ref b1), .unset, .unset]) rfl k) ?_
  show Go p e below Φ T31 (mkF m 105 #[.val (.int i0), .val (.ref b1), .unset, .unset] [])
  refine Go.of (fun t k => XS.bipush X31.here hx rfl (hb hby at_105) k) ?_
  show Go p e below Φ T31 (mkF m 107 #[.val (.int i0), .val (.ref b1), .unset, .unset] [(.int (15 : Int32))])
  obtain ⟨T32, h32, k32, X32, e32, E32, A32, st32⟩ := newP X31 hx hZ (hw _ (List.mem_of_getElem? (i := 34) rfl)) e31 (g := (mkF m 107 #[.val (.int i0), .val (.ref b1), .unset, .unset] [(.int (15 : Int32))])) rfl (hb hby at_107) rfl (by decide) (cap := 15) (by decide) (by decide) (by decide) (by decide)
  obtain ⟨b32, g32⟩ : ∃ z, z = h31.size := ⟨_, rfl⟩
  rw [← g32] at A32 st32
  have ne_b1_b32 : b1 ≠ b32 := Nat.ne_of_lt (Nat.lt_of_lt_of_le V_b1.lt (Nat.le_of_eq g32.symm))
  have g_b32 : n0 ≤ b32 := Nat.le_trans Z31 (Nat.le_of_eq g32.symm)
  have Z32 := Nat.le_trans Z31 E32.1
  have O32 := O31.ext E32
  have V_b1 := V_b1.ext E32
  have V_b32 : Arv Z h32 b32 k32 .boolean (15 : Int32) [(.int (0 : Int32)), (.int (0 : Int32)), (.int (0 : Int32)), (.int (0 : Int32)), (.int (0 : Int32)), (.int (0 : Int32)), (.int (0 : Int32)), (.int (0 : Int32)), (.int (0 : Int32)), (.int (0 : Int32)), (.int (0 : Int32)), (.int (0 : Int32)), (.int (0 : Int32)), (.int (0 : Int32)), (.int (0 : Int32))] (.int (0 : Int32)) := (Arv.new A32 (by decide)).pad (pad_rep [] (.int (0 : Int32)) 15)
  refine Go.of st32 ?_
  show Go p e below Φ T32 (mkF m 109 #[.val (.int i0), .val (.ref b1), .unset, .unset] [(.ref b32)])
  refine Go.of (fun t k => XS.dup X32.here hx rfl (hb hby at_109) rfl rfl k) ?_
  show Go p e below Φ T32 (mkF m 110 #[.val (.int i0), .val (.ref b1), .unset, .unset] [(.ref b32), (.ref b32)])
  refine Go.of (fun t k => XS.iconst X32.here hx rfl (hb hby at_110) k) ?_
  show Go p e below Φ T32 (mkF m 111 #[.val (.int i0), .val (.ref b1), .unset, .unset] [(.int (0 : Int32)), (.ref b32), (.ref b32)])
  refine Go.of (fun t k => XS.iconst X32.here hx rfl (hb hby at_111) k) ?_
  show Go p e below Φ T32 (mkF m 112 #[.val (.int i0), .val (.ref b1), .unset, .unset] [(.int (0 : Int32)), (.int (0 : Int32)), (.ref b32), (.ref b32)])
  obtain ⟨cl112, Ar112, q112, S112, N112, H112, G112⟩ := id V_b32
  have hin112 : ¬ ((0 : Int32) < 0 ∨ cl112.slots.size ≤ ((0 : Int32)).toNatClampNeg) := inb_of S112 ⟨by decide, by decide⟩
  obtain ⟨T33, h33, X33, e33, W33, st33⟩ := stZ X32 hx hZ e32 Ar112 (j := (0 : Int32)) hin112 (g := (mkF m 112 #[.val (.int i0), .val (.ref b1), .unset, .unset] [(.int (0 : Int32)), (.int (0 : Int32)), (.ref b32), (.ref b32)])) rfl rfl (hb hby at_112)
  have V_b32 : Arv Z h33 b32 k32 .boolean (15 : Int32) [(.int (nar .boolean (0 : Int32))), (.int (0 : Int32)), (.int (0 : Int32)), (.int (0 : Int32)), (.int (0 : Int32)), (.int (0 : Int32)), (.int (0 : Int32)), (.int (0 : Int32)), (.int (0 : Int32)), (.int (0 : Int32)), (.int (0 : Int32)), (.int (0 : Int32)), (.int (0 : Int32)), (.int (0 : Int32)), (.int (0 : Int32))] (.int (0 : Int32)) := Arv.set Ar112 q112 S112 N112 H112 G112 (fits_nar_bool _) W33 0 rfl (Nat.le_of_ble_eq_true rfl)
  have V_b1 := V_b1.other W33 ne_b1_b32
  have N33 := Fr.snoc X33 N31 g_b32
  have Z33 := Nat.le_trans Z32 (Keep.of_wr W33).1
  have O33 := O32.wr W33 g_b32
  obtain ⟨lc33, X33, N33⟩ : ∃ lc, Stand p l e room_1 s m #[(.int i0)] below meth c T33 lc 2 30 ∧ Fr n0 lc := ⟨_, X33, N33⟩
  refine Go.of st33 ?_
  show Go p e below Φ T33 (mkF m 113 #[.val (.int i0), .val (.ref b1), .unset, .unset] [(.ref b32)])
  refine Go.of (fun t k => XS.dup X33.here hx rfl (hb hby at_113) rfl rfl k) ?_
  show Go p e below Φ T33 (mkF m 114 #[.val (.int i0), .val (.ref b1), .unset, .unset] [(.ref b32), (.ref b32)])
  refine Go.of (fun t k => XS.iconst X33.here hx rfl (hb hby at_114) k) ?_
  show Go p e below Φ T33 (mkF m 115 #[.val (.int i0), .val (.ref b1), .unset, .unset] [(.int (1 : Int32)), (.ref b32), (.ref b32)])
  refine Go.of (fun t k => XS.iconst X33.here hx rfl (hb hby at_115) k) ?_
  show Go p e below Φ T33 (mkF m 116 #[.val (.int i0), .val (.ref b1), .unset, .unset] [(.int (1 : Int32)), (.int (1 : Int32)), (.ref b32), (.ref b32)])
  obtain ⟨cl116, Ar116, q116, S116, N116, H116, G116⟩ := id V_b32
  have hin116 : ¬ ((1 : Int32) < 0 ∨ cl116.slots.size ≤ ((1 : Int32)).toNatClampNeg) := inb_of S116 ⟨by decide, by decide⟩
  obtain ⟨T34, h34, X34, e34, W34, st34⟩ := stZ X33 hx hZ e33 Ar116 (j := (1 : Int32)) hin116 (g := (mkF m 116 #[.val (.int i0), .val (.ref b1), .unset, .unset] [(.int (1 : Int32)), (.int (1 : Int32)), (.ref b32), (.ref b32)])) rfl rfl (hb hby at_116)
  have V_b32 : Arv Z h34 b32 k32 .boolean (15 : Int32) [(.int (nar .boolean (0 : Int32))), (.int (nar .boolean (1 : Int32))), (.int (0 : Int32)), (.int (0 : Int32)), (.int (0 : Int32)), (.int (0 : Int32)), (.int (0 : Int32)), (.int (0 : Int32)), (.int (0 : Int32)), (.int (0 : Int32)), (.int (0 : Int32)), (.int (0 : Int32)), (.int (0 : Int32)), (.int (0 : Int32)), (.int (0 : Int32))] (.int (0 : Int32)) := Arv.set Ar116 q116 S116 N116 H116 G116 (fits_nar_bool _) W34 1 rfl (Nat.le_of_ble_eq_true rfl)
  have V_b1 := V_b1.other W34 ne_b1_b32
  have N34 := Fr.snoc X34 N33 g_b32
  have Z34 := Nat.le_trans Z33 (Keep.of_wr W34).1
  have O34 := O33.wr W34 g_b32
  obtain ⟨lc34, X34, N34⟩ : ∃ lc, Stand p l e room_1 s m #[(.int i0)] below meth c T34 lc 2 30 ∧ Fr n0 lc := ⟨_, X34, N34⟩
  refine Go.of st34 ?_
  show Go p e below Φ T34 (mkF m 117 #[.val (.int i0), .val (.ref b1), .unset, .unset] [(.ref b32)])
  refine Go.of (fun t k => XS.dup X34.here hx rfl (hb hby at_117) rfl rfl k) ?_
  show Go p e below Φ T34 (mkF m 118 #[.val (.int i0), .val (.ref b1), .unset, .unset] [(.ref b32), (.ref b32)])
  refine Go.of (fun t k => XS.iconst X34.here hx rfl (hb hby at_118) k) ?_
  show Go p e below Φ T34 (mkF m 119 #[.val (.int i0), .val (.ref b1), .unset, .unset] [(.int (2 : Int32)), (.ref b32), (.ref b32)])
  refine Go.of (fun t k => XS.iconst X34.here hx rfl (hb hby at_119) k) ?_
  show Go p e below Φ T34 (mkF m 120 #[.val (.int i0), .val (.ref b1), .unset, .unset] [(.int (1 : Int32)), (.int (2 : Int32)), (.ref b32), (.ref b32)])
  obtain ⟨cl120, Ar120, q120, S120, N120, H120, G120⟩ := id V_b32
  have hin120 : ¬ ((2 : Int32) < 0 ∨ cl120.slots.size ≤ ((2 : Int32)).toNatClampNeg) := inb_of S120 ⟨by decide, by decide⟩
  obtain ⟨T35, h35, X35, e35, W35, st35⟩ := stZ X34 hx hZ e34 Ar120 (j := (2 : Int32)) hin120 (g := (mkF m 120 #[.val (.int i0), .val (.ref b1), .unset, .unset] [(.int (1 : Int32)), (.int (2 : Int32)), (.ref b32), (.ref b32)])) rfl rfl (hb hby at_120)
  have V_b32 : Arv Z h35 b32 k32 .boolean (15 : Int32) [(.int (nar .boolean (0 : Int32))), (.int (nar .boolean (1 : Int32))), (.int (nar .boolean (1 : Int32))), (.int (0 : Int32)), (.int (0 : Int32)), (.int (0 : Int32)), (.int (0 : Int32)), (.int (0 : Int32)), (.int (0 : Int32)), (.int (0 : Int32)), (.int (0 : Int32)), (.int (0 : Int32)), (.int (0 : Int32)), (.int (0 : Int32)), (.int (0 : Int32))] (.int (0 : Int32)) := Arv.set Ar120 q120 S120 N120 H120 G120 (fits_nar_bool _) W35 2 rfl (Nat.le_of_ble_eq_true rfl)
  have V_b1 := V_b1.other W35 ne_b1_b32
  have N35 := Fr.snoc X35 N34 g_b32
  have Z35 := Nat.le_trans Z34 (Keep.of_wr W35).1
  have O35 := O34.wr W35 g_b32
  obtain ⟨lc35, X35, N35⟩ : ∃ lc, Stand p l e room_1 s m #[(.int i0)] below meth c T35 lc 2 30 ∧ Fr n0 lc := ⟨_, X35, N35⟩
  refine Go.of st35 ?_
  show Go p e below Φ T35 (mkF m 121 #[.val (.int i0), .val (.ref b1), .unset, .unset] [(.ref b32)])
  refine Go.of (fun t k => XS.dup X35.here hx rfl (hb hby at_121) rfl rfl k) ?_
  show Go p e below Φ T35 (mkF m 122 #[.val (.int i0), .val (.ref b1), .unset, .unset] [(.ref b32), (.ref b32)])
  refine Go.of (fun t k => XS.iconst X35.here hx rfl (hb hby at_122) k) ?_
  show Go p e below Φ T35 (mkF m 123 #[.val (.int i0), .val (.ref b1), .unset, .unset] [(.int (3 : Int32)), (.ref b32), (.ref b32)])
  refine Go.of (fun t k => XS.iconst X35.here hx rfl (hb hby at_123) k) ?_
  show Go p e below Φ T35 (mkF m 124 #[.val (.int i0), .val (.ref b1), .unset, .unset] [(.int (1 : Int32)), (.int (3 : Int32)), (.ref b32), (.ref b32)])
  obtain ⟨cl124, Ar124, q124, S124, N124, H124, G124⟩ := id V_b32
  have hin124 : ¬ ((3 : Int32) < 0 ∨ cl124.slots.size ≤ ((3 : Int32)).toNatClampNeg) := inb_of S124 ⟨by decide, by decide⟩
  obtain ⟨T36, h36, X36, e36, W36, st36⟩ := stZ X35 hx hZ e35 Ar124 (j := (3 : Int32)) hin124 (g := (mkF m 124 #[.val (.int i0), .val (.ref b1), .unset, .unset] [(.int (1 : Int32)), (.int (3 : Int32)), (.ref b32), (.ref b32)])) rfl rfl (hb hby at_124)
  have V_b32 : Arv Z h36 b32 k32 .boolean (15 : Int32) [(.int (nar .boolean (0 : Int32))), (.int (nar .boolean (1 : Int32))), (.int (nar .boolean (1 : Int32))), (.int (nar .boolean (1 : Int32))), (.int (0 : Int32)), (.int (0 : Int32)), (.int (0 : Int32)), (.int (0 : Int32)), (.int (0 : Int32)), (.int (0 : Int32)), (.int (0 : Int32)), (.int (0 : Int32)), (.int (0 : Int32)), (.int (0 : Int32)), (.int (0 : Int32))] (.int (0 : Int32)) := Arv.set Ar124 q124 S124 N124 H124 G124 (fits_nar_bool _) W36 3 rfl (Nat.le_of_ble_eq_true rfl)
  have V_b1 := V_b1.other W36 ne_b1_b32
  have N36 := Fr.snoc X36 N35 g_b32
  have Z36 := Nat.le_trans Z35 (Keep.of_wr W36).1
  have O36 := O35.wr W36 g_b32
  obtain ⟨lc36, X36, N36⟩ : ∃ lc, Stand p l e room_1 s m #[(.int i0)] below meth c T36 lc 2 30 ∧ Fr n0 lc := ⟨_, X36, N36⟩
  refine Go.of st36 ?_
  show Go p e below Φ T36 (mkF m 125 #[.val (.int i0), .val (.ref b1), .unset, .unset] [(.ref b32)])
  refine Go.of (fun t k => XS.dup X36.here hx rfl (hb hby at_125) rfl rfl k) ?_
  show Go p e below Φ T36 (mkF m 126 #[.val (.int i0), .val (.ref b1), .unset, .unset] [(.ref b32), (.ref b32)])
  refine Go.of (fun t k => XS.iconst X36.here hx rfl (hb hby at_126) k) ?_
  show Go p e below Φ T36 (mkF m 127 #[.val (.int i0), .val (.ref b1), .unset, .unset] [(.int (4 : Int32)), (.ref b32), (.ref b32)])
  refine Go.of (fun t k => XS.iconst X36.here hx rfl (hb hby at_127) k) ?_
  show Go p e below Φ T36 (mkF m 128 #[.val (.int i0), .val (.ref b1), .unset, .unset] [(.int (1 : Int32)), (.int (4 : Int32)), (.ref b32), (.ref b32)])
  obtain ⟨cl128, Ar128, q128, S128, N128, H128, G128⟩ := id V_b32
  have hin128 : ¬ ((4 : Int32) < 0 ∨ cl128.slots.size ≤ ((4 : Int32)).toNatClampNeg) := inb_of S128 ⟨by decide, by decide⟩
  obtain ⟨T37, h37, X37, e37, W37, st37⟩ := stZ X36 hx hZ e36 Ar128 (j := (4 : Int32)) hin128 (g := (mkF m 128 #[.val (.int i0), .val (.ref b1), .unset, .unset] [(.int (1 : Int32)), (.int (4 : Int32)), (.ref b32), (.ref b32)])) rfl rfl (hb hby at_128)
  have V_b32 : Arv Z h37 b32 k32 .boolean (15 : Int32) [(.int (nar .boolean (0 : Int32))), (.int (nar .boolean (1 : Int32))), (.int (nar .boolean (1 : Int32))), (.int (nar .boolean (1 : Int32))), (.int (nar .boolean (1 : Int32))), (.int (0 : Int32)), (.int (0 : Int32)), (.int (0 : Int32)), (.int (0 : Int32)), (.int (0 : Int32)), (.int (0 : Int32)), (.int (0 : Int32)), (.int (0 : Int32)), (.int (0 : Int32)), (.int (0 : Int32))] (.int (0 : Int32)) := Arv.set Ar128 q128 S128 N128 H128 G128 (fits_nar_bool _) W37 4 rfl (Nat.le_of_ble_eq_true rfl)
  have V_b1 := V_b1.other W37 ne_b1_b32
  have N37 := Fr.snoc X37 N36 g_b32
  have Z37 := Nat.le_trans Z36 (Keep.of_wr W37).1
  have O37 := O36.wr W37 g_b32
  obtain ⟨lc37, X37, N37⟩ : ∃ lc, Stand p l e room_1 s m #[(.int i0)] below meth c T37 lc 2 30 ∧ Fr n0 lc := ⟨_, X37, N37⟩
  refine Go.of st37 ?_
  show Go p e below Φ T37 (mkF m 129 #[.val (.int i0), .val (.ref b1), .unset, .unset] [(.ref b32)])
  refine Go.of (fun t k => XS.dup X37.here hx rfl (hb hby at_129) rfl rfl k) ?_
  show Go p e below Φ T37 (mkF m 130 #[.val (.int i0), .val (.ref b1), .unset, .unset] [(.ref b32), (.ref b32)])
  refine Go.of (fun t k => XS.iconst X37.here hx rfl (hb hby at_130) k) ?_
  show Go p e below Φ T37 (mkF m 131 #[.val (.int i0), .val (.ref b1), .unset, .unset] [(.int (5 : Int32)), (.ref b32), (.ref b32)])
  refine Go.of (fun t k => XS.iconst X37.here hx rfl (hb hby at_131) k) ?_
  show Go p e below Φ T37 (mkF m 132 #[.val (.int i0), .val (.ref b1), .unset, .unset] [(.int (1 : Int32)), (.int (5 : Int32)), (.ref b32), (.ref b32)])
  obtain ⟨cl132, Ar132, q132, S132, N132, H132, G132⟩ := id V_b32
  have hin132 : ¬ ((5 : Int32) < 0 ∨ cl132.slots.size ≤ ((5 : Int32)).toNatClampNeg) := inb_of S132 ⟨by decide, by decide⟩
  obtain ⟨T38, h38, X38, e38, W38, st38⟩ := stZ X37 hx hZ e37 Ar132 (j := (5 : Int32)) hin132 (g := (mkF m 132 #[.val (.int i0), .val (.ref b1), .unset, .unset] [(.int (1 : Int32)), (.int (5 : Int32)), (.ref b32), (.ref b32)])) rfl rfl (hb hby at_132)
  have V_b32 : Arv Z h38 b32 k32 .boolean (15 : Int32) [(.int (nar .boolean (0 : Int32))), (.int (nar .boolean (1 : Int32))), (.int (nar .boolean (1 : Int32))), (.int (nar .boolean (1 : Int32))), (.int (nar .boolean (1 : Int32))), (.int (nar .boolean (1 : Int32))), (.int (0 : Int32)), (.int (0 : Int32)), (.int (0 : Int32)), (.int (0 : Int32)), (.int (0 : Int32)), (.int (0 : Int32)), (.int (0 : Int32)), (.int (0 : Int32)), (.int (0 : Int32))] (.int (0 : Int32)) := Arv.set Ar132 q132 S132 N132 H132 G132 (fits_nar_bool _) W38 5 rfl (Nat.le_of_ble_eq_true rfl)
  have V_b1 := V_b1.other W38 ne_b1_b32
  have N38 := Fr.snoc X38 N37 g_b32
  have Z38 := Nat.le_trans Z37 (Keep.of_wr W38).1
  have O38 := O37.wr W38 g_b32
  obtain ⟨lc38, X38, N38⟩ : ∃ lc, Stand p l e room_1 s m #[(.int i0)] below meth c T38 lc 2 30 ∧ Fr n0 lc := ⟨_, X38, N38⟩
  refine Go.of st38 ?_
  show Go p e below Φ T38 (mkF m 133 #[.val (.int i0), .val (.ref b1), .unset, .unset] [(.ref b32)])
  refine Go.of (fun t k => XS.dup X38.here hx rfl (hb hby at_133) rfl rfl k) ?_
  show Go p e below Φ T38 (mkF m 134 #[.val (.int i0), .val (.ref b1), .unset, .unset] [(.ref b32), (.ref b32)])
  refine Go.of (fun t k => XS.bipush X38.here hx rfl (hb hby at_134) k) ?_
  show Go p e below Φ T38 (mkF m 136 #[.val (.int i0), .val (.ref b1), .unset, .unset] [(.int (6 : Int32)), (.ref b32), (.ref b32)])
  refine Go.of (fun t k => XS.iconst X38.here hx rfl (hb hby at_136) k) ?_
  show Go p e below Φ T38 (mkF m 137 #[.val (.int i0), .val (.ref b1), .unset, .unset] [(.int (1 : Int32)), (.int (6 : Int32)), (.ref b32), (.ref b32)])
  obtain ⟨cl137, Ar137, q137, S137, N137, H137, G137⟩ := id V_b32
  have hin137 : ¬ ((6 : Int32) < 0 ∨ cl137.slots.size ≤ ((6 : Int32)).toNatClampNeg) := inb_of S137 ⟨by decide, by decide⟩
  obtain ⟨T39, h39, X39, e39, W39, st39⟩ := stZ X38 hx hZ e38 Ar137 (j := (6 : Int32)) hin137 (g := (mkF m 137 #[.val (.int i0), .val (.ref b1), .unset, .unset] [(.int (1 : Int32)), (.int (6 : Int32)), (.ref b32), (.ref b32)])) rfl rfl (hb hby at_137)
  have V_b32 : Arv Z h39 b32 k32 .boolean (15 : Int32) [(.int (nar .boolean (0 : Int32))), (.int (nar .boolean (1 : Int32))), (.int (nar .boolean (1 : Int32))), (.int (nar .boolean (1 : Int32))), (.int (nar .boolean (1 : Int32))), (.int (nar .boolean (1 : Int32))), (.int (nar .boolean (1 : Int32))), (.int (0 : Int32)), (.int (0 : Int32)), (.int (0 : Int32)), (.int (0 : Int32)), (.int (0 : Int32)), (.int (0 : Int32)), (.int (0 : Int32)), (.int (0 : Int32))] (.int (0 : Int32)) := Arv.set Ar137 q137 S137 N137 H137 G137 (fits_nar_bool _) W39 6 rfl (Nat.le_of_ble_eq_true rfl)
  have V_b1 := V_b1.other W39 ne_b1_b32
  have N39 := Fr.snoc X39 N38 g_b32
  have Z39 := Nat.le_trans Z38 (Keep.of_wr W39).1
  have O39 := O38.wr W39 g_b32
  obtain ⟨lc39, X39, N39⟩ : ∃ lc, Stand p l e room_1 s m #[(.int i0)] below meth c T39 lc 2 30 ∧ Fr n0 lc := ⟨_, X39, N39⟩
  refine Go.of st39 ?_
  show Go p e below Φ T39 (mkF m 138 #[.val (.int i0), .val (.ref b1), .unset, .unset] [(.ref b32)])
  refine Go.of (fun t k => XS.dup X39.here hx rfl (hb hby at_138) rfl rfl k) ?_
  show Go p e below Φ T39 (mkF m 139 #[.val (.int i0), .val (.ref b1), .unset, .unset] [(.ref b32), (.ref b32)])
  refine Go.of (fun t k => XS.bipush X39.here hx rfl (hb hby at_139) k) ?_
  show Go p e below Φ T39 (mkF m 141 #[.val (.int i0), .val (.ref b1), .unset, .unset] [(.int (7 : Int32)), (.ref b32), (.ref b32)])
  refine Go.of (fun t k => XS.iconst X39.here hx rfl (hb hby at_141) k) ?_
  show Go p e below Φ T39 (mkF m 142 #[.val (.int i0), .val (.ref b1), .unset, .unset] [(.int (1 : Int32)), (.int (7 : Int32)), (.ref b32), (.ref b32)])
  obtain ⟨cl142, Ar142, q142, S142, N142, H142, G142⟩ := id V_b32
  have hin142 : ¬ ((7 : Int32) < 0 ∨ cl142.slots.size ≤ ((7 : Int32)).toNatClampNeg) := inb_of S142 ⟨by decide, by decide⟩
  obtain ⟨T40, h40, X40, e40, W40, st40⟩ := stZ X39 hx hZ e39 Ar142 (j := (7 : Int32)) hin142 (g := (mkF m 142 #[.val (.int i0), .val (.ref b1), .unset, .unset] [(.int (1 : Int32)), (.int (7 : Int32)), (.ref b32), (.ref b32)])) rfl rfl (hb hby at_142)
  have V_b32 : Arv Z h40 b32 k32 .boolean (15 : Int32) [(.int (nar .boolean (0 : Int32))), (.int (nar .boolean (1 : Int32))), (.int (nar .boolean (1 : Int32))), (.int (nar .boolean (1 : Int32))), (.int (nar .boolean (1 : Int32))), (.int (nar .boolean (1 : Int32))), (.int (nar .boolean (1 : Int32))), (.int (nar .boolean (1 : Int32))), (.int (0 : Int32)), (.int (0 : Int32)), (.int (0 : Int32)), (.int (0 : Int32)), (.int (0 : Int32)), (.int (0 : Int32)), (.int (0 : Int32))] (.int (0 : Int32)) := Arv.set Ar142 q142 S142 N142 H142 G142 (fits_nar_bool _) W40 7 rfl (Nat.le_of_ble_eq_true rfl)
  have V_b1 := V_b1.other W40 ne_b1_b32
  have N40 := Fr.snoc X40 N39 g_b32
  have Z40 := Nat.le_trans Z39 (Keep.of_wr W40).1
  have O40 := O39.wr W40 g_b32
  obtain ⟨lc40, X40, N40⟩ : ∃ lc, Stand p l e room_1 s m #[(.int i0)] below meth c T40 lc 2 30 ∧ Fr n0 lc := ⟨_, X40, N40⟩
  refine Go.of st40 ?_
  show Go p e below Φ T40 (mkF m 143 #[.val (.int i0), .val (.ref b1), .unset, .unset] [(.ref b32)])
  refine Go.of (fun t k => XS.dup X40.here hx rfl (hb hby at_143) rfl rfl k) ?_
  show Go p e below Φ T40 (mkF m 144 #[.val (.int i0), .val (.ref b1), .unset, .unset] [(.ref b32), (.ref b32)])
  refine Go.of (fun t k => XS.bipush X40.here hx rfl (hb hby at_144) k) ?_
  show Go p e below Φ T40 (mkF m 146 #[.val (.int i0), .val (.ref b1), .unset, .unset] [(.int (8 : Int32)), (.ref b32), (.ref b32)])
  refine Go.of (fun t k => XS.iconst X40.here hx rfl (hb hby at_146) k) ?_
  show Go p e below Φ T40 (mkF m 147 #[.val (.int i0), .val (.ref b1), .unset, .unset] [(.int (1 : Int32)), (.int (8 : Int32)), (.ref b32), (.ref b32)])
  obtain ⟨cl147, Ar147, q147, S147, N147, H147, G147⟩ := id V_b32
  have hin147 : ¬ ((8 : Int32) < 0 ∨ cl147.slots.size ≤ ((8 : Int32)).toNatClampNeg) := inb_of S147 ⟨by decide, by decide⟩
  obtain ⟨T41, h41, X41, e41, W41, st41⟩ := stZ X40 hx hZ e40 Ar147 (j := (8 : Int32)) hin147 (g := (mkF m 147 #[.val (.int i0), .val (.ref b1), .unset, .unset] [(.int (1 : Int32)), (.int (8 : Int32)), (.ref b32), (.ref b32)])) rfl rfl (hb hby at_147)
  have V_b32 : Arv Z h41 b32 k32 .boolean (15 : Int32) [(.int (nar .boolean (0 : Int32))), (.int (nar .boolean (1 : Int32))), (.int (nar .boolean (1 : Int32))), (.int (nar .boolean (1 : Int32))), (.int (nar .boolean (1 : Int32))), (.int (nar .boolean (1 : Int32))), (.int (nar .boolean (1 : Int32))), (.int (nar .boolean (1 : Int32))), (.int (nar .boolean (1 : Int32))), (.int (0 : Int32)), (.int (0 : Int32)), (.int (0 : Int32)), (.int (0 : Int32)), (.int (0 : Int32)), (.int (0 : Int32))] (.int (0 : Int32)) := Arv.set Ar147 q147 S147 N147 H147 G147 (fits_nar_bool _) W41 8 rfl (Nat.le_of_ble_eq_true rfl)
  have V_b1 := V_b1.other W41 ne_b1_b32
  have N41 := Fr.snoc X41 N40 g_b32
  have Z41 := Nat.le_trans Z40 (Keep.of_wr W41).1
  have O41 := O40.wr W41 g_b32
  obtain ⟨lc41, X41, N41⟩ : ∃ lc, Stand p l e room_1 s m #[(.int i0)] below meth c T41 lc 2 30 ∧ Fr n0 lc := ⟨_, X41, N41⟩
  refine Go.of st41 ?_
  show Go p e below Φ T41 (mkF m 148 #[.val (.int i0), .val (.ref b1), .unset, .unset] [(.ref b32)])
  refine Go.of (fun t k => XS.dup X41.here hx rfl (hb hby at_148) rfl rfl k) ?_
  show Go p e below Φ T41 (mkF m 149 #[.val (.int i0), .val (.ref b1), .unset, .unset] [(.ref b32), (.ref b32)])
  refine Go.of (fun t k => XS.bipush X41.here hx rfl (hb hby at_149) k) ?_
  show Go p e below Φ T41 (mkF m 151 #[.val (.int i0), .val (.ref b1), .unset, .unset] [(.int (9 : Int32)), (.ref b32), (.ref b32)])
  refine Go.of (fun t k => XS.iconst X41.here hx rfl (hb hby at_151) k) ?_
  show Go p e below Φ T41 (mkF m 152 #[.val (.int i0), .val (.ref b1), .unset, .unset] [(.int (1 : Int32)), (.int (9 : Int32)), (.ref b32), (.ref b32)])
  obtain ⟨cl152, Ar152, q152, S152, N152, H152, G152⟩ := id V_b32
  have hin152 : ¬ ((9 : Int32) < 0 ∨ cl152.slots.size ≤ ((9 : Int32)).toNatClampNeg) := inb_of S152 ⟨by decide, by decide⟩
  obtain ⟨T42, h42, X42, e42, W42, st42⟩ := stZ X41 hx hZ e41 Ar152 (j := (9 : Int32)) hin152 (g := (mkF m 152 #[.val (.int i0), .val (.ref b1), .unset, .unset] [(.int (1 : Int32)), (.int (9 : Int32)), (.ref b32), (.ref b32)])) rfl rfl (hb hby at_152)
  have V_b32 : Arv Z h42 b32 k32 .boolean (15 : Int32) [(.int (nar .boolean (0 : Int32))), (.int (nar .boolean (1 : Int32))), (.int (nar .boolean (1 : Int32))), (.int (nar .boolean (1 : Int32))), (.int (nar .boolean (1 : Int32))), (.int (nar .boolean (1 : Int32))), (.int (nar .boolean (1 : Int32))), (.int (nar .boolean (1 : Int32))), (.int (nar .boolean (1 : Int32))), (.int (nar .boolean (1 : Int32))), (.int (0 : Int32)), (.int (0 : Int32)), (.int (0 : Int32)), (.int (0 : Int32)), (.int (0 : Int32))] (.int (0 : Int32)) := Arv.set Ar152 q152 S152 N152 H152 G152 (fits_nar_bool _) W42 9 rfl (Nat.le_of_ble_eq_true rfl)
  have V_b1 := V_b1.other W42 ne_b1_b32
  have N42 := Fr.snoc X42 N41 g_b32
  have Z42 := Nat.le_trans Z41 (Keep.of_wr W42).1
  have O42 := O41.wr W42 g_b32
  obtain ⟨lc42, X42, N42⟩ : ∃ lc, Stand p l e room_1 s m #[(.int i0)] below meth c T42 lc 2 30 ∧ Fr n0 lc := ⟨_, X42, N42⟩
  refine Go.of st42 ?_
  show Go p e below Φ T42 (mkF m 153 #[.val (.int i0), .val (.ref b1), .unset, .unset] [(.ref b32)])
  refine Go.of (fun t k => XS.dup X42.here hx rfl (hb hby at_153) rfl rfl k) ?_
  show Go p e below Φ T42 (mkF m 154 #[.val (.int i0), .val (.ref b1), .unset, .unset] [(.ref b32), (.ref b32)])
  refine Go.of (fun t k => XS.bipush X42.here hx rfl (hb hby at_154) k) ?_
  show Go p e below Φ T42 (mkF m 156 #[.val (.int i0), .val (.ref b1), .unset, .unset] [(.int (10 : Int32)), (.ref b32), (.ref b32)])
  refine Go.of (fun t k => XS.iconst X42.here hx rfl (hb hby at_156) k) ?_
  show Go p e below Φ T42 (mkF m 157 #[.val (.int i0), .val (.ref b1), .unset, .unset] [(.int (1 : Int32)), (.int (10 : Int32)), (.ref b32), (.ref b32)])
  obtain ⟨cl157, Ar157, q157, S157, N157, H157, G157⟩ := id V_b32
  have hin157 : ¬ ((10 : Int32) < 0 ∨ cl157.slots.size ≤ ((10 : Int32)).toNatClampNeg) := inb_of S157 ⟨by decide, by decide⟩
  obtain ⟨T43, h43, X43, e43, W43, st43⟩ := stZ X42 hx hZ e42 Ar157 (j := (10 : Int32)) hin157 (g := (mkF m 157 #[.val (.int i0), .val (.ref b1), .unset, .unset] [(.int (1 : Int32)), (.int (10 : Int32)), (.ref b32), (.ref b32)])) rfl rfl (hb hby at_157)
  have V_b32 : Arv Z h43 b32 k32 .boolean (15 : Int32) [(.int (nar .boolean (0 : Int32))), (.int (nar .boolean (1 : Int32))), (.int (nar .boolean (1 : Int32))), (.int (nar .boolean (1 : Int32))), (.int (nar .boolean (1 : Int32))), (.int (nar .boolean (1 : Int32))), (.int (nar .boolean (1 : Int32))), (.int (nar .boolean (1 : Int32))), (.int (nar .boolean (1 : Int32))), (.int (nar .boolean (1 : Int32))), (.int (nar .boolean (1 : Int32))), (.int (0 : Int32)), (.int (0 : Int32)), (.int (0 : Int32)), (.int (0 : Int32))] (.int (0 : Int32)) := Arv.set Ar157 q157 S157 N157 H157 G157 (fits_nar_bool _) W43 10 rfl (Nat.le_of_ble_eq_true rfl)
  have V_b1 := V_b1.other W43 ne_b1_b32
  have N43 := Fr.snoc X43 N42 g_b32
  have Z43 := Nat.le_trans Z42 (Keep.of_wr W43).1
  have O43 := O42.wr W43 g_b32
  obtain ⟨lc43, X43, N43⟩ : ∃ lc, Stand p l e room_1 s m #[(.int i0)] below meth c T43 lc 2 30 ∧ Fr n0 lc := ⟨_, X43, N43⟩
  refine Go.of st43 ?_
  show Go p e below Φ T43 (mkF m 158 #[.val (.int i0), .val (.ref b1), .unset, .unset] [(.ref b32)])
  refine Go.of (fun t k => XS.dup X43.here hx rfl (hb hby at_158) rfl rfl k) ?_
  show Go p e below Φ T43 (mkF m 159 #[.val (.int i0), .val (.ref b1), .unset, .unset] [(.ref b32), (.ref b32)])
  refine Go.of (fun t k => XS.bipush X43.here hx rfl (hb hby at_159) k) ?_
  show Go p e below Φ T43 (mkF m 161 #[.val (.int i0), .val (.ref b1), .unset, .unset] [(.int (11 : Int32)), (.ref b32), (.ref b32)])
  refine Go.of (fun t k => XS.iconst X43.here hx rfl (hb hby at_161) k) ?_
  show Go p e below Φ T43 (mkF m 162 #[.val (.int i0), .val (.ref b1), .unset, .unset] [(.int (0 : Int32)), (.int (11 : Int32)), (.ref b32), (.ref b32)])
  obtain ⟨cl162, Ar162, q162, S162, N162, H162, G162⟩ := id V_b32
  have hin162 : ¬ ((11 : Int32) < 0 ∨ cl162.slots.size ≤ ((11 : Int32)).toNatClampNeg) := inb_of S162 ⟨by decide, by decide⟩
  obtain ⟨T44, h44, X44, e44, W44, st44⟩ := stZ X43 hx hZ e43 Ar162 (j := (11 : Int32)) hin162 (g := (mkF m 162 #[.val (.int i0), .val (.ref b1), .unset, .unset] [(.int (0 : Int32)), (.int (11 : Int32)), (.ref b32), (.ref b32)])) rfl rfl (hb hby at_162)
  have V_b32 : Arv Z h44 b32 k32 .boolean (15 : Int32) [(.int (nar .boolean (0 : Int32))), (.int (nar .boolean (1 : Int32))), (.int (nar .boolean (1 : Int32))), (.int (nar .boolean (1 : Int32))), (.int (nar .boolean (1 : Int32))), (.int (nar .boolean (1 : Int32))), (.int (nar .boolean (1 : Int32))), (.int (nar .boolean (1 : Int32))), (.int (nar .boolean (1 : Int32))), (.int (nar .boolean (1 : Int32))), (.int (nar .boolean (1 : Int32))), (.int (nar .boolean (0 : Int32))), (.int (0 : Int32)), (.int (0 : Int32)), (.int (0 : Int32))] (.int (0 : Int32)) := Arv.set Ar162 q162 S162 N162 H162 G162 (fits_nar_bool _) W44 11 rfl (Nat.le_of_ble_eq_true rfl)
  have V_b1 := V_b1.other W44 ne_b1_b32
  have N44 := Fr.snoc X44 N43 g_b32
  have Z44 := Nat.le_trans Z43 (Keep.of_wr W44).1
  have O44 := O43.wr W44 g_b32
  obtain ⟨lc44, X44, N44⟩ : ∃ lc, Stand p l e room_1 s m #[(.int i0)] below meth c T44 lc 2 30 ∧ Fr n0 lc := ⟨_, X44, N44⟩
  refine Go.of st44 ?_
  show Go p e below Φ T44 (mkF m 163 #[.val (.int i0), .val (.ref b1), .unset, .unset] [(.ref b32)])
  refine Go.of (fun t k => XS.dup X44.here hx rfl (hb hby at_163) rfl rfl k) ?_
  show Go p e below Φ T44 (mkF m 164 #[.val (.int i0), .val (.ref b1), .unset, .unset] [(.ref b32), (.ref b32)])
  refine Go.of (fun t k => XS.bipush X44.here hx rfl (hb hby at_164) k) ?_
  show Go p e below Φ T44 (mkF m 166 #[.val (.int i0), .val (.ref b1), .unset, .unset] [(.int (12 : Int32)), (.ref b32), (.ref b32)])
  refine Go.of (fun t k => XS.iconst X44.here hx rfl (hb hby at_166) k) ?_
  show Go p e below Φ T44 (mkF m 167 #[.val (.int i0), .val (.ref b1), .unset, .unset] [(.int (1 : Int32)), (.int (12 : Int32)), (.ref b32), (.ref b32)])
  obtain ⟨cl167, Ar167, q167, S167, N167, H167, G167⟩ := id V_b32
  have hin167 : ¬ ((12 : Int32) < 0 ∨ cl167.slots.size ≤ ((12 : Int32)).toNatClampNeg) := inb_of S167 ⟨by decide, by decide⟩
  obtain ⟨T45, h45, X45, e45, W45, st45⟩ := stZ X44 hx hZ e44 Ar167 (j := (12 : Int32)) hin167 (g := (mkF m 167 #[.val (.int i0), .val (.ref b1), .unset, .unset] [(.int (1 : Int32)), (.int (12 : Int32)), (.ref b32), (.ref b32)])) rfl rfl (hb hby at_167)
  have V_b32 : Arv Z h45 b32 k32 .boolean (15 : Int32) [(.int (nar .boolean (0 : Int32))), (.int (nar .boolean (1 : Int32))), (.int (nar .boolean (1 : Int32))), (.int (nar .boolean (1 : Int32))), (.int (nar .boolean (1 : Int32))), (.int (nar .boolean (1 : Int32))), (.int (nar .boolean (1 : Int32))), (.int (nar .boolean (1 : Int32))), (.int (nar .boolean (1 : Int32))), (.int (nar .boolean (1 : Int32))), (.int (nar .boolean (1 : Int32))), (.int (nar .boolean (0 : Int32))), (.int (nar .boolean (1 : Int32))), (.int (0 : Int32)), (.int (0 : Int32))] (.int (0 : Int32)) := Arv.set Ar167 q167 S167 N167 H167 G167 (fits_nar_bool _) W45 12 rfl (Nat.le_of_ble_eq_true rfl)
  have V_b1 := V_b1.other W45 ne_b1_b32
  have N45 := Fr.snoc X45 N44 g_b32
  have Z45 := Nat.le_trans Z44 (Keep.of_wr W45).1
  have O45 := O44.wr W45 g_b32
  obtain ⟨lc45, X45, N45⟩ : ∃ lc, Stand p l e room_1 s m #[(.int i0)] below meth c T45 lc 2 30 ∧ Fr n0 lc := ⟨_, X45, N45⟩
  refine Go.of st45 ?_
  show Go p e below Φ T45 (mkF m 168 #[.val (.int i0), .val (.ref b1), .unset, .unset] [(.ref b32)])
  refine Go.of (fun t k => XS.dup X45.here hx rfl (hb hby at_168) rfl rfl k) ?_
  show Go p e below Φ T45 (mkF m 169 #[.val (.int i0), .val (.ref b1), .unset, .unset] [(.ref b32), (.ref b32)])
  refine Go.of (fun t k => XS.bipush X45.here hx rfl (hb hby at_169) k) ?_
  show Go p e below Φ T45 (mkF m 171 #[.val (.int i0), .val (.ref b1), .unset, .unset] [(.int (13 : Int32)), (.ref b32), (.ref b32)])
  refine Go.of (fun t k => XS.iconst X45.here hx rfl (hb hby at_171) k) ?_
  show Go p e below Φ T45 (mkF m 172 #[.val (.int i0), .val (.ref b1), .unset, .unset] [(.int (1 : Int32)), (.int (13 : Int32)), (.ref b32), (.ref b32)])
  obtain ⟨cl172, Ar172, q172, S172, N172, H172, G172⟩ := id V_b32
  have hin172 : ¬ ((13 : Int32) < 0 ∨ cl172.slots.size ≤ ((13 : Int32)).toNatClampNeg) := inb_of S172 ⟨by decide, by decide⟩
  obtain ⟨T46, h46, X46, e46, W46, st46⟩ := stZ X45 hx hZ e45 Ar172 (j := (13 : Int32)) hin172 (g := (mkF m 172 #[.val (.int i0), .val (.ref b1), .unset, .unset] [(.int (1 : Int32)), (.int (13 : Int32)), (.ref b32), (.ref b32)])) rfl rfl (hb hby at_172)
  have V_b32 : Arv Z h46 b32 k32 .boolean (15 : Int32) [(.int (nar .boolean (0 : Int32))), (.int (nar .boolean (1 : Int32))), (.int (nar .boolean (1 : Int32))), (.int (nar .boolean (1 : Int32))), (.int (nar .boolean (1 : Int32))), (.int (nar .boolean (1 : Int32))), (.int (nar .boolean (1 : Int32))), (.int (nar .boolean (1 : Int32))), (.int (nar .boolean (1 : Int32))), (.int (nar .boolean (1 : Int32))), (.int (nar .boolean (1 : Int32))), (.int (nar .boolean (0 : Int32))), (.int (nar .boolean (1 : Int32))), (.int (nar .boolean (1 : Int32))), (.int (0 : Int32))] (.int (0 : Int32)) := Arv.set Ar172 q172 S172 N172 H172 G172 (fits_nar_bool _) W46 13 rfl (Nat.le_of_ble_eq_true rfl)
  have V_b1 := V_b1.other W46 ne_b1_b32
  have N46 := Fr.snoc X46 N45 g_b32
  have Z46 := Nat.le_trans Z45 (Keep.of_wr W46).1
  have O46 := O45.wr W46 g_b32
  obtain ⟨lc46, X46, N46⟩ : ∃ lc, Stand p l e room_1 s m #[(.int i0)] below meth c T46 lc 2 30 ∧ Fr n0 lc := ⟨_, X46, N46⟩
  refine Go.of st46 ?_
  show Go p e below Φ T46 (mkF m 173 #[.val (.int i0), .val (.ref b1), .unset, .unset] [(.ref b32)])
  refine Go.of (fun t k => XS.dup X46.here hx rfl (hb hby at_173) rfl rfl k) ?_
  show Go p e below Φ T46 (mkF m 174 #[.val (.int i0), .val (.ref b1), .unset, .unset] [(.ref b32), (.ref b32)])
  refine Go.of (fun t k => XS.bipush X46.here hx rfl (hb hby at_174) k) ?_
  show Go p e below Φ T46 (mkF m 176 #[.val (.int i0), .val (.ref b1), .unset, .unset] [(.int (14 : Int32)), (.ref b32), (.ref b32)])
  refine Go.of (fun t k => XS.iconst X46.here hx rfl (hb hby at_176) k) ?_
  show Go p e below Φ T46 (mkF m 177 #[.val (.int i0), .val (.ref b1), .unset, .unset] [(.int (1 : Int32)), (.int (14 : Int32)), (.ref b32), (.ref b32)])
  obtain ⟨cl177, Ar177, q177, S177, N177, H177, G177⟩ := id V_b32
  have hin177 : ¬ ((14 : Int32) < 0 ∨ cl177.slots.size ≤ ((14 : Int32)).toNatClampNeg) := inb_of S177 ⟨by decide, by decide⟩
  obtain ⟨T47, h47, X47, e47, W47, st47⟩ := stZ X46 hx hZ e46 Ar177 (j := (14 : Int32)) hin177 (g := (mkF m 177 #[.val (.int i0), .val (.ref b1), .unset, .unset] [(.int (1 : Int32)), (.int (14 : Int32)), (.ref b32), (.ref b32)])) rfl rfl (hb hby at_177)
  have V_b32 : Arv Z h47 b32 k32 .boolean (15 : Int32) [(.int (nar .boolean (0 : Int32))), (.int (nar .boolean (1 : Int32))), (.int (nar .boolean (1 : Int32))), (.int (nar .boolean (1 : Int32))), (.int (nar .boolean (1 : Int32))), (.int (nar .boolean (1 : Int32))), (.int (nar .boolean (1 : Int32))), (.int (nar .boolean (1 : Int32))), (.int (nar .boolean (1 : Int32))), (.int (nar .boolean (1 : Int32))), (.int (nar .boolean (1 : Int32))), (.int (nar .boolean (0 : Int32))), (.int (nar .boolean (1 : Int32))), (.int (nar .boolean (1 : Int32))), (.int (nar .boolean (1 : Int32)))] (.int (0 : Int32)) := Arv.set Ar177 q177 S177 N177 H177 G177 (fits_nar_bool _) W47 14 rfl (Nat.le_of_ble_eq_true rfl)
  have V_b1 := V_b1.other W47 ne_b1_b32
  have N47 := Fr.snoc X47 N46 g_b32
  have Z47 := Nat.le_trans Z46 (Keep.of_wr W47).1
  have O47 := O46.wr W47 g_b32
  obtain ⟨lc47, X47, N47⟩ : ∃ lc, Stand p l e room_1 s m #[(.int i0)] below meth c T47 lc 2 30 ∧ Fr n0 lc := ⟨_, X47, N47⟩
  refine Go.of st47 ?_
  show Go p e below Φ T47 (mkF m 178 #[.val (.int i0), .val (.ref b1), .unset, .unset] [(.ref b32)])
  refine Go.of (fun t k => XS.astoreN X47.here hx rfl (hb hby at_178) rfl rfl (l' := #[.val (.int i0), .val (.ref b1), .val (.ref b32), .unset]) rfl k) ?_
  show Go p e below Φ T47 (mkF m 179 #[.val (.int i0), .val (.ref b1), .val (.ref b32), .unset] [])
  refine Go.of (fun t k => XS.iloadN X47.here hx rfl (hb hby at_179) rfl  k) ?_
  show Go p e below Φ T47 (mkF m 180 #[.val (.int i0), .val (.ref b1), .val (.ref b32), .unset] [(.int i0)])
  refine Go.of (fun t k => X47.ldcInt hx hown (mvT hZ (hw _ (List.mem_of_getElem? (i := 35) rfl))) (g := (mkF m 180 #[.val (.int i0), .val (.ref b1), .val (.ref b32), .unset] [(.int i0)])) rfl (hb hby at_180) t k) ?_
  show Go p e below Φ T47 (mkF m 182 #[.val (.int i0), .val (.ref b1), .val (.ref b32), .unset] [(.int (2147483647 : Int32)), (.int i0)])
  refine Go.of (fun t k => XS.iand X47.here hx rfl (hb hby at_182) rfl k) ?_
  show Go p e below Φ T47 (mkF m 183 #[.val (.int i0), .val (.ref b1), .val (.ref b32), .unset] [(.int (i0 &&& (2147483647 : Int32)))])
  refine Go.of (fun t k => XS.bipush X47.here hx rfl (hb hby at_183) k) ?_
  show Go p e below Φ T47 (mkF m 185 #[.val (.int i0), .val (.ref b1), .val (.ref b32), .unset] [(.int (15 : Int32)), (.int (i0 &&& (2147483647 : Int32)))])
  refine Go.of (fun t k => iremM X47 hx rfl (hb hby at_185) rfl (by decide) k) ?_
  show Go p e below Φ T47 (mkF m 186 #[.val (.int i0), .val (.ref b1), .val (.ref b32), .unset] [(.int ((i0 &&& (2147483647 : Int32)) % (15 : Int32)))])
  obtain ⟨x186, hx186⟩ : ∃ z : Int32, z = ((i0 &&& (2147483647 : Int32)) % (15 : Int32)) := ⟨_, rfl⟩
  rw [← hx186]
  refine Go.of (fun t k => XS.istoreN X47.here hx rfl (hb hby at_186) rfl (l' := #[.val (.int i0), .val (.ref b1), .val (.ref b32), .val (.int x186)]) rfl k) ?_
  show Go p e below Φ T47 (mkF m 187 #[.val (.int i0), .val (.ref b1), .val (.ref b32), .val (.int x186)] [])
  rcases own_k15 i0 x186 hx186 with hk | hk | hk | hk | hk | hk | hk | hk | hk | hk | hk | hk | hk | hk | hk
  · rw [hk]
    show Go p e below Φ T47 (mkF m 187 #[.val (.int i0), .val (.ref b1), .val (.ref b32), .val (.int (0 : Int32))] [])
    refine Go.of (fun t k => XS.aloadN X47.here hx rfl (hb hby at_187) rfl rfl  k) ?_
    show Go p e below Φ T47 (mkF m 188 #[.val (.int i0), .val (.ref b1), .val (.ref b32), .val (.int (0 : Int32))] [(.ref b1)])
    refine Go.of (fun t k => XS.iloadN X47.here hx rfl (hb hby at_188) rfl  k) ?_
    show Go p e below Φ T47 (mkF m 189 #[.val (.int i0), .val (.ref b1), .val (.ref b32), .val (.int (0 : Int32))] [(.int (0 : Int32)), (.ref b1)])
    obtain ⟨cl189, Ar189, q189, S189, N189, H189, G189⟩ := id V_b1
    have hin189 : ¬ ((0 : Int32) < 0 ∨ cl189.slots.size ≤ ((0 : Int32)).toNatClampNeg) := inb_of S189 ⟨by decide, by decide⟩
    have hat189 : cl189.slots[((0 : Int32)).toNatClampNeg]? = some (.ref s0) := H189.at hin189 rfl
    refine Go.of (fun t k => X47.aaload hx (j := (0 : Int32)) (v := (.ref s0)) (by rw [e47]; exact Ar189.1) (State.isArrayOf_alike hZ.alike Ar189.2.1) rfl Ar189.2.2 hin189 hat189 (g := (mkF m 189 #[.val (.int i0), .val (.ref b1), .val (.ref b32), .val (.int (0 : Int32))] [(.int (0 : Int32)), (.ref b1)])) rfl rfl (hb hby at_189) t k) ?_
    show Go p e below Φ T47 (mkF m 190 #[.val (.int i0), .val (.ref b1), .val (.ref b32), .val (.int (0 : Int32))] [(.ref s0)])
    obtain ⟨cq48, kq48, q48a, q48b, q48c⟩ := isOf hZ e47 (E_s0.ext O47.2)
    obtain ⟨_, _, ⟨T48, L48, k48, n48⟩, -, X48, ⟨Lc48, hQ48, l48, y48, z48⟩, st48⟩ := X47.virtualBack hx (y := (⟨"com/example/millrace/millrace/io/Command", "escapesHeaders", "()Z"⟩ : MethodName)) (z := (⟨"com/example/millrace/millrace/io/Command", "escapesHeaders", "()Z"⟩ : MethodName)) hown (mvT hZ (hw _ (List.mem_of_getElem? (i := 36) rfl))) (mvT hZ (hw _ (List.mem_of_getElem? (i := 37) rfl))) (notFace_of_selects (args := #[]) (mvT hZ (hw _ (List.mem_of_getElem? (i := 39) rfl)))) (mvT hZ (hw _ (List.mem_of_getElem? (i := 39) rfl))) (mvT hZ (hw _ (List.mem_of_getElem? (i := 38) rfl))) (by decide) (backOf (W := 0) (rm1 l Z a0 hw [] s0 s0 s11 h47 n0 Z47 (S_CONNECT.ext O47.2) (S_CONNECTED.ext O47.2)) hZ (hw _ (List.mem_of_getElem? (i := 40) rfl)) (hw _ (List.mem_of_getElem? (i := 3) rfl)) (by decide) (by decide)) q48a q48c (g := (mkF m 190 #[.val (.int i0), .val (.ref b1), .val (.ref b32), .val (.int (0 : Int32))] [(.ref s0)])) rfl (by rw [hml]; rfl) (Steps.refl _) (argsL := []) (rest := []) (lenOf own_pd0 rfl) rfl (by show 2 * 0 + _ ≤ _; exact Nat.le_of_eq rfl) (hb hby at_190) (fun _ _ => ⟨rfl, e47, (by decide : 2 + 0 ≤ _), (by decide : 30 + 0 ≤ _)⟩)
    dsimp only [Pt.U, Pt.locs, Pt.cells, Pt.slots] at X48 l48 y48 z48 st48 hQ48
    subst l48 y48 z48
    obtain ⟨rfl, N48q, e48q⟩ := hQ48
    have N48 := Fr.app N47 N48q
    obtain ⟨lc48, X48, N48⟩ : ∃ lc, Stand p l e room_1 s m #[(.int i0)] below meth c T48 lc 2 30 ∧ Fr n0 lc := ⟨_, X48, N48⟩
    refine Go.tr st48 ?_
    show Go p e below Φ T48 (mkF m 193 #[.val (.int i0), .val (.ref b1), .val (.ref b32), .val (.int (0 : Int32))] [(.int (own_esc s0 s0 s11))])
    refine Go.of (fun t k => XS.aloadN X48.here hx rfl (hb hby at_193) rfl rfl  k) ?_
    show Go p e below Φ T48 (mkF m 194 #[.val (.int i0), .val (.ref b1), .val (.ref b32), .val (.int (0 : Int32))] [(.ref b32), (.int (own_esc s0 s0 s11))])
    refine Go.of (fun t k => XS.iloadN X48.here hx rfl (hb hby at_194) rfl  k) ?_
    show Go p e below Φ T48 (mkF m 195 #[.val (.int i0), .val (.ref b1), .val (.ref b32), .val (.int (0 : Int32))] [(.int (0 : Int32)), (.ref b32), (.int (own_esc s0 s0 s11))])
    obtain ⟨cl195, Ar195, q195, S195, N195, H195, G195⟩ := id V_b32
    have hin195 : ¬ ((0 : Int32) < 0 ∨ cl195.slots.size ≤ ((0 : Int32)).toNatClampNeg) := inb_of S195 ⟨by decide, by decide⟩
    have hat195 : cl195.slots[((0 : Int32)).toNatClampNeg]? = some (.int (nar .boolean (0 : Int32))) := H195.at hin195 rfl
    refine Go.of (fun t k => X48.baloadBooleans hx (j := (0 : Int32)) (v := (.int (nar .boolean (0 : Int32)))) (by rw [(e48q)]; exact Ar195.1) (State.isArrayOf_alike hZ.alike Ar195.2.1) Ar195.2.2 hin195 hat195 (g := (mkF m 195 #[.val (.int i0), .val (.ref b1), .val (.ref b32), .val (.int (0 : Int32))] [(.int (0 : Int32)), (.ref b32), (.int (own_esc s0 s0 s11))])) rfl rfl (hb hby at_195) t k) ?_
    show Go p e below Φ T48 (mkF m 196 #[.val (.int i0), .val (.ref b1), .val (.ref b32), .val (.int (0 : Int32))] [(.int (nar .boolean (0 : Int32))), (.int (own_esc s0 s0 s11))])
    refine Go.of (fun t k => XS.icmpNo X48.here hx rfl (hb hby at_196) rfl (XT.ii_ne_f (by rw [own_esc, if_pos rfl]; rfl)) k) ?_
    show Go p e below Φ T48 (mkF m 199 #[.val (.int i0), .val (.ref b1), .val (.ref b32), .val (.int (0 : Int32))] [])
    refine Go.of (fun t k => XS.iconst X48.here hx rfl (hb hby at_199) k) ?_
    show Go p e below Φ T48 (mkF m 200 #[.val (.int i0), .val (.ref b1), .val (.ref b32), .val (.int (0 : Int32))] [(.int (1 : Int32))])
    refine Go.of (fun t k => XS.goto X48.here hx rfl (pc0 := 200) (pc' := 204) rfl (hb hby at_200) (by decide) (by decide) k) ?_
    show Go p e below Φ T48 (mkF m 204 #[.val (.int i0), .val (.ref b1), .val (.ref b32), .val (.int (0 : Int32))] [(.int (1 : Int32))])
    rw [hΦ]
    refine Go.ret X48 hx Bd.notSynchronized Bd.returns rfl (Or.inl ⟨rfl, Or.inr (Or.inl rfl), _, rfl⟩) (hb hby at_204) (by decide) (by decide) ?_
    rw [(e48q)]
    exact ⟨rfl, N48⟩
  · rw [hk]
    show Go p e below Φ T47 (mkF m 187 #[.val (.int i0), .val (.ref b1), .val (.ref b32), .val (.int (1 : Int32))] [])
    refine Go.of (fun t k => XS.aloadN X47.here hx rfl (hb hby at_187) rfl rfl  k) ?_
    show Go p e below Φ T47 (mkF m 188 #[.val (.int i0), .val (.ref b1), .val (.ref b32), .val (.int (1 : Int32))] [(.ref b1)])
    refine Go.of (fun t k => XS.iloadN X47.here hx rfl (hb hby at_188) rfl  k) ?_
    show Go p e below Φ T47 (mkF m 189 #[.val (.int i0), .val (.ref b1), .val (.ref b32), .val (.int (1 : Int32))] [(.int (1 : Int32)), (.ref b1)])
    obtain ⟨cl189, Ar189, q189, S189, N189, H189, G189⟩ := id V_b1
    have hin189 : ¬ ((1 : Int32) < 0 ∨ cl189.slots.size ≤ ((1 : Int32)).toNatClampNeg) := inb_of S189 ⟨by decide, by decide⟩
    have hat189 : cl189.slots[((1 : Int32)).toNatClampNeg]? = some (.ref s1) := H189.at hin189 rfl
    refine Go.of (fun t k => X47.aaload hx (j := (1 : Int32)) (v := (.ref s1)) (by rw [e47]; exact Ar189.1) (State.isArrayOf_alike hZ.alike Ar189.2.1) rfl Ar189.2.2 hin189 hat189 (g := (mkF m 189 #[.val (.int i0), .val (.ref b1), .val (.ref b32), .val (.int (1 : Int32))] [(.int (1 : Int32)), (.ref b1)])) rfl rfl (hb hby at_189) t k) ?_
    show Go p e below Φ T47 (mkF m 190 #[.val (.int i0), .val (.ref b1), .val (.ref b32), .val (.int (1 : Int32))] [(.ref s1)])
    obtain ⟨cq49, kq49, q49a, q49b, q49c⟩ := isOf hZ e47 (E_s1.ext O47.2)
    obtain ⟨_, _, ⟨T49, L49, k49, n49⟩, -, X49, ⟨Lc49, hQ49, l49, y49, z49⟩, st49⟩ := X47.virtualBack hx (y := (⟨"com/example/millrace/millrace/io/Command", "escapesHeaders", "()Z"⟩ : MethodName)) (z := (⟨"com/example/millrace/millrace/io/Command", "escapesHeaders", "()Z"⟩ : MethodName)) hown (mvT hZ (hw _ (List.mem_of_getElem? (i := 36) rfl))) (mvT hZ (hw _ (List.mem_of_getElem? (i := 37) rfl))) (notFace_of_selects (args := #[]) (mvT hZ (hw _ (List.mem_of_getElem? (i := 39) rfl)))) (mvT hZ (hw _ (List.mem_of_getElem? (i := 39) rfl))) (mvT hZ (hw _ (List.mem_of_getElem? (i := 38) rfl))) (by decide) (backOf (W := 0) (rm1 l Z a0 hw [] s1 s0 s11 h47 n0 Z47 (S_CONNECT.ext O47.2) (S_CONNECTED.ext O47.2)) hZ (hw _ (List.mem_of_getElem? (i := 40) rfl)) (hw _ (List.mem_of_getElem? (i := 3) rfl)) (by decide) (by decide)) q49a q49c (g := (mkF m 190 #[.val (.int i0), .val (.ref b1), .val (.ref b32), .val (.int (1 : Int32))] [(.ref s1)])) rfl (by rw [hml]; rfl) (Steps.refl _) (argsL := []) (rest := []) (lenOf own_pd0 rfl) rfl (by show 2 * 0 + _ ≤ _; exact Nat.le_of_eq rfl) (hb hby at_190) (fun _ _ => ⟨rfl, e47, (by decide : 2 + 0 ≤ _), (by decide : 30 + 0 ≤ _)⟩)
    dsimp only [Pt.U, Pt.locs, Pt.cells, Pt.slots] at X49 l49 y49 z49 st49 hQ49
    subst l49 y49 z49
    obtain ⟨rfl, N49q, e49q⟩ := hQ49
    have N49 := Fr.app N47 N49q
    obtain ⟨lc49, X49, N49⟩ : ∃ lc, Stand p l e room_1 s m #[(.int i0)] below meth c T49 lc 2 30 ∧ Fr n0 lc := ⟨_, X49, N49⟩
    refine Go.tr st49 ?_
    show Go p e below Φ T49 (mkF m 193 #[.val (.int i0), .val (.ref b1), .val (.ref b32), .val (.int (1 : Int32))] [(.int (own_esc s1 s0 s11))])
    refine Go.of (fun t k => XS.aloadN X49.here hx rfl (hb hby at_193) rfl rfl  k) ?_
    show Go p e below Φ T49 (mkF m 194 #[.val (.int i0), .val (.ref b1), .val (.ref b32), .val (.int (1 : Int32))] [(.ref b32), (.int (own_esc s1 s0 s11))])
    refine Go.of (fun t k => XS.iloadN X49.here hx rfl (hb hby at_194) rfl  k) ?_
    show Go p e below Φ T49 (mkF m 195 #[.val (.int i0), .val (.ref b1), .val (.ref b32), .val (.int (1 : Int32))] [(.int (1 : Int32)), (.ref b32), (.int (own_esc s1 s0 s11))])
    obtain ⟨cl195, Ar195, q195, S195, N195, H195, G195⟩ := id V_b32
    have hin195 : ¬ ((1 : Int32) < 0 ∨ cl195.slots.size ≤ ((1 : Int32)).toNatClampNeg) := inb_of S195 ⟨by decide, by decide⟩
    have hat195 : cl195.slots[((1 : Int32)).toNatClampNeg]? = some (.int (nar .boolean (1 : Int32))) := H195.at hin195 rfl
    refine Go.of (fun t k => X49.baloadBooleans hx (j := (1 : Int32)) (v := (.int (nar .boolean (1 : Int32)))) (by rw [(e49q)]; exact Ar195.1) (State.isArrayOf_alike hZ.alike Ar195.2.1) Ar195.2.2 hin195 hat195 (g := (mkF m 195 #[.val (.int i0), .val (.ref b1), .val (.ref b32), .val (.int (1 : Int32))] [(.int (1 : Int32)), (.ref b32), (.int (own_esc s1 s0 s11))])) rfl rfl (hb hby at_195) t k) ?_
    show Go p e below Φ T49 (mkF m 196 #[.val (.int i0), .val (.ref b1), .val (.ref b32), .val (.int (1 : Int32))] [(.int (nar .boolean (1 : Int32))), (.int (own_esc s1 s0 s11))])
    refine Go.of (fun t k => XS.icmpNo X49.here hx rfl (hb hby at_196) rfl (XT.ii_ne_f (by rw [own_esc, if_neg (F_s1_ordinal.ne F_s0_ordinal (fun q => absurd (Value.int.inj q) (by decide))), if_neg (F_s1_ordinal.ne F_s11_ordinal (fun q => absurd (Value.int.inj q) (by decide)))]; rfl)) k) ?_
    show Go p e below Φ T49 (mkF m 199 #[.val (.int i0), .val (.ref b1), .val (.ref b32), .val (.int (1 : Int32))] [])
    refine Go.of (fun t k => XS.iconst X49.here hx rfl (hb hby at_199) k) ?_
    show Go p e below Φ T49 (mkF m 200 #[.val (.int i0), .val (.ref b1), .val (.ref b32), .val (.int (1 : Int32))] [(.int (1 : Int32))])
    refine Go.of (fun t k => XS.goto X49.here hx rfl (pc0 := 200) (pc' := 204) rfl (hb hby at_200) (by decide) (by decide) k) ?_
    show Go p e below Φ T49 (mkF m 204 #[.val (.int i0), .val (.ref b1), .val (.ref b32), .val (.int (1 : Int32))] [(.int (1 : Int32))])
    rw [hΦ]
    refine Go.ret X49 hx Bd.notSynchronized Bd.returns rfl (Or.inl ⟨rfl, Or.inr (Or.inl rfl), _, rfl⟩) (hb hby at_204) (by decide) (by decide) ?_
    rw [(e49q)]
    exact ⟨rfl, N49⟩
  · rw [hk]
    show Go p e below Φ T47 (mkF m 187 #[.val (.int i0), .val (.ref b1), .val (.ref b32), .val (.int (2 : Int32))] [])
    refine Go.of (fun t k => XS.aloadN X47.here hx rfl (hb hby at_187) rfl rfl  k) ?_
    show Go p e below Φ T47 (mkF m 188 #[.val (.int i0), .val (.ref b1), .val (.ref b32), .val (.int (2 : Int32))] [(.ref b1)])
    refine Go.of (fun t k => XS.iloadN X47.here hx rfl (hb hby at_188) rfl  k) ?_
    show Go p e below Φ T47 (mkF m 189 #[.val (.int i0), .val (.ref b1), .val (.ref b32), .val (.int (2 : Int32))] [(.int (2 : Int32)), (.ref b1)])
    obtain ⟨cl189, Ar189, q189, S189, N189, H189, G189⟩ := id V_b1
    have hin189 : ¬ ((2 : Int32) < 0 ∨ cl189.slots.size ≤ ((2 : Int32)).toNatClampNeg) := inb_of S189 ⟨by decide, by decide⟩
    have hat189 : cl189.slots[((2 : Int32)).toNatClampNeg]? = some (.ref s2) := H189.at hin189 rfl
    refine Go.of (fun t k => X47.aaload hx (j := (2 : Int32)) (v := (.ref s2)) (by rw [e47]; exact Ar189.1) (State.isArrayOf_alike hZ.alike Ar189.2.1) rfl Ar189.2.2 hin189 hat189 (g := (mkF m 189 #[.val (.int i0), .val (.ref b1), .val (.ref b32), .val (.int (2 : Int32))] [(.int (2 : Int32)), (.ref b1)])) rfl rfl (hb hby at_189) t k) ?_
    show Go p e below Φ T47 (mkF m 190 #[.val (.int i0), .val (.ref b1), .val (.ref b32), .val (.int (2 : Int32))] [(.ref s2)])
    obtain ⟨cq50, kq50, q50a, q50b, q50c⟩ := isOf hZ e47 (E_s2.ext O47.2)
    obtain ⟨_, _, ⟨T50, L50, k50, n50⟩, -, X50, ⟨Lc50, hQ50, l50, y50, z50⟩, st50⟩ := X47.virtualBack hx (y := (⟨"com/example/millrace/millrace/io/Command", "escapesHeaders", "()Z"⟩ : MethodName)) (z := (⟨"com/example/millrace/millrace/io/Command", "escapesHeaders", "()Z"⟩ : MethodName)) hown (mvT hZ (hw _ (List.mem_of_getElem? (i := 36) rfl))) (mvT hZ (hw _ (List.mem_of_getElem? (i := 37) rfl))) (notFace_of_selects (args := #[]) (mvT hZ (hw _ (List.mem_of_getElem? (i := 39) rfl)))) (mvT hZ (hw _ (List.mem_of_getElem? (i := 39) rfl))) (mvT hZ (hw _ (List.mem_of_getElem? (i := 38) rfl))) (by decide) (backOf (W := 0) (rm1 l Z a0 hw [] s2 s0 s11 h47 n0 Z47 (S_CONNECT.ext O47.2) (S_CONNECTED.ext O47.2)) hZ (hw _ (List.mem_of_getElem? (i := 40) rfl)) (hw _ (List.mem_of_getElem? (i := 3) rfl)) (by decide) (by decide)) q50a q50c (g := (mkF m 190 #[.val (.int i0), .val (.ref b1), .val (.ref b32), .val (.int (2 : Int32))] [(.ref s2)])) rfl (by rw [hml]; rfl) (Steps.refl _) (argsL := []) (rest := []) (lenOf own_pd0 rfl) rfl (by show 2 * 0 + _ ≤ _; exact Nat.le_of_eq rfl) (hb hby at_190) (fun _ _ => ⟨rfl, e47, (by decide : 2 + 0 ≤ _), (by decide : 30 + 0 ≤ _)⟩)
    dsimp only [Pt.U, Pt.locs, Pt.cells, Pt.slots] at X50 l50 y50 z50 st50 hQ50
    subst l50 y50 z50
    obtain ⟨rfl, N50q, e50q⟩ := hQ50
    have N50 := Fr.app N47 N50q
    obtain ⟨lc50, X50, N50⟩ : ∃ lc, Stand p l e room_1 s m #[(.int i0)] below meth c T50 lc 2 30 ∧ Fr n0 lc := ⟨_, X50, N50⟩
    refine Go.tr st50 ?_
    show Go p e below Φ T50 (mkF m 193 #[.val (.int i0), .val (.ref b1), .val (.ref b32), .val (.int (2 : Int32))] [(.int (own_esc s2 s0 s11))])
    refine Go.of (fun t k => XS.aloadN X50.here hx rfl (hb hby at_193) rfl rfl  k) ?_
    show Go p e below Φ T50 (mkF m 194 #[.val (.int i0), .val (.ref b1), .val (.ref b32), .val (.int (2 : Int32))] [(.ref b32), (.int (own_esc s2 s0 s11))])
    refine Go.of (fun t k => XS.iloadN X50.here hx rfl (hb hby at_194) rfl  k) ?_
    show Go p e below Φ T50 (mkF m 195 #[.val (.int i0), .val (.ref b1), .val (.ref b32), .val (.int (2 : Int32))] [(.int (2 : Int32)), (.ref b32), (.int (own_esc s2 s0 s11))])
    obtain ⟨cl195, Ar195, q195, S195, N195, H195, G195⟩ := id V_b32
    have hin195 : ¬ ((2 : Int32) < 0 ∨ cl195.slots.size ≤ ((2 : Int32)).toNatClampNeg) := inb_of S195 ⟨by decide, by decide⟩
    have hat195 : cl195.slots[((2 : Int32)).toNatClampNeg]? = some (.int (nar .boolean (1 : Int32))) := H195.at hin195 rfl
    refine Go.of (fun t k => X50.baloadBooleans hx (j := (2 : Int32)) (v := (.int (nar .boolean (1 : Int32)))) (by rw [(e50q)]; exact Ar195.1) (State.isArrayOf_alike hZ.alike Ar195.2.1) Ar195.2.2 hin195 hat195 (g := (mkF m 195 #[.val (.int i0), .val (.ref b1), .val (.ref b32), .val (.int (2 : Int32))] [(.int (2 : Int32)), (.ref b32), (.int (own_esc s2 s0 s11))])) rfl rfl (hb hby at_195) t k) ?_
    show Go p e below Φ T50 (mkF m 196 #[.val (.int i0), .val (.ref b1), .val (.ref b32), .val (.int (2 : Int32))] [(.int (nar .boolean (1 : Int32))), (.int (own_esc s2 s0 s11))])
    refine Go.of (fun t k => XS.icmpNo X50.here hx rfl (hb hby at_196) rfl (XT.ii_ne_f (by rw [own_esc, if_neg (F_s2_ordinal.ne F_s0_ordinal (fun q => absurd (Value.int.inj q) (by decide))), if_neg (F_s2_ordinal.ne F_s11_ordinal (fun q => absurd (Value.int.inj q) (by decide)))]; rfl)) k) ?_
    show Go p e below Φ T50 (mkF m 199 #[.val (.int i0), .val (.ref b1), .val (.ref b32), .val (.int (2 : Int32))] [])
    refine Go.of (fun t k => XS.iconst X50.here hx rfl (hb hby at_199) k) ?_
    show Go p e below Φ T50 (mkF m 200 #[.val (.int i0), .val (.ref b1), .val (.ref b32), .val (.int (2 : Int32))] [(.int (1 : Int32))])
    refine Go.of (fun t k => XS.goto X50.here hx rfl (pc0 := 200) (pc' := 204) rfl (hb hby at_200) (by decide) (by decide) k) ?_
    show Go p e below Φ T50 (mkF m 204 #[.val (.int i0), .val (.ref b1), .val (.ref b32), .val (.int (2 : Int32))] [(.int (1 : Int32))])
    rw [hΦ]
    refine Go.ret X50 hx Bd.notSynchronized Bd.returns rfl (Or.inl ⟨rfl, Or.inr (Or.inl rfl), _, rfl⟩) (hb hby at_204) (by decide) (by decide) ?_
    rw [(e50q)]
    exact ⟨rfl, N50⟩
  · rw [hk]
    show Go p e below Φ T47 (mkF m 187 #[.val (.int i0), .val (.ref b1), .val (.ref b32), .val (.int (3 : Int32))] [])
    refine Go.of (fun t k => XS.aloadN X47.here hx rfl (hb hby at_187) rfl rfl  k) ?_
    show Go p e below Φ T47 (mkF m 188 #[.val (.int i0), .val (.ref b1), .val (.ref b32), .val (.int (3 : Int32))] [(.ref b1)])
    refine Go.of (fun t k => XS.iloadN X47.here hx rfl (hb hby at_188) rfl  k) ?_
    show Go p e below Φ T47 (mkF m 189 #[.val (.int i0), .val (.ref b1), .val (.ref b32), .val (.int (3 : Int32))] [(.int (3 : Int32)), (.ref b1)])
    obtain ⟨cl189, Ar189, q189, S189, N189, H189, G189⟩ := id V_b1
    have hin189 : ¬ ((3 : Int32) < 0 ∨ cl189.slots.size ≤ ((3 : Int32)).toNatClampNeg) := inb_of S189 ⟨by decide, by decide⟩
    have hat189 : cl189.slots[((3 : Int32)).toNatClampNeg]? = some (.ref s3) := H189.at hin189 rfl
    refine Go.of (fun t k => X47.aaload hx (j := (3 : Int32)) (v := (.ref s3)) (by rw [e47]; exact Ar189.1) (State.isArrayOf_alike hZ.alike Ar189.2.1) rfl Ar189.2.2 hin189 hat189 (g := (mkF m 189 #[.val (.int i0), .val (.ref b1), .val (.ref b32), .val (.int (3 : Int32))] [(.int (3 : Int32)), (.ref b1)])) rfl rfl (hb hby at_189) t k) ?_
    show Go p e below Φ T47 (mkF m 190 #[.val (.int i0), .val (.ref b1), .val (.ref b32), .val (.int (3 : Int32))] [(.ref s3)])
    obtain ⟨cq51, kq51, q51a, q51b, q51c⟩ := isOf hZ e47 (E_s3.ext O47.2)
    obtain ⟨_, _, ⟨T51, L51, k51, n51⟩, -, X51, ⟨Lc51, hQ51, l51, y51, z51⟩, st51⟩ := X47.virtualBack hx (y := (⟨"com/example/millrace/millrace/io/Command", "escapesHeaders", "()Z"⟩ : MethodName)) (z := (⟨"com/example/millrace/millrace/io/Command", "escapesHeaders", "()Z"⟩ : MethodName)) hown (mvT hZ (hw _ (List.mem_of_getElem? (i := 36) rfl))) (mvT hZ (hw _ (List.mem_of_getElem? (i := 37) rfl))) (notFace_of_selects (args := #[]) (mvT hZ (hw _ (List.mem_of_getElem? (i := 39) rfl)))) (mvT hZ (hw _ (List.mem_of_getElem? (i := 39) rfl))) (mvT hZ (hw _ (List.mem_of_getElem? (i := 38) rfl))) (by decide) (backOf (W := 0) (rm1 l Z a0 hw [] s3 s0 s11 h47 n0 Z47 (S_CONNECT.ext O47.2) (S_CONNECTED.ext O47.2)) hZ (hw _ (List.mem_of_getElem? (i := 40) rfl)) (hw _ (List.mem_of_getElem? (i := 3) rfl)) (by decide) (by decide)) q51a q51c (g := (mkF m 190 #[.val (.int i0), .val (.ref b1), .val (.ref b32), .val (.int (3 : Int32))] [(.ref s3)])) rfl (by rw [hml]; rfl) (Steps.refl _) (argsL := []) (rest := []) (lenOf own_pd0 rfl) rfl (by show 2 * 0 + _ ≤ _; exact Nat.le_of_eq rfl) (hb hby at_190) (fun _ _ => ⟨rfl, e47, (by decide : 2 + 0 ≤ _), (by decide : 30 + 0 ≤ _)⟩)
    dsimp only [Pt.U, Pt.locs, Pt.cells, Pt.slots] at X51 l51 y51 z51 st51 hQ51
    subst l51 y51 z51
    obtain ⟨rfl, N51q, e51q⟩ := hQ51
    have N51 := Fr.app N47 N51q
    obtain ⟨lc51, X51, N51⟩ : ∃ lc, Stand p l e room_1 s m #[(.int i0)] below meth c T51 lc 2 30 ∧ Fr n0 lc := ⟨_, X51, N51⟩
    refine Go.tr st51 ?_
    show Go p e below Φ T51 (mkF m 193 #[.val (.int i0), .val (.ref b1), .val (.ref b32), .val (.int (3 : Int32))] [(.int (own_esc s3 s0 s11))])
    refine Go.of (fun t k => XS.aloadN X51.here hx rfl (hb hby at_193) rfl rfl  k) ?_
    show Go p e below Φ T51 (mkF m 194 #[.val (.int i0), .val (.ref b1), .val (.ref b32), .val (.int (3 : Int32))] [(.ref b32), (.int (own_esc s3 s0 s11))])
    refine Go.of (fun t k => XS.iloadN X51.here hx rfl (hb hby at_194) rfl  k) ?_
    show Go p e below Φ T51 (mkF m 195 #[.val (.int i0), .val (.ref b1), .val (.ref b32), .val (.int (3 : Int32))] [(.int (3 : Int32)), (.ref b32), (.int (own_esc s3 s0 s11))])
    obtain ⟨cl195, Ar195, q195, S195, N195, H195, G195⟩ := id V_b32
    have hin195 : ¬ ((3 : Int32) < 0 ∨ cl195.slots.size ≤ ((3 : Int32)).toNatClampNeg) := inb_of S195 ⟨by decide, by decide⟩
    have hat195 : cl195.slots[((3 : Int32)).toNatClampNeg]? = some (.int (nar .boolean (1 : Int32))) := H195.at hin195 rfl
    refine Go.of (fun t k => X51.baloadBooleans hx (j := (3 : Int32)) (v := (.int (nar .boolean (1 : Int32)))) (by rw [(e51q)]; exact Ar195.1) (State.isArrayOf_alike hZ.alike Ar195.2.1) Ar195.2.2 hin195 hat195 (g := (mkF m 195 #[.val (.int i0), .val (.ref b1), .val (.ref b32), .val (.int (3 : Int32))] [(.int (3 : Int32)), (.ref b32), (.int (own_esc s3 s0 s11))])) rfl rfl (hb hby at_195) t k) ?_
    show Go p e below Φ T51 (mkF m 196 #[.val (.int i0), .val (.ref b1), .val (.ref b32), .val (.int (3 : Int32))] [(.int (nar .boolean (1 : Int32))), (.int (own_esc s3 s0 s11))])
    refine Go.of (fun t k => XS.icmpNo X51.here hx rfl (hb hby at_196) rfl (XT.ii_ne_f (by rw [own_esc, if_neg (F_s3_ordinal.ne F_s0_ordinal (fun q => absurd (Value.int.inj q) (by decide))), if_neg (F_s3_ordinal.ne F_s11_ordinal (fun q => absurd (Value.int.inj q) (by decide)))]; rfl)) k) ?_
    show Go p e below Φ T51 (mkF m 199 #[.val (.int i0), .val (.ref b1), .val (.ref b32), .val (.int (3 : Int32))] [])
    refine Go.of (fun t k => XS.iconst X51.here hx rfl (hb hby at_199) k) ?_
    show Go p e below Φ T51 (mkF m 200 #[.val (.int i0), .val (.ref b1), .val (.ref b32), .val (.int (3 : Int32))] [(.int (1 : Int32))])
    refine Go.of (fun t k => XS.goto X51.here hx rfl (pc0 := 200) (pc' := 204) rfl (hb hby at_200) (by decide) (by decide) k) ?_
    show Go p e below Φ T51 (mkF m 204 #[.val (.int i0), .val (.ref b1), .val (.ref b32), .val (.int (3 : Int32))] [(.int (1 : Int32))])
    rw [hΦ]
    refine Go.ret X51 hx Bd.notSynchronized Bd.returns rfl (Or.inl ⟨rfl, Or.inr (Or.inl rfl), _, rfl⟩) (hb hby at_204) (by decide) (by decide) ?_
    rw [(e51q)]
    exact ⟨rfl, N51⟩
  · rw [hk]
    show Go p e below Φ T47 (mkF m 187 #[.val (.int i0), .val (.ref b1), .val (.ref b32), .val (.int (4 : Int32))] [])
    refine Go.of (fun t k => XS.aloadN X47.here hx rfl (hb hby at_187) rfl rfl  k) ?_
    show Go p e below Φ T47 (mkF m 188 #[.val (.int i0), .val (.ref b1), .val (.ref b32), .val (.int (4 : Int32))] [(.ref b1)])
    refine Go.of (fun t k => XS.iloadN X47.here hx rfl (hb hby at_188) rfl  k) ?_
    show Go p e below Φ T47 (mkF m 189 #[.val (.int i0), .val (.ref b1), .val (.ref b32), .val (.int (4 : Int32))] [(.int (4 : Int32)), (.ref b1)])
    obtain ⟨cl189, Ar189, q189, S189, N189, H189, G189⟩ := id V_b1
    have hin189 : ¬ ((4 : Int32) < 0 ∨ cl189.slots.size ≤ ((4 : Int32)).toNatClampNeg) := inb_of S189 ⟨by decide, by decide⟩
    have hat189 : cl189.slots[((4 : Int32)).toNatClampNeg]? = some (.ref s4) := H189.at hin189 rfl
    refine Go.of (fun t k => X47.aaload hx (j := (4 : Int32)) (v := (.ref s4)) (by rw [e47]; exact Ar189.1) (State.isArrayOf_alike hZ.alike Ar189.2.1) rfl Ar189.2.2 hin189 hat189 (g := (mkF m 189 #[.val (.int i0), .val (.ref b1), .val (.ref b32), .val (.int (4 : Int32))] [(.int (4 : Int32)), (.ref b1)])) rfl rfl (hb hby at_189) t k) ?_
    show Go p e below Φ T47 (mkF m 190 #[.val (.int i0), .val (.ref b1), .val (.ref b32), .val (.int (4 : Int32))] [(.ref s4)])
    obtain ⟨cq52, kq52, q52a, q52b, q52c⟩ := isOf hZ e47 (E_s4.ext O47.2)
    obtain ⟨_, _, ⟨T52, L52, k52, n52⟩, -, X52, ⟨Lc52, hQ52, l52, y52, z52⟩, st52⟩ := X47.virtualBack hx (y := (⟨"com/example/millrace/millrace/io/Command", "escapesHeaders", "()Z"⟩ : MethodName)) (z := (⟨"com/example/millrace/millrace/io/Command", "escapesHeaders", "()Z"⟩ : MethodName)) hown (mvT hZ (hw _ (List.mem_of_getElem? (i := 36) rfl))) (mvT hZ (hw _ (List.mem_of_getElem? (i := 37) rfl))) (notFace_of_selects (args := #[]) (mvT hZ (hw _ (List.mem_of_getElem? (i := 39) rfl)))) (mvT hZ (hw _ (List.mem_of_getElem? (i := 39) rfl))) (mvT hZ (hw _ (List.mem_of_getElem? (i := 38) rfl))) (by decide) (backOf (W := 0) (rm1 l Z a0 hw [] s4 s0 s11 h47 n0 Z47 (S_CONNECT.ext O47.2) (S_CONNECTED.ext O47.2)) hZ (hw _ (List.mem_of_getElem? (i := 40) rfl)) (hw _ (List.mem_of_getElem? (i := 3) rfl)) (by decide) (by decide)) q52a q52c (g := (mkF m 190 #[.val (.int i0), .val (.ref b1), .val (.ref b32), .val (.int (4 : Int32))] [(.ref s4)])) rfl (by rw [hml]; rfl) (Steps.refl _) (argsL := []) (rest := []) (lenOf own_pd0 rfl) rfl (by show 2 * 0 + _ ≤ _; exact Nat.le_of_eq rfl) (hb hby at_190) (fun _ _ => ⟨rfl, e47, (by decide : 2 + 0 ≤ _), (by decide : 30 + 0 ≤ _)⟩)
    dsimp only [Pt.U, Pt.locs, Pt.cells, Pt.slots] at X52 l52 y52 z52 st52 hQ52
    subst l52 y52 z52
    obtain ⟨rfl, N52q, e52q⟩ := hQ52
    have N52 := Fr.app N47 N52q
    obtain ⟨lc52, X52, N52⟩ : ∃ lc, Stand p l e room_1 s m #[(.int i0)] below meth c T52 lc 2 30 ∧ Fr n0 lc := ⟨_, X52, N52⟩
    refine Go.tr st52 ?_
    show Go p e below Φ T52 (mkF m 193 #[.val (.int i0), .val (.ref b1), .val (.ref b32), .val (.int (4 : Int32))] [(.int (own_esc s4 s0 s11))])
    refine Go.of (fun t k => XS.aloadN X52.here hx rfl (hb hby at_193) rfl rfl  k) ?_
    show Go p e below Φ T52 (mkF m 194 #[.val (.int i0), .val (.ref b1), .val (.ref b32), .val (.int (4 : Int32))] [(.ref b32), (.int (own_esc s4 s0 s11))])
    refine Go.of (fun t k => XS.iloadN X52.here hx rfl (hb hby at_194) rfl  k) ?_
    show Go p e below Φ T52 (mkF m 195 #[.val (.int i0), .val (.ref b1), .val (.ref b32), .val (.int (4 : Int32))] [(.int (4 : Int32)), (.ref b32), (.int (own_esc s4 s0 s11))])
    obtain ⟨cl195, Ar195, q195, S195, N195, H195, G195⟩ := id V_b32
    have hin195 : ¬ ((4 : Int32) < 0 ∨ cl195.slots.size ≤ ((4 : Int32)).toNatClampNeg) := inb_of S195 ⟨by decide, by decide⟩
    have hat195 : cl195.slots[((4 : Int32)).toNatClampNeg]? = some (.int (nar .boolean (1 : Int32))) := H195.at hin195 rfl
    refine Go.of (fun t k => X52.baloadBooleans hx (j := (4 : Int32)) (v := (.int (nar .boolean (1 : Int32)))) (by rw [(e52q)]; exact Ar195.1) (State.isArrayOf_alike hZ.alike Ar195.2.1) Ar195.2.2 hin195 hat195 (g := (mkF m 195 #[.val (.int i0), .val (.ref b1), .val (.ref b32), .val (.int (4 : Int32))] [(.int (4 : Int32)), (.ref b32), (.int (own_esc s4 s0 s11))])) rfl rfl (hb hby at_195) t k) ?_
    show Go p e below Φ T52 (mkF m 196 #[.val (.int i0), .val (.ref b1), .val (.ref b32), .val (.int (4 : Int32))] [(.int (nar .boolean (1 : Int32))), (.int (own_esc s4 s0 s11))])
    refine Go.of (fun t k => XS.icmpNo X52.here hx rfl (hb hby at_196) rfl (XT.ii_ne_f (by rw [own_esc, if_neg (F_s4_ordinal.ne F_s0_ordinal (fun q => absurd (Value.int.inj q) (by decide))), if_neg (F_s4_ordinal.ne F_s11_ordinal (fun q => absurd (Value.int.inj q) (by decide)))]; rfl)) k) ?_
    show Go p e below Φ T52 (mkF m 199 #[.val (.int i0), .val (.ref b1), .val (.ref b32), .val (.int (4 : Int32))] [])
    refine Go.of (fun t k => XS.iconst X52.here hx rfl (hb hby at_199) k) ?_
    show Go p e below Φ T52 (mkF m 200 #[.val (.int i0), .val (.ref b1), .val (.ref b32), .val (.int (4 : Int32))] [(.int (1 : Int32))])
    refine Go.of (fun t k => XS.goto X52.here hx rfl (pc0 := 200) (pc' := 204) rfl (hb hby at_200) (by decide) (by decide) k) ?_
    show Go p e below Φ T52 (mkF m 204 #[.val (.int i0), .val (.ref b1), .val (.ref b32), .val (.int (4 : Int32))] [(.int (1 : Int32))])
    rw [hΦ]
    refine Go.ret X52 hx Bd.notSynchronized Bd.returns rfl (Or.inl ⟨rfl, Or.inr (Or.inl rfl), _, rfl⟩) (hb hby at_204) (by decide) (by decide) ?_
    rw [(e52q)]
    exact ⟨rfl, N52⟩
  · rw [hk]
    show Go p e below Φ T47 (mkF m 187 #[.val (.int i0), .val (.ref b1), .val (.ref b32), .val (.int (5 : Int32))] [])
    refine Go.of (fun t k => XS.aloadN X47.here hx rfl (hb hby at_187) rfl rfl  k) ?_
    show Go p e below Φ T47 (mkF m 188 #[.val (.int i0), .val (.ref b1), .val (.ref b32), .val (.int (5 : Int32))] [(.ref b1)])
    refine Go.of (fun t k => XS.iloadN X47.here hx rfl (hb hby at_188) rfl  k) ?_
    show Go p e below Φ T47 (mkF m 189 #[.val (.int i0), .val (.ref b1), .val (.ref b32), .val (.int (5 : Int32))] [(.int (5 : Int32)), (.ref b1)])
    obtain ⟨cl189, Ar189, q189, S189, N189, H189, G189⟩ := id V_b1
    have hin189 : ¬ ((5 : Int32) < 0 ∨ cl189.slots.size ≤ ((5 : Int32)).toNatClampNeg) := inb_of S189 ⟨by decide, by decide⟩
    have hat189 : cl189.slots[((5 : Int32)).toNatClampNeg]? = some (.ref s5) := H189.at hin189 rfl
    refine Go.of (fun t k => X47.aaload hx (j := (5 : Int32)) (v := (.ref s5)) (by rw [e47]; exact Ar189.1) (State.isArrayOf_alike hZ.alike Ar189.2.1) rfl Ar189.2.2 hin189 hat189 (g := (mkF m 189 #[.val (.int i0), .val (.ref b1), .val (.ref b32), .val (.int (5 : Int32))] [(.int (5 : Int32)), (.ref b1)])) rfl rfl (hb hby at_189) t k) ?_
    show Go p e below Φ T47 (mkF m 190 #[.val (.int i0), .val (.ref b1), .val (.ref b32), .val (.int (5 : Int32))] [(.ref s5)])
    obtain ⟨cq53, kq53, q53a, q53b, q53c⟩ := isOf hZ e47 (E_s5.ext O47.2)
    obtain ⟨_, _, ⟨T53, L53, k53, n53⟩, -, X53, ⟨Lc53, hQ53, l53, y53, z53⟩, st53⟩ := X47.virtualBack hx (y := (⟨"com/example/millrace/millrace/io/Command", "escapesHeaders", "()Z"⟩ : MethodName)) (z := (⟨"com/example/millrace/millrace/io/Command", "escapesHeaders", "()Z"⟩ : MethodName)) hown (mvT hZ (hw _ (List.mem_of_getElem? (i := 36) rfl))) (mvT hZ (hw _ (List.mem_of_getElem? (i := 37) rfl))) (notFace_of_selects (args := #[]) (mvT hZ (hw _ (List.mem_of_getElem? (i := 39) rfl)))) (mvT hZ (hw _ (List.mem_of_getElem? (i := 39) rfl))) (mvT hZ (hw _ (List.mem_of_getElem? (i := 38) rfl))) (by decide) (backOf (W := 0) (rm1 l Z a0 hw [] s5 s0 s11 h47 n0 Z47 (S_CONNECT.ext O47.2) (S_CONNECTED.ext O47.2)) hZ (hw _ (List.mem_of_getElem? (i := 40) rfl)) (hw _ (List.mem_of_getElem? (i := 3) rfl)) (by decide) (by decide)) q53a q53c (g := (mkF m 190 #[.val (.int i0), .val (.ref b1), .val (.ref b32), .val (.int (5 : Int32))] [(.ref s5)])) rfl (by rw [hml]; rfl) (Steps.refl _) (argsL := []) (rest := []) (lenOf own_pd0 rfl) rfl (by show 2 * 0 + _ ≤ _; exact Nat.le_of_eq rfl) (hb hby at_190) (fun _ _ => ⟨rfl, e47, (by decide : 2 + 0 ≤ _), (by decide : 30 + 0 ≤ _)⟩)
    dsimp only [Pt.U, Pt.locs, Pt.cells, Pt.slots] at X53 l53 y53 z53 st53 hQ53
    subst l53 y53 z53
    obtain ⟨rfl, N53q, e53q⟩ := hQ53
    have N53 := Fr.app N47 N53q
    obtain ⟨lc53, X53, N53⟩ : ∃ lc, Stand p l e room_1 s m #[(.int i0)] below meth c T53 lc 2 30 ∧ Fr n0 lc := ⟨_, X53, N53⟩
    refine Go.tr st53 ?_
    show Go p e below Φ T53 (mkF m 193 #[.val (.int i0), .val (.ref b1), .val (.ref b32), .val (.int (5 : Int32))] [(.int (own_esc s5 s0 s11))])
    refine Go.of (fun t k => XS.aloadN X53.here hx rfl (hb hby at_193) rfl rfl  k) ?_
    show Go p e below Φ T53 (mkF m 194 #[.val (.int i0), .val (.ref b1), .val (.ref b32), .val (.int (5 : Int32))] [(.ref b32), (.int (own_esc s5 s0 s11))])
    refine Go.of (fun t k => XS.iloadN X53.here hx rfl (hb hby at_194) rfl  k) ?_
    show Go p e below Φ T53 (mkF m 195 #[.val (.int i0), .val (.ref b1), .val (.ref b32), .val (.int (5 : Int32))] [(.int (5 : Int32)), (.ref b32), (.int (own_esc s5 s0 s11))])
    obtain ⟨cl195, Ar195, q195, S195, N195, H195, G195⟩ := id V_b32
    have hin195 : ¬ ((5 : Int32) < 0 ∨ cl195.slots.size ≤ ((5 : Int32)).toNatClampNeg) := inb_of S195 ⟨by decide, by decide⟩
    have hat195 : cl195.slots[((5 : Int32)).toNatClampNeg]? = some (.int (nar .boolean (1 : Int32))) := H195.at hin195 rfl
    refine Go.of (fun t k => X53.baloadBooleans hx (j := (5 : Int32)) (v := (.int (nar .boolean (1 : Int32)))) (by rw [(e53q)]; exact Ar195.1) (State.isArrayOf_alike hZ.alike Ar195.2.1) Ar195.2.2 hin195 hat195 (g := (mkF m 195 #[.val (.int i0), .val (.ref b1), .val (.ref b32), .val (.int (5 : Int32))] [(.int (5 : Int32)), (.ref b32), (.int (own_esc s5 s0 s11))])) rfl rfl (hb hby at_195) t k) ?_
    show Go p e below Φ T53 (mkF m 196 #[.val (.int i0), .val (.ref b1), .val (.ref b32), .val (.int (5 : Int32))] [(.int (nar .boolean (1 : Int32))), (.int (own_esc s5 s0 s11))])
    refine Go.of (fun t k => XS.icmpNo X53.here hx rfl (hb hby at_196) rfl (XT.ii_ne_f (by rw [own_esc, if_neg (F_s5_ordinal.ne F_s0_ordinal (fun q => absurd (Value.int.inj q) (by decide))), if_neg (F_s5_ordinal.ne F_s11_ordinal (fun q => absurd (Value.int.inj q) (by decide)))]; rfl)) k) ?_
    show Go p e below Φ T53 (mkF m 199 #[.val (.int i0), .val (.ref b1), .val (.ref b32), .val (.int (5 : Int32))] [])
    refine Go.of (fun t k => XS.iconst X53.here hx rfl (hb hby at_199) k) ?_
    show Go p e below Φ T53 (mkF m 200 #[.val (.int i0), .val (.ref b1), .val (.ref b32), .val (.int (5 : Int32))] [(.int (1 : Int32))])
    refine Go.of (fun t k => XS.goto X53.here hx rfl (pc0 := 200) (pc' := 204) rfl (hb hby at_200) (by decide) (by decide) k) ?_
    show Go p e below Φ T53 (mkF m 204 #[.val (.int i0), .val (.ref b1), .val (.ref b32), .val (.int (5 : Int32))] [(.int (1 : Int32))])
    rw [hΦ]
    refine Go.ret X53 hx Bd.notSynchronized Bd.returns rfl (Or.inl ⟨rfl, Or.inr (Or.inl rfl), _, rfl⟩) (hb hby at_204) (by decide) (by decide) ?_
    rw [(e53q)]
    exact ⟨rfl, N53⟩
  · rw [hk]
    show Go p e below Φ T47 (mkF m 187 #[.val (.int i0), .val (.ref b1), .val (.ref b32), .val (.int (6 : Int32))] [])
    refine Go.of (fun t k => XS.aloadN X47.here hx rfl (hb hby at_187) rfl rfl  k) ?_
    show Go p e below Φ T47 (mkF m 188 #[.val (.int i0), .val (.ref b1), .val (.ref b32), .val (.int (6 : Int32))] [(.ref b1)])
    refine Go.of (fun t k => XS.iloadN X47.here hx rfl (hb hby at_188) rfl  k) ?_
    show Go p e below Φ T47 (mkF m 189 #[.val (.int i0), .val (.ref b1), .val (.ref b32), .val (.int (6 : Int32))] [(.int (6 : Int32)), (.ref b1)])
    obtain ⟨cl189, Ar189, q189, S189, N189, H189, G189⟩ := id V_b1
    have hin189 : ¬ ((6 : Int32) < 0 ∨ cl189.slots.size ≤ ((6 : Int32)).toNatClampNeg) := inb_of S189 ⟨by decide, by decide⟩
    have hat189 : cl189.slots[((6 : Int32)).toNatClampNeg]? = some (.ref s6) := H189.at hin189 rfl
    refine Go.of (fun t k => X47.aaload hx (j := (6 : Int32)) (v := (.ref s6)) (by rw [e47]; exact Ar189.1) (State.isArrayOf_alike hZ.alike Ar189.2.1) rfl Ar189.2.2 hin189 hat189 (g := (mkF m 189 #[.val (.int i0), .val (.ref b1), .val (.ref b32), .val (.int (6 : Int32))] [(.int (6 : Int32)), (.ref b1)])) rfl rfl (hb hby at_189) t k) ?_
    show Go p e below Φ T47 (mkF m 190 #[.val (.int i0), .val (.ref b1), .val (.ref b32), .val (.int (6 : Int32))] [(.ref s6)])
    obtain ⟨cq54, kq54, q54a, q54b, q54c⟩ := isOf hZ e47 (E_s6.ext O47.2)
    obtain ⟨_, _, ⟨T54, L54, k54, n54⟩, -, X54, ⟨Lc54, hQ54, l54, y54, z54⟩, st54⟩ := X47.virtualBack hx (y := (⟨"com/example/millrace/millrace/io/Command", "escapesHeaders", "()Z"⟩ : MethodName)) (z := (⟨"com/example/millrace/millrace/io/Command", "escapesHeaders", "()Z"⟩ : MethodName)) hown (mvT hZ (hw _ (List.mem_of_getElem? (i := 36) rfl))) (mvT hZ (hw _ (List.mem_of_getElem? (i := 37) rfl))) (notFace_of_selects (args := #[]) (mvT hZ (hw _ (List.mem_of_getElem? (i := 39) rfl)))) (mvT hZ (hw _ (List.mem_of_getElem? (i := 39) rfl))) (mvT hZ (hw _ (List.mem_of_getElem? (i := 38) rfl))) (by decide) (backOf (W := 0) (rm1 l Z a0 hw [] s6 s0 s11 h47 n0 Z47 (S_CONNECT.ext O47.2) (S_CONNECTED.ext O47.2)) hZ (hw _ (List.mem_of_getElem? (i := 40) rfl)) (hw _ (List.mem_of_getElem? (i := 3) rfl)) (by decide) (by decide)) q54a q54c (g := (mkF m 190 #[.val (.int i0), .val (.ref b1), .val (.ref b32), .val (.int (6 : Int32))] [(.ref s6)])) rfl (by rw [hml]; rfl) (Steps.refl _) (argsL := []) (rest := []) (lenOf own_pd0 rfl) rfl (by show 2 * 0 + _ ≤ _; exact Nat.le_of_eq rfl) (hb hby at_190) (fun _ _ => ⟨rfl, e47, (by decide : 2 + 0 ≤ _), (by decide : 30 + 0 ≤ _)⟩)
    dsimp only [Pt.U, Pt.locs, Pt.cells, Pt.slots] at X54 l54 y54 z54 st54 hQ54
    subst l54 y54 z54
    obtain ⟨rfl, N54q, e54q⟩ := hQ54
    have N54 := Fr.app N47 N54q
    obtain ⟨lc54, X54, N54⟩ : ∃ lc, Stand p l e room_1 s m #[(.int i0)] below meth c T54 lc 2 30 ∧ Fr n0 lc := ⟨_, X54, N54⟩
    refine Go.tr st54 ?_
    show Go p e below Φ T54 (mkF m 193 #[.val (.int i0), .val (.ref b1), .val (.ref b32), .val (.int (6 : Int32))] [(.int (own_esc s6 s0 s11))])
    refine Go.of (fun t k => XS.aloadN X54.here hx rfl (hb hby at_193) rfl rfl  k) ?_
    show Go p e below Φ T54 (mkF m 194 #[.val (.int i0), .val (.ref b1), .val (.ref b32), .val (.int (6 : Int32))] [(.ref b32), (.int (own_esc s6 s0 s11))])
    refine Go.of (fun t k => XS.iloadN X54.here hx rfl (hb hby at_194) rfl  k) ?_
    show Go p e below Φ T54 (mkF m 195 #[.val (.int i0), .val (.ref b1), .val (.ref b32), .val (.int (6 : Int32))] [(.int (6 : Int32)), (.ref b32), (.int (own_esc s6 s0 s11))])
    obtain ⟨cl195, Ar195, q195, S195, N195, H195, G195⟩ := id V_b32
    have hin195 : ¬ ((6 : Int32) < 0 ∨ cl195.slots.size ≤ ((6 : Int32)).toNatClampNeg) := inb_of S195 ⟨by decide, by decide⟩
    have hat195 : cl195.slots[((6 : Int32)).toNatClampNeg]? = some (.int (nar .boolean (1 : Int32))) := H195.at hin195 rfl
    refine Go.of (fun t k => X54.baloadBooleans hx (j := (6 : Int32)) (v := (.int (nar .boolean (1 : Int32)))) (by rw [(e54q)]; exact Ar195.1) (State.isArrayOf_alike hZ.alike Ar195.2.1) Ar195.2.2 hin195 hat195 (g := (mkF m 195 #[.val (.int i0), .val (.ref b1), .val (.ref b32), .val (.int (6 : Int32))] [(.int (6 : Int32)), (.ref b32), (.int (own_esc s6 s0 s11))])) rfl rfl (hb hby at_195) t k) ?_
    show Go p e below Φ T54 (mkF m 196 #[.val (.int i0), .val (.ref b1), .val (.ref b32), .val (.int (6 : Int32))] [(.int (nar .boolean (1 : Int32))), (.int (own_esc s6 s0 s11))])
    refine Go.of (fun t k => XS.icmpNo X54.here hx rfl (hb hby at_196) rfl (XT.ii_ne_f (by rw [own_esc, if_neg (F_s6_ordinal.ne F_s0_ordinal (fun q => absurd (Value.int.inj q) (by decide))), if_neg (F_s6_ordinal.ne F_s11_ordinal (fun q => absurd (Value.int.inj q) (by decide)))]; rfl)) k) ?_
    show Go p e below Φ T54 (mkF m 199 #[.val (.int i0), .val (.ref b1), .val (.ref b32), .val (.int (6 : Int32))] [])
    refine Go.of (fun t k => XS.iconst X54.here hx rfl (hb hby at_199) k) ?_
    show Go p e below Φ T54 (mkF m 200 #[.val (.int i0), .val (.ref b1), .val (.ref b32), .val (.int (6 : Int32))] [(.int (1 : Int32))])
    refine Go.of (fun t k => XS.goto X54.here hx rfl (pc0 := 200) (pc' := 204) rfl (hb hby at_200) (by decide) (by decide) k) ?_
    show Go p e below Φ T54 (mkF m 204 #[.val (.int i0), .val (.ref b1), .val (.ref b32), .val (.int (6 : Int32))] [(.int (1 : Int32))])
    rw [hΦ]
    refine Go.ret X54 hx Bd.notSynchronized Bd.returns rfl (Or.inl ⟨rfl, Or.inr (Or.inl rfl), _, rfl⟩) (hb hby at_204) (by decide) (by decide) ?_
    rw [(e54q)]
    exact ⟨rfl, N54⟩
  · rw [hk]
    show Go p e below Φ T47 (mkF m 187 #[.val (.int i0), .val (.ref b1), .val (.ref b32), .val (.int (7 : Int32))] [])
    refine Go.of (fun t k => XS.aloadN X47.here hx rfl (hb hby at_187) rfl rfl  k) ?_
    show Go p e below Φ T47 (mkF m 188 #[.val (.int i0), .val (.ref b1), .val (.ref b32), .val (.int (7 : Int32))] [(.ref b1)])
    refine Go.of (fun t k => XS.iloadN X47.here hx rfl (hb hby at_188) rfl  k) ?_
    show Go p e below Φ T47 (mkF m 189 #[.val (.int i0), .val (.ref b1), .val (.ref b32), .val (.int (7 : Int32))] [(.int (7 : Int32)), (.ref b1)])
    obtain ⟨cl189, Ar189, q189, S189, N189, H189, G189⟩ := id V_b1
    have hin189 : ¬ ((7 : Int32) < 0 ∨ cl189.slots.size ≤ ((7 : Int32)).toNatClampNeg) := inb_of S189 ⟨by decide, by decide⟩
    have hat189 : cl189.slots[((7 : Int32)).toNatClampNeg]? = some (.ref s7) := H189.at hin189 rfl
    refine Go.of (fun t k => X47.aaload hx (j := (7 : Int32)) (v := (.ref s7)) (by rw [e47]; exact Ar189.1) (State.isArrayOf_alike hZ.alike Ar189.2.1) rfl Ar189.2.2 hin189 hat189 (g := (mkF m 189 #[.val (.int i0), .val (.ref b1), .val (.ref b32), .val (.int (7 : Int32))] [(.int (7 : Int32)), (.ref b1)])) rfl rfl (hb hby at_189) t k) ?_
    show Go p e below Φ T47 (mkF m 190 #[.val (.int i0), .val (.ref b1), .val (.ref b32), .val (.int (7 : Int32))] [(.ref s7)])
    obtain ⟨cq55, kq55, q55a, q55b, q55c⟩ := isOf hZ e47 (E_s7.ext O47.2)
    obtain ⟨_, _, ⟨T55, L55, k55, n55⟩, -, X55, ⟨Lc55, hQ55, l55, y55, z55⟩, st55⟩ := X47.virtualBack hx (y := (⟨"com/example/millrace/millrace/io/Command", "escapesHeaders", "()Z"⟩ : MethodName)) (z := (⟨"com/example/millrace/millrace/io/Command", "escapesHeaders", "()Z"⟩ : MethodName)) hown (mvT hZ (hw _ (List.mem_of_getElem? (i := 36) rfl))) (mvT hZ (hw _ (List.mem_of_getElem? (i := 37) rfl))) (notFace_of_selects (args := #[]) (mvT hZ (hw _ (List.mem_of_getElem? (i := 39) rfl)))) (mvT hZ (hw _ (List.mem_of_getElem? (i := 39) rfl))) (mvT hZ (hw _ (List.mem_of_getElem? (i := 38) rfl))) (by decide) (backOf (W := 0) (rm1 l Z a0 hw [] s7 s0 s11 h47 n0 Z47 (S_CONNECT.ext O47.2) (S_CONNECTED.ext O47.2)) hZ (hw _ (List.mem_of_getElem? (i := 40) rfl)) (hw _ (List.mem_of_getElem? (i := 3) rfl)) (by decide) (by decide)) q55a q55c (g := (mkF m 190 #[.val (.int i0), .val (.ref b1), .val (.ref b32), .val (.int (7 : Int32))] [(.ref s7)])) rfl (by rw [hml]; rfl) (Steps.refl _) (argsL := []) (rest := []) (lenOf own_pd0 rfl) rfl (by show 2 * 0 + _ ≤ _; exact Nat.le_of_eq rfl) (hb hby at_190) (fun _ _ => ⟨rfl, e47, (by decide : 2 + 0 ≤ _), (by decide : 30 + 0 ≤ _)⟩)
    dsimp only [Pt.U, Pt.locs, Pt.cells, Pt.slots] at X55 l55 y55 z55 st55 hQ55
    subst l55 y55 z55
    obtain ⟨rfl, N55q, e55q⟩ := hQ55
    have N55 := Fr.app N47 N55q
    obtain ⟨lc55, X55, N55⟩ : ∃ lc, Stand p l e room_1 s m #[(.int i0)] below meth c T55 lc 2 30 ∧ Fr n0 lc := ⟨_, X55, N55⟩
    refine Go.tr st55 ?_
    show Go p e below Φ T55 (mkF m 193 #[.val (.int i0), .val (.ref b1), .val (.ref b32), .val (.int (7 : Int32))] [(.int (own_esc s7 s0 s11))])
    refine Go.of (fun t k => XS.aloadN X55.here hx rfl (hb hby at_193) rfl rfl  k) ?_
    show Go p e below Φ T55 (mkF m 194 #[.val (.int i0), .val (.ref b1), .val (.ref b32), .val (.int (7 : Int32))] [(.ref b32), (.int (own_esc s7 s0 s11))])
    refine Go.of (fun t k => XS.iloadN X55.here hx rfl (hb hby at_194) rfl  k) ?_
    show Go p e below Φ T55 (mkF m 195 #[.val (.int i0), .val (.ref b1), .val (.ref b32), .val (.int (7 : Int32))] [(.int (7 : Int32)), (.ref b32), (.int (own_esc s7 s0 s11))])
    obtain ⟨cl195, Ar195, q195, S195, N195, H195, G195⟩ := id V_b32
    have hin195 : ¬ ((7 : Int32) < 0 ∨ cl195.slots.size ≤ ((7 : Int32)).toNatClampNeg) := inb_of S195 ⟨by decide, by decide⟩
    have hat195 : cl195.slots[((7 : Int32)).toNatClampNeg]? = some (.int (nar .boolean (1 : Int32))) := H195.at hin195 rfl
    refine Go.of (fun t k => X55.baloadBooleans hx (j := (7 : Int32)) (v := (.int (nar .boolean (1 : Int32)))) (by rw [(e55q)]; exact Ar195.1) (State.isArrayOf_alike hZ.alike Ar195.2.1) Ar195.2.2 hin195 hat195 (g := (mkF m 195 #[.val (.int i0), .val (.ref b1), .val (.ref b32), .val (.int (7 : Int32))] [(.int (7 : Int32)), (.ref b32), (.int (own_esc s7 s0 s11))])) rfl rfl (hb hby at_195) t k) ?_
    show Go p e below Φ T55 (mkF m 196 #[.val (.int i0), .val (.ref b1), .val (.ref b32), .val (.int (7 : Int32))] [(.int (nar .boolean (1 : Int32))), (.int (own_esc s7 s0 s11))])
    refine Go.of (fun t k => XS.icmpNo X55.here hx rfl (hb hby at_196) rfl (XT.ii_ne_f (by rw [own_esc, if_neg (F_s7_ordinal.ne F_s0_ordinal (fun q => absurd (Value.int.inj q) (by decide))), if_neg (F_s7_ordinal.ne F_s11_ordinal (fun q => absurd (Value.int.inj q) (by decide)))]; rfl)) k) ?_
    show Go p e below Φ T55 (mkF m 199 #[.val (.int i0), .val (.ref b1), .val (.ref b32), .val (.int (7 : Int32))] [])
    refine Go.of (fun t k => XS.iconst X55.here hx rfl (hb hby at_199) k) ?_
    show Go p e below Φ T55 (mkF m 200 #[.val (.int i0), .val (.ref b1), .val (.ref b32), .val (.int (7 : Int32))] [(.int (1 : Int32))])
    refine Go.of (fun t k => XS.goto X55.here hx rfl (pc0 := 200) (pc' := 204) rfl (hb hby at_200) (by decide) (by decide) k) ?_
    show Go p e below Φ T55 (mkF m 204 #[.val (.int i0), .val (.ref b1), .val (.ref b32), .val (.int (7 : Int32))] [(.int (1 : Int32))])
    rw [hΦ]
    refine Go.ret X55 hx Bd.notSynchronized Bd.returns rfl (Or.inl ⟨rfl, Or.inr (Or.inl rfl), _, rfl⟩) (hb hby at_204) (by decide) (by decide) ?_
    rw [(e55q)]
    exact ⟨rfl, N55⟩
  · rw [hk]
    show Go p e below Φ T47 (mkF m 187 #[.val (.int i0), .val (.ref b1), .val (.ref b32), .val (.int (8 : Int32))] [])
    refine Go.of (fun t k => XS.aloadN X47.here hx rfl (hb hby at_187) rfl rfl  k) ?_
    show Go p e below Φ T47 (mkF m 188 #[.val (.int i0), .val (.ref b1), .val (.ref b32), .val (.int (8 : Int32))] [(.ref b1)])
    refine Go.of (fun t k => XS.iloadN X47.here hx rfl (hb hby at_188) rfl  k) ?_
    show Go p e below Φ T47 (mkF m 189 #[.val (.int i0), .val (.ref b1), .val (.ref b32), .val (.int (8 : Int32))] [(.int (8 : Int32)), (.ref b1)])
    obtain ⟨cl189, Ar189, q189, S189, N189, H189, G189⟩ := id V_b1
    have hin189 : ¬ ((8 : Int32) < 0 ∨ cl189.slots.size ≤ ((8 : Int32)).toNatClampNeg) := inb_of S189 ⟨by decide, by decide⟩
    have hat189 : cl189.slots[((8 : Int32)).toNatClampNeg]? = some (.ref s8) := H189.at hin189 rfl
    refine Go.of (fun t k => X47.aaload hx (j := (8 : Int32)) (v := (.ref s8)) (by rw [e47]; exact Ar189.1) (State.isArrayOf_alike hZ.alike Ar189.2.1) rfl Ar189.2.2 hin189 hat189 (g := (mkF m 189 #[.val (.int i0), .val (.ref b1), .val (.ref b32), .val (.int (8 : Int32))] [(.int (8 : Int32)), (.ref b1)])) rfl rfl (hb hby at_189) t k) ?_
    show Go p e below Φ T47 (mkF m 190 #[.val (.int i0), .val (.ref b1), .val (.ref b32), .val (.int (8 : Int32))] [(.ref s8)])
    obtain ⟨cq56, kq56, q56a, q56b, q56c⟩ := isOf hZ e47 (E_s8.ext O47.2)
    obtain ⟨_, _, ⟨T56, L56, k56, n56⟩, -, X56, ⟨Lc56, hQ56, l56, y56, z56⟩, st56⟩ := X47.virtualBack hx (y := (⟨"com/example/millrace/millrace/io/Command", "escapesHeaders", "()Z"⟩ : MethodName)) (z := (⟨"com/example/millrace/millrace/io/Command", "escapesHeaders", "()Z"⟩ : MethodName)) hown (mvT hZ (hw _ (List.mem_of_getElem? (i := 36) rfl))) (mvT hZ (hw _ (List.mem_of_getElem? (i := 37) rfl))) (notFace_of_selects (args := #[]) (mvT hZ (hw _ (List.mem_of_getElem? (i := 39) rfl)))) (mvT hZ (hw _ (List.mem_of_getElem? (i := 39) rfl))) (mvT hZ (hw _ (List.mem_of_getElem? (i := 38) rfl))) (by decide) (backOf (W := 0) (rm1 l Z a0 hw [] s8 s0 s11 h47 n0 Z47 (S_CONNECT.ext O47.2) (S_CONNECTED.ext O47.2)) hZ (hw _ (List.mem_of_getElem? (i := 40) rfl)) (hw _ (List.mem_of_getElem? (i := 3) rfl)) (by decide) (by decide)) q56a q56c (g := (mkF m 190 #[.val (.int i0), .val (.ref b1), .val (.ref b32), .val (.int (8 : Int32))] [(.ref s8)])) rfl (by rw [hml]; rfl) (Steps.refl _) (argsL := []) (rest := []) (lenOf own_pd0 rfl) rfl (by show 2 * 0 + _ ≤ _; exact Nat.le_of_eq rfl) (hb hby at_190) (fun _ _ => ⟨rfl, e47, (by decide : 2 + 0 ≤ _), (by decide : 30 + 0 ≤ _)⟩)
    dsimp only [Pt.U, Pt.locs, Pt.cells, Pt.slots] at X56 l56 y56 z56 st56 hQ56
    subst l56 y56 z56
    obtain ⟨rfl, N56q, e56q⟩ := hQ56
    have N56 := Fr.app N47 N56q
    obtain ⟨lc56, X56, N56⟩ : ∃ lc, Stand p l e room_1 s m #[(.int i0)] below meth c T56 lc 2 30 ∧ Fr n0 lc := ⟨_, X56, N56⟩
    refine Go.tr st56 ?_
    show Go p e below Φ T56 (mkF m 193 #[.val (.int i0), .val (.ref b1), .val (.ref b32), .val (.int (8 : Int32))] [(.int (own_esc s8 s0 s11))])
    refine Go.of (fun t k => XS.aloadN X56.here hx rfl (hb hby at_193) rfl rfl  k) ?_
    show Go p e below Φ T56 (mkF m 194 #[.val (.int i0), .val (.ref b1), .val (.ref b32), .val (.int (8 : Int32))] [(.ref b32), (.int (own_esc s8 s0 s11))])
    refine Go.of (fun t k => XS.iloadN X56.here hx rfl (hb hby at_194) rfl  k) ?_
    show Go p e below Φ T56 (mkF m 195 #[.val (.int i0), .val (.ref b1), .val (.ref b32), .val (.int (8 : Int32))] [(.int (8 : Int32)), (.ref b32), (.int (own_esc s8 s0 s11))])
    obtain ⟨cl195, Ar195, q195, S195, N195, H195, G195⟩ := id V_b32
    have hin195 : ¬ ((8 : Int32) < 0 ∨ cl195.slots.size ≤ ((8 : Int32)).toNatClampNeg) := inb_of S195 ⟨by decide, by decide⟩
    have hat195 : cl195.slots[((8 : Int32)).toNatClampNeg]? = some (.int (nar .boolean (1 : Int32))) := H195.at hin195 rfl
    refine Go.of (fun t k => X56.baloadBooleans hx (j := (8 : Int32)) (v := (.int (nar .boolean (1 : Int32)))) (by rw [(e56q)]; exact Ar195.1) (State.isArrayOf_alike hZ.alike Ar195.2.1) Ar195.2.2 hin195 hat195 (g := (mkF m 195 #[.val (.int i0), .val (.ref b1), .val (.ref b32), .val (.int (8 : Int32))] [(.int (8 : Int32)), (.ref b32), (.int (own_esc s8 s0 s11))])) rfl rfl (hb hby at_195) t k) ?_
    show Go p e below Φ T56 (mkF m 196 #[.val (.int i0), .val (.ref b1), .val (.ref b32), .val (.int (8 : Int32))] [(.int (nar .boolean (1 : Int32))), (.int (own_esc s8 s0 s11))])
    refine Go.of (fun t k => XS.icmpNo X56.here hx rfl (hb hby at_196) rfl (XT.ii_ne_f (by rw [own_esc, if_neg (F_s8_ordinal.ne F_s0_ordinal (fun q => absurd (Value.int.inj q) (by decide))), if_neg (F_s8_ordinal.ne F_s11_ordinal (fun q => absurd (Value.int.inj q) (by decide)))]; rfl)) k) ?_
    show Go p e below Φ T56 (mkF m 199 #[.val (.int i0), .val (.ref b1), .val (.ref b32), .val (.int (8 : Int32))] [])
    refine Go.of (fun t k => XS.iconst X56.here hx rfl (hb hby at_199) k) ?_
    show Go p e below Φ T56 (mkF m 200 #[.val (.int i0), .val (.ref b1), .val (.ref b32), .val (.int (8 : Int32))] [(.int (1 : Int32))])
    refine Go.of (fun t k => XS.goto X56.here hx rfl (pc0 := 200) (pc' := 204) rfl (hb hby at_200) (by decide) (by decide) k) ?_
    show Go p e below Φ T56 (mkF m 204 #[.val (.int i0), .val (.ref b1), .val (.ref b32), .val (.int (8 : Int32))] [(.int (1 : Int32))])
    rw [hΦ]
    refine Go.ret X56 hx Bd.notSynchronized Bd.returns rfl (Or.inl ⟨rfl, Or.inr (Or.inl rfl), _, rfl⟩) (hb hby at_204) (by decide) (by decide) ?_
    rw [(e56q)]
    exact ⟨rfl, N56⟩
  · rw [hk]
    show Go p e below Φ T47 (mkF m 187 #[.val (.int i0), .val (.ref b1), .val (.ref b32), .val (.int (9 : Int32))] [])
    refine Go.of (fun t k => XS.aloadN X47.here hx rfl (hb hby at_187) rfl rfl  k) ?_
    show Go p e below Φ T47 (mkF m 188 #[.val (.int i0), .val (.ref b1), .val (.ref b32), .val (.int (9 : Int32))] [(.ref b1)])
    refine Go.of (fun t k => XS.iloadN X47.here hx rfl (hb hby at_188) rfl  k) ?_
    show Go p e below Φ T47 (mkF m 189 #[.val (.int i0), .val (.ref b1), .val (.ref b32), .val (.int (9 : Int32))] [(.int (9 : Int32)), (.ref b1)])
    obtain ⟨cl189, Ar189, q189, S189, N189, H189, G189⟩ := id V_b1
    have hin189 : ¬ ((9 : Int32) < 0 ∨ cl189.slots.size ≤ ((9 : Int32)).toNatClampNeg) := inb_of S189 ⟨by decide, by decide⟩
    have hat189 : cl189.slots[((9 : Int32)).toNatClampNeg]? = some (.ref s9) := H189.at hin189 rfl
    refine Go.of (fun t k => X47.aaload hx (j := (9 : Int32)) (v := (.ref s9)) (by rw [e47]; exact Ar189.1) (State.isArrayOf_alike hZ.alike Ar189.2.1) rfl Ar189.2.2 hin189 hat189 (g := (mkF m 189 #[.val (.int i0), .val (.ref b1), .val (.ref b32), .val (.int (9 : Int32))] [(.int (9 : Int32)), (.ref b1)])) rfl rfl (hb hby at_189) t k) ?_
    show Go p e below Φ T47 (mkF m 190 #[.val (.int i0), .val (.ref b1), .val (.ref b32), .val (.int (9 : Int32))] [(.ref s9)])
    obtain ⟨cq57, kq57, q57a, q57b, q57c⟩ := isOf hZ e47 (E_s9.ext O47.2)
    obtain ⟨_, _, ⟨T57, L57, k57, n57⟩, -, X57, ⟨Lc57, hQ57, l57, y57, z57⟩, st57⟩ := X47.virtualBack hx (y := (⟨"com/example/millrace/millrace/io/Command", "escapesHeaders", "()Z"⟩ : MethodName)) (z := (⟨"com/example/millrace/millrace/io/Command", "escapesHeaders", "()Z"⟩ : MethodName)) hown (mvT hZ (hw _ (List.mem_of_getElem? (i := 36) rfl))) (mvT hZ (hw _ (List.mem_of_getElem? (i := 37) rfl))) (notFace_of_selects (args := #[]) (mvT hZ (hw _ (List.mem_of_getElem? (i := 39) rfl)))) (mvT hZ (hw _ (List.mem_of_getElem? (i := 39) rfl))) (mvT hZ (hw _ (List.mem_of_getElem? (i := 38) rfl))) (by decide) (backOf (W := 0) (rm1 l Z a0 hw [] s9 s0 s11 h47 n0 Z47 (S_CONNECT.ext O47.2) (S_CONNECTED.ext O47.2)) hZ (hw _ (List.mem_of_getElem? (i := 40) rfl)) (hw _ (List.mem_of_getElem? (i := 3) rfl)) (by decide) (by decide)) q57a q57c (g := (mkF m 190 #[.val (.int i0), .val (.ref b1), .val (.ref b32), .val (.int (9 : Int32))] [(.ref s9)])) rfl (by rw [hml]; rfl) (Steps.refl _) (argsL := []) (rest := []) (lenOf own_pd0 rfl) rfl (by show 2 * 0 + _ ≤ _; exact Nat.le_of_eq rfl) (hb hby at_190) (fun _ _ => ⟨rfl, e47, (by decide : 2 + 0 ≤ _), (by decide : 30 + 0 ≤ _)⟩)
    dsimp only [Pt.U, Pt.locs, Pt.cells, Pt.slots] at X57 l57 y57 z57 st57 hQ57
    subst l57 y57 z57
    obtain ⟨rfl, N57q, e57q⟩ := hQ57
    have N57 := Fr.app N47 N57q
    obtain ⟨lc57, X57, N57⟩ : ∃ lc, Stand p l e room_1 s m #[(.int i0)] below meth c T57 lc 2 30 ∧ Fr n0 lc := ⟨_, X57, N57⟩
    refine Go.tr st57 ?_
    show Go p e below Φ T57 (mkF m 193 #[.val (.int i0), .val (.ref b1), .val (.ref b32), .val (.int (9 : Int32))] [(.int (own_esc s9 s0 s11))])
    refine Go.of (fun t k => XS.aloadN X57.here hx rfl (hb hby at_193) rfl rfl  k) ?_
    show Go p e below Φ T57 (mkF m 194 #[.val (.int i0), .val (.ref b1), .val (.ref b32), .val (.int (9 : Int32))] [(.ref b32), (.int (own_esc s9 s0 s11))])
    refine Go.of (fun t k => XS.iloadN X57.here hx rfl (hb hby at_194) rfl  k) ?_
    show Go p e below Φ T57 (mkF m 195 #[.val (.int i0), .val (.ref b1), .val (.ref b32), .val (.int (9 : Int32))] [(.int (9 : Int32)), (.ref b32), (.int (own_esc s9 s0 s11))])
    obtain ⟨cl195, Ar195, q195, S195, N195, H195, G195⟩ := id V_b32
    have hin195 : ¬ ((9 : Int32) < 0 ∨ cl195.slots.size ≤ ((9 : Int32)).toNatClampNeg) := inb_of S195 ⟨by decide, by decide⟩
    have hat195 : cl195.slots[((9 : Int32)).toNatClampNeg]? = some (.int (nar .boolean (1 : Int32))) := H195.at hin195 rfl
    refine Go.of (fun t k => X57.baloadBooleans hx (j := (9 : Int32)) (v := (.int (nar .boolean (1 : Int32)))) (by rw [(e57q)]; exact Ar195.1) (State.isArrayOf_alike hZ.alike Ar195.2.1) Ar195.2.2 hin195 hat195 (g := (mkF m 195 #[.val (.int i0), .val (.ref b1), .val (.ref b32), .val (.int (9 : Int32))] [(.int (9 : Int32)), (.ref b32), (.int (own_esc s9 s0 s11))])) rfl rfl (hb hby at_195) t k) ?_
    show Go p e below Φ T57 (mkF m 196 #[.val (.int i0), .val (.ref b1), .val (.ref b32), .val (.int (9 : Int32))] [(.int (nar .boolean (1 : Int32))), (.int (own_esc s9 s0 s11))])
    refine Go.of (fun t k => XS.icmpNo X57.here hx rfl (hb hby at_196) rfl (XT.ii_ne_f (by rw [own_esc, if_neg (F_s9_ordinal.ne F_s0_ordinal (fun q => absurd (Value.int.inj q) (by decide))), if_neg (F_s9_ordinal.ne F_s11_ordinal (fun q => absurd (Value.int.inj q) (by decide)))]; rfl)) k) ?_
    show Go p e below Φ T57 (mkF m 199 #[.val (.int i0), .val (.ref b1), .val (.ref b32), .val (.int (9 : Int32))] [])
    refine Go.of (fun t k => XS.iconst X57.here hx rfl (hb hby at_199) k) ?_
    show Go p e below Φ T57 (mkF m 200 #[.val (.int i0), .val (.ref b1), .val (.ref b32), .val (.int (9 : Int32))] [(.int (1 : Int32))])
    refine Go.of (fun t k => XS.goto X57.here hx rfl (pc0 := 200) (pc' := 204) rfl (hb hby at_200) (by decide) (by decide) k) ?_
    show Go p e below Φ T57 (mkF m 204 #[.val (.int i0), .val (.ref b1), .val (.ref b32), .val (.int (9 : Int32))] [(.int (1 : Int32))])
    rw [hΦ]
    refine Go.ret X57 hx Bd.notSynchronized Bd.returns rfl (Or.inl ⟨rfl, Or.inr (Or.inl rfl), _, rfl⟩) (hb hby at_204) (by decide) (by decide) ?_
    rw [(e57q)]
    exact ⟨rfl, N57⟩
  · rw [hk]
    show Go p e below Φ T47 (mkF m 187 #[.val (.int i0), .val (.ref b1), .val (.ref b32), .val (.int (10 : Int32))] [])
    refine Go.of (fun t k => XS.aloadN X47.here hx rfl (hb hby at_187) rfl rfl  k) ?_
    show Go p e below Φ T47 (mkF m 188 #[.val (.int i0), .val (.ref b1), .val (.ref b32), .val (.int (10 : Int32))] [(.ref b1)])
    refine Go.of (fun t k => XS.iloadN X47.here hx rfl (hb hby at_188) rfl  k) ?_
    show Go p e below Φ T47 (mkF m 189 #[.val (.int i0), .val (.ref b1), .val (.ref b32), .val (.int (10 : Int32))] [(.int (10 : Int32)), (.ref b1)])
    obtain ⟨cl189, Ar189, q189, S189, N189, H189, G189⟩ := id V_b1
    have hin189 : ¬ ((10 : Int32) < 0 ∨ cl189.slots.size ≤ ((10 : Int32)).toNatClampNeg) := inb_of S189 ⟨by decide, by decide⟩
    have hat189 : cl189.slots[((10 : Int32)).toNatClampNeg]? = some (.ref s10) := H189.at hin189 rfl
    refine Go.of (fun t k => X47.aaload hx (j := (10 : Int32)) (v := (.ref s10)) (by rw [e47]; exact Ar189.1) (State.isArrayOf_alike hZ.alike Ar189.2.1) rfl Ar189.2.2 hin189 hat189 (g := (mkF m 189 #[.val (.int i0), .val (.ref b1), .val (.ref b32), .val (.int (10 : Int32))] [(.int (10 : Int32)), (.ref b1)])) rfl rfl (hb hby at_189) t k) ?_
    show Go p e below Φ T47 (mkF m 190 #[.val (.int i0), .val (.ref b1), .val (.ref b32), .val (.int (10 : Int32))] [(.ref s10)])
    obtain ⟨cq58, kq58, q58a, q58b, q58c⟩ := isOf hZ e47 (E_s10.ext O47.2)
    obtain ⟨_, _, ⟨T58, L58, k58, n58⟩, -, X58, ⟨Lc58, hQ58, l58, y58, z58⟩, st58⟩ := X47.virtualBack hx (y := (⟨"com/example/millrace/millrace/io/Command", "escapesHeaders", "()Z"⟩ : MethodName)) (z := (⟨"com/example/millrace/millrace/io/Command", "escapesHeaders", "()Z"⟩ : MethodName)) hown (mvT hZ (hw _ (List.mem_of_getElem? (i := 36) rfl))) (mvT hZ (hw _ (List.mem_of_getElem? (i := 37) rfl))) (notFace_of_selects (args := #[]) (mvT hZ (hw _ (List.mem_of_getElem? (i := 39) rfl)))) (mvT hZ (hw _ (List.mem_of_getElem? (i := 39) rfl))) (mvT hZ (hw _ (List.mem_of_getElem? (i := 38) rfl))) (by decide) (backOf (W := 0) (rm1 l Z a0 hw [] s10 s0 s11 h47 n0 Z47 (S_CONNECT.ext O47.2) (S_CONNECTED.ext O47.2)) hZ (hw _ (List.mem_of_getElem? (i := 40) rfl)) (hw _ (List.mem_of_getElem? (i := 3) rfl)) (by decide) (by decide)) q58a q58c (g := (mkF m 190 #[.val (.int i0), .val (.ref b1), .val (.ref b32), .val (.int (10 : Int32))] [(.ref s10)])) rfl (by rw [hml]; rfl) (Steps.refl _) (argsL := []) (rest := []) (lenOf own_pd0 rfl) rfl (by show 2 * 0 + _ ≤ _; exact Nat.le_of_eq rfl) (hb hby at_190) (fun _ _ => ⟨rfl, e47, (by decide : 2 + 0 ≤ _), (by decide : 30 + 0 ≤ _)⟩)
    dsimp only [Pt.U, Pt.locs, Pt.cells, Pt.slots] at X58 l58 y58 z58 st58 hQ58
    subst l58 y58 z58
    obtain ⟨rfl, N58q, e58q⟩ := hQ58
    have N58 := Fr.app N47 N58q
    obtain ⟨lc58, X58, N58⟩ : ∃ lc, Stand p l e room_1 s m #[(.int i0)] below meth c T58 lc 2 30 ∧ Fr n0 lc := ⟨_, X58, N58⟩
    refine Go.tr st58 ?_
    show Go p e below Φ T58 (mkF m 193 #[.val (.int i0), .val (.ref b1), .val (.ref b32), .val (.int (10 : Int32))] [(.int (own_esc s10 s0 s11))])
    refine Go.of (fun t k => XS.aloadN X58.here hx rfl (hb hby at_193) rfl rfl  k) ?_
    show Go p e below Φ T58 (mkF m 194 #[.val (.int i0), .val (.ref b1), .val (.ref b32), .val (.int (10 : Int32))] [(.ref b32), (.int (own_esc s10 s0 s11))])
    refine Go.of (fun t k => XS.iloadN X58.here hx rfl (hb hby at_194) rfl  k) ?_
    show Go p e below Φ T58 (mkF m 195 #[.val (.int i0), .val (.ref b1), .val (.ref b32), .val (.int (10 : Int32))] [(.int (10 : Int32)), (.ref b32), (.int (own_esc s10 s0 s11))])
    obtain ⟨cl195, Ar195, q195, S195, N195, H195, G195⟩ := id V_b32
    have hin195 : ¬ ((10 : Int32) < 0 ∨ cl195.slots.size ≤ ((10 : Int32)).toNatClampNeg) := inb_of S195 ⟨by decide, by decide⟩
    have hat195 : cl195.slots[((10 : Int32)).toNatClampNeg]? = some (.int (nar .boolean (1 : Int32))) := H195.at hin195 rfl
    refine Go.of (fun t k => X58.baloadBooleans hx (j := (10 : Int32)) (v := (.int (nar .boolean (1 : Int32)))) (by rw [(e58q)]; exact Ar195.1) (State.isArrayOf_alike hZ.alike Ar195.2.1) Ar195.2.2 hin195 hat195 (g := (mkF m 195 #[.val (.int i0), .val (.ref b1), .val (.ref b32), .val (.int (10 : Int32))] [(.int (10 : Int32)), (.ref b32), (.int (own_esc s10 s0 s11))])) rfl rfl (hb hby at_195) t k) ?_
    show Go p e below Φ T58 (mkF m 196 #[.val (.int i0), .val (.ref b1), .val (.ref b32), .val (.int (10 : Int32))] [(.int (nar .boolean (1 : Int32))), (.int (own_esc s10 s0 s11))])
    refine Go.of (fun t k => XS.icmpNo X58.here hx rfl (hb hby at_196) rfl (XT.ii_ne_f (by rw [own_esc, if_neg (F_s10_ordinal.ne F_s0_ordinal (fun q => absurd (Value.int.inj q) (by decide))), if_neg (F_s10_ordinal.ne F_s11_ordinal (fun q => absurd (Value.int.inj q) (by decide)))]; rfl)) k) ?_
    show Go p e below Φ T58 (mkF m 199 #[.val (.int i0), .val (.ref b1), .val (.ref b32), .val (.int (10 : Int32))] [])
    refine Go.of (fun t k => XS.iconst X58.here hx rfl (hb hby at_199) k) ?_
    show Go p e below Φ T58 (mkF m 200 #[.val (.int i0), .val (.ref b1), .val (.ref b32), .val (.int (10 : Int32))] [(.int (1 : Int32))])
    refine Go.of (fun t k => XS.goto X58.here hx rfl (pc0 := 200) (pc' := 204) rfl (hb hby at_200) (by decide) (by decide) k) ?_
    show Go p e below Φ T58 (mkF m 204 #[.val (.int i0), .val (.ref b1), .val (.ref b32), .val (.int (10 : Int32))] [(.int (1 : Int32))])
    rw [hΦ]
    refine Go.ret X58 hx Bd.notSynchronized Bd.returns rfl (Or.inl ⟨rfl, Or.inr (Or.inl rfl), _, rfl⟩) (hb hby at_204) (by decide) (by decide) ?_
    rw [(e58q)]
    exact ⟨rfl, N58⟩
  · rw [hk]
    show Go p e below Φ T47 (mkF m 187 #[.val (.int i0), .val (.ref b1), .val (.ref b32), .val (.int (11 : Int32))] [])
    refine Go.of (fun t k => XS.aloadN X47.here hx rfl (hb hby at_187) rfl rfl  k) ?_
    show Go p e below Φ T47 (mkF m 188 #[.val (.int i0), .val (.ref b1), .val (.ref b32), .val (.int (11 : Int32))] [(.ref b1)])
    refine Go.of (fun t k => XS.iloadN X47.here hx rfl (hb hby at_188) rfl  k) ?_
    show Go p e below Φ T47 (mkF m 189 #[.val (.int i0), .val (.ref b1), .val (.ref b32), .val (.int (11 : Int32))] [(.int (11 : Int32)), (.ref b1)])
    obtain ⟨cl189, Ar189, q189, S189, N189, H189, G189⟩ := id V_b1
    have hin189 : ¬ ((11 : Int32) < 0 ∨ cl189.slots.size ≤ ((11 : Int32)).toNatClampNeg) := inb_of S189 ⟨by decide, by decide⟩
    have hat189 : cl189.slots[((11 : Int32)).toNatClampNeg]? = some (.ref s11) := H189.at hin189 rfl
    refine Go.of (fun t k => X47.aaload hx (j := (11 : Int32)) (v := (.ref s11)) (by rw [e47]; exact Ar189.1) (State.isArrayOf_alike hZ.alike Ar189.2.1) rfl Ar189.2.2 hin189 hat189 (g := (mkF m 189 #[.val (.int i0), .val (.ref b1), .val (.ref b32), .val (.int (11 : Int32))] [(.int (11 : Int32)), (.ref b1)])) rfl rfl (hb hby at_189) t k) ?_
    show Go p e below Φ T47 (mkF m 190 #[.val (.int i0), .val (.ref b1), .val (.ref b32), .val (.int (11 : Int32))] [(.ref s11)])
    obtain ⟨cq59, kq59, q59a, q59b, q59c⟩ := isOf hZ e47 (E_s11.ext O47.2)
    obtain ⟨_, _, ⟨T59, L59, k59, n59⟩, -, X59, ⟨Lc59, hQ59, l59, y59, z59⟩, st59⟩ := X47.virtualBack hx (y := (⟨"com/example/millrace/millrace/io/Command", "escapesHeaders", "()Z"⟩ : MethodName)) (z := (⟨"com/example/millrace/millrace/io/Command", "escapesHeaders", "()Z"⟩ : MethodName)) hown (mvT hZ (hw _ (List.mem_of_getElem? (i := 36) rfl))) (mvT hZ (hw _ (List.mem_of_getElem? (i := 37) rfl))) (notFace_of_selects (args := #[]) (mvT hZ (hw _ (List.mem_of_getElem? (i := 39) rfl)))) (mvT hZ (hw _ (List.mem_of_getElem? (i := 39) rfl))) (mvT hZ (hw _ (List.mem_of_getElem? (i := 38) rfl))) (by decide) (backOf (W := 0) (rm1 l Z a0 hw [] s11 s0 s11 h47 n0 Z47 (S_CONNECT.ext O47.2) (S_CONNECTED.ext O47.2)) hZ (hw _ (List.mem_of_getElem? (i := 40) rfl)) (hw _ (List.mem_of_getElem? (i := 3) rfl)) (by decide) (by decide)) q59a q59c (g := (mkF m 190 #[.val (.int i0), .val (.ref b1), .val (.ref b32), .val (.int (11 : Int32))] [(.ref s11)])) rfl (by rw [hml]; rfl) (Steps.refl _) (argsL := []) (rest := []) (lenOf own_pd0 rfl) rfl (by show 2 * 0 + _ ≤ _; exact Nat.le_of_eq rfl) (hb hby at_190) (fun _ _ => ⟨rfl, e47, (by decide : 2 + 0 ≤ _), (by decide : 30 + 0 ≤ _)⟩)
    dsimp only [Pt.U, Pt.locs, Pt.cells, Pt.slots] at X59 l59 y59 z59 st59 hQ59
    subst l59 y59 z59
    obtain ⟨rfl, N59q, e59q⟩ := hQ59
    have N59 := Fr.app N47 N59q
    obtain ⟨lc59, X59, N59⟩ : ∃ lc, Stand p l e room_1 s m #[(.int i0)] below meth c T59 lc 2 30 ∧ Fr n0 lc := ⟨_, X59, N59⟩
    refine Go.tr st59 ?_
    show Go p e below Φ T59 (mkF m 193 #[.val (.int i0), .val (.ref b1), .val (.ref b32), .val (.int (11 : Int32))] [(.int (own_esc s11 s0 s11))])
    refine Go.of (fun t k => XS.aloadN X59.here hx rfl (hb hby at_193) rfl rfl  k) ?_
    show Go p e below Φ T59 (mkF m 194 #[.val (.int i0), .val (.ref b1), .val (.ref b32), .val (.int (11 : Int32))] [(.ref b32), (.int (own_esc s11 s0 s11))])
    refine Go.of (fun t k => XS.iloadN X59.here hx rfl (hb hby at_194) rfl  k) ?_
    show Go p e below Φ T59 (mkF m 195 #[.val (.int i0), .val (.ref b1), .val (.ref b32), .val (.int (11 : Int32))] [(.int (11 : Int32)), (.ref b32), (.int (own_esc s11 s0 s11))])
    obtain ⟨cl195, Ar195, q195, S195, N195, H195, G195⟩ := id V_b32
    have hin195 : ¬ ((11 : Int32) < 0 ∨ cl195.slots.size ≤ ((11 : Int32)).toNatClampNeg) := inb_of S195 ⟨by decide, by decide⟩
    have hat195 : cl195.slots[((11 : Int32)).toNatClampNeg]? = some (.int (nar .boolean (0 : Int32))) := H195.at hin195 rfl
    refine Go.of (fun t k => X59.baloadBooleans hx (j := (11 : Int32)) (v := (.int (nar .boolean (0 : Int32)))) (by rw [(e59q)]; exact Ar195.1) (State.isArrayOf_alike hZ.alike Ar195.2.1) Ar195.2.2 hin195 hat195 (g := (mkF m 195 #[.val (.int i0), .val (.ref b1), .val (.ref b32), .val (.int (11 : Int32))] [(.int (11 : Int32)), (.ref b32), (.int (own_esc s11 s0 s11))])) rfl rfl (hb hby at_195) t k) ?_
    show Go p e below Φ T59 (mkF m 196 #[.val (.int i0), .val (.ref b1), .val (.ref b32), .val (.int (11 : Int32))] [(.int (nar .boolean (0 : Int32))), (.int (own_esc s11 s0 s11))])
    refine Go.of (fun t k => XS.icmpNo X59.here hx rfl (hb hby at_196) rfl (XT.ii_ne_f (by rw [own_esc, if_neg (F_s11_ordinal.ne F_s0_ordinal (fun q => absurd (Value.int.inj q) (by decide))), if_pos rfl]; rfl)) k) ?_
    show Go p e below Φ T59 (mkF m 199 #[.val (.int i0), .val (.ref b1), .val (.ref b32), .val (.int (11 : Int32))] [])
    refine Go.of (fun t k => XS.iconst X59.here hx rfl (hb hby at_199) k) ?_
    show Go p e below Φ T59 (mkF m 200 #[.val (.int i0), .val (.ref b1), .val (.ref b32), .val (.int (11 : Int32))] [(.int (1 : Int32))])
    refine Go.of (fun t k => XS.goto X59.here hx rfl (pc0 := 200) (pc' := 204) rfl (hb hby at_200) (by decide) (by decide) k) ?_
    show Go p e below Φ T59 (mkF m 204 #[.val (.int i0), .val (.ref b1), .val (.ref b32), .val (.int (11 : Int32))] [(.int (1 : Int32))])
    rw [hΦ]
    refine Go.ret X59 hx Bd.notSynchronized Bd.returns rfl (Or.inl ⟨rfl, Or.inr (Or.inl rfl), _, rfl⟩) (hb hby at_204) (by decide) (by decide) ?_
    rw [(e59q)]
    exact ⟨rfl, N59⟩
  · rw [hk]
    show Go p e below Φ T47 (mkF m 187 #[.val (.int i0), .val (.ref b1), .val (.ref b32), .val (.int (12 : Int32))] [])
    refine Go.of (fun t k => XS.aloadN X47.here hx rfl (hb hby at_187) rfl rfl  k) ?_
    show Go p e below Φ T47 (mkF m 188 #[.val (.int i0), .val (.ref b1), .val (.ref b32), .val (.int (12 : Int32))] [(.ref b1)])
    refine Go.of (fun t k => XS.iloadN X47.here hx rfl (hb hby at_188) rfl  k) ?_
    show Go p e below Φ T47 (mkF m 189 #[.val (.int i0), .val (.ref b1), .val (.ref b32), .val (.int (12 : Int32))] [(.int (12 : Int32)), (.ref b1)])
    obtain ⟨cl189, Ar189, q189, S189, N189, H189, G189⟩ := id V_b1
    have hin189 : ¬ ((12 : Int32) < 0 ∨ cl189.slots.size ≤ ((12 : Int32)).toNatClampNeg) := inb_of S189 ⟨by decide, by decide⟩
    have hat189 : cl189.slots[((12 : Int32)).toNatClampNeg]? = some (.ref s12) := H189.at hin189 rfl
    refine Go.of (fun t k => X47.aaload hx (j := (12 : Int32)) (v := (.ref s12)) (by rw [e47]; exact Ar189.1) (State.isArrayOf_alike hZ.alike Ar189.2.1) rfl Ar189.2.2 hin189 hat189 (g := (mkF m 189 #[.val (.int i0), .val (.ref b1), .val (.ref b32), .val (.int (12 : Int32))] [(.int (12 : Int32)), (.ref b1)])) rfl rfl (hb hby at_189) t k) ?_
    show Go p e below Φ T47 (mkF m 190 #[.val (.int i0), .val (.ref b1), .val (.ref b32), .val (.int (12 : Int32))] [(.ref s12)])
    obtain ⟨cq60, kq60, q60a, q60b, q60c⟩ := isOf hZ e47 (E_s12.ext O47.2)
    obtain ⟨_, _, ⟨T60, L60, k60, n60⟩, -, X60, ⟨Lc60, hQ60, l60, y60, z60⟩, st60⟩ := X47.virtualBack hx (y := (⟨"com/example/millrace/millrace/io/Command", "escapesHeaders", "()Z"⟩ : MethodName)) (z := (⟨"com/example/millrace/millrace/io/Command", "escapesHeaders", "()Z"⟩ : MethodName)) hown (mvT hZ (hw _ (List.mem_of_getElem? (i := 36) rfl))) (mvT hZ (hw _ (List.mem_of_getElem? (i := 37) rfl))) (notFace_of_selects (args := #[]) (mvT hZ (hw _ (List.mem_of_getElem? (i := 39) rfl)))) (mvT hZ (hw _ (List.mem_of_getElem? (i := 39) rfl))) (mvT hZ (hw _ (List.mem_of_getElem? (i := 38) rfl))) (by decide) (backOf (W := 0) (rm1 l Z a0 hw [] s12 s0 s11 h47 n0 Z47 (S_CONNECT.ext O47.2) (S_CONNECTED.ext O47.2)) hZ (hw _ (List.mem_of_getElem? (i := 40) rfl)) (hw _ (List.mem_of_getElem? (i := 3) rfl)) (by decide) (by decide)) q60a q60c (g := (mkF m 190 #[.val (.int i0), .val (.ref b1), .val (.ref b32), .val (.int (12 : Int32))] [(.ref s12)])) rfl (by rw [hml]; rfl) (Steps.refl _) (argsL := []) (rest := []) (lenOf own_pd0 rfl) rfl (by show 2 * 0 + _ ≤ _; exact Nat.le_of_eq rfl) (hb hby at_190) (fun _ _ => ⟨rfl, e47, (by decide : 2 + 0 ≤ _), (by decide : 30 + 0 ≤ _)⟩)
    dsimp only [Pt.U, Pt.locs, Pt.cells, Pt.slots] at X60 l60 y60 z60 st60 hQ60
    subst l60 y60 z60
    obtain ⟨rfl, N60q, e60q⟩ := hQ60
    have N60 := Fr.app N47 N60q
    obtain ⟨lc60, X60, N60⟩ : ∃ lc, Stand p l e room_1 s m #[(.int i0)] below meth c T60 lc 2 30 ∧ Fr n0 lc := ⟨_, X60, N60⟩
    refine Go.tr st60 ?_
    show Go p e below Φ T60 (mkF m 193 #[.val (.int i0), .val (.ref b1), .val (.ref b32), .val (.int (12 : Int32))] [(.int (own_esc s12 s0 s11))])
    refine Go.of (fun t k => XS.aloadN X60.here hx rfl (hb hby at_193) rfl rfl  k) ?_
    show Go p e below Φ T60 (mkF m 194 #[.val (.int i0), .val (.ref b1), .val (.ref b32), .val (.int (12 : Int32))] [(.ref b32), (.int (own_esc s12 s0 s11))])
    refine Go.of (fun t k => XS.iloadN X60.here hx rfl (hb hby at_194) rfl  k) ?_
    show Go p e below Φ T60 (mkF m 195 #[.val (.int i0), .val (.ref b1), .val (.ref b32), .val (.int (12 : Int32))] [(.int (12 : Int32)), (.ref b32), (.int (own_esc s12 s0 s11))])
    obtain ⟨cl195, Ar195, q195, S195, N195, H195, G195⟩ := id V_b32
    have hin195 : ¬ ((12 : Int32) < 0 ∨ cl195.slots.size ≤ ((12 : Int32)).toNatClampNeg) := inb_of S195 ⟨by decide, by decide⟩
    have hat195 : cl195.slots[((12 : Int32)).toNatClampNeg]? = some (.int (nar .boolean (1 : Int32))) := H195.at hin195 rfl
    refine Go.of (fun t k => X60.baloadBooleans hx (j := (12 : Int32)) (v := (.int (nar .boolean (1 : Int32)))) (by rw [(e60q)]; exact Ar195.1) (State.isArrayOf_alike hZ.alike Ar195.2.1) Ar195.2.2 hin195 hat195 (g := (mkF m 195 #[.val (.int i0), .val (.ref b1), .val (.ref b32), .val (.int (12 : Int32))] [(.int (12 : Int32)), (.ref b32), (.int (own_esc s12 s0 s11))])) rfl rfl (hb hby at_195) t k) ?_
    show Go p e below Φ T60 (mkF m 196 #[.val (.int i0), .val (.ref b1), .val (.ref b32), .val (.int (12 : Int32))] [(.int (nar .boolean (1 : Int32))), (.int (own_esc s12 s0 s11))])
    refine Go.of (fun t k => XS.icmpNo X60.here hx rfl (hb hby at_196) rfl (XT.ii_ne_f (by rw [own_esc, if_neg (F_s12_ordinal.ne F_s0_ordinal (fun q => absurd (Value.int.inj q) (by decide))), if_neg (F_s12_ordinal.ne F_s11_ordinal (fun q => absurd (Value.int.inj q) (by decide)))]; rfl)) k) ?_
    show Go p e below Φ T60 (mkF m 199 #[.val (.int i0), .val (.ref b1), .val (.ref b32), .val (.int (12 : Int32))] [])
    refine Go.of (fun t k => XS.iconst X60.here hx rfl (hb hby at_199) k) ?_
    show Go p e below Φ T60 (mkF m 200 #[.val (.int i0), .val (.ref b1), .val (.ref b32), .val (.int (12 : Int32))] [(.int (1 : Int32))])
    refine Go.of (fun t k => XS.goto X60.here hx rfl (pc0 := 200) (pc' := 204) rfl (hb hby at_200) (by decide) (by decide) k) ?_
    show Go p e below Φ T60 (mkF m 204 #[.val (.int i0), .val (.ref b1), .val (.ref b32), .val (.int (12 : Int32))] [(.int (1 : Int32))])
    rw [hΦ]
    refine Go.ret X60 hx Bd.notSynchronized Bd.returns rfl (Or.inl ⟨rfl, Or.inr (Or.inl rfl), _, rfl⟩) (hb hby at_204) (by decide) (by decide) ?_
    rw [(e60q)]
    exact ⟨rfl, N60⟩
  · rw [hk]
    show Go p e below Φ T47 (mkF m 187 #[.val (.int i0), .val (.ref b1), .val (.ref b32), .val (.int (13 : Int32))] [])
    refine Go.of (fun t k => XS.aloadN X47.here hx rfl (hb hby at_187) rfl rfl  k) ?_
    show Go p e below Φ T47 (mkF m 188 #[.val (.int i0), .val (.ref b1), .val (.ref b32), .val (.int (13 : Int32))] [(.ref b1)])
    refine Go.of (fun t k => XS.iloadN X47.here hx rfl (hb hby at_188) rfl  k) ?_
    show Go p e below Φ T47 (mkF m 189 #[.val (.int i0), .val (.ref b1), .val (.ref b32), .val (.int (13 : Int32))] [(.int (13 : Int32)), (.ref b1)])
    obtain ⟨cl189, Ar189, q189, S189, N189, H189, G189⟩ := id V_b1
    have hin189 : ¬ ((13 : Int32) < 0 ∨ cl189.slots.size ≤ ((13 : Int32)).toNatClampNeg) := inb_of S189 ⟨by decide, by decide⟩
    have hat189 : cl189.slots[((13 : Int32)).toNatClampNeg]? = some (.ref s13) := H189.at hin189 rfl
    refine Go.of (fun t k => X47.aaload hx (j := (13 : Int32)) (v := (.ref s13)) (by rw [e47]; exact Ar189.1) (State.isArrayOf_alike hZ.alike Ar189.2.1) rfl Ar189.2.2 hin189 hat189 (g := (mkF m 189 #[.val (.int i0), .val (.ref b1), .val (.ref b32), .val (.int (13 : Int32))] [(.int (13 : Int32)), (.ref b1)])) rfl rfl (hb hby at_189) t k) ?_
    show Go p e below Φ T47 (mkF m 190 #[.val (.int i0), .val (.ref b1), .val (.ref b32), .val (.int (13 : Int32))] [(.ref s13)])
    obtain ⟨cq61, kq61, q61a, q61b, q61c⟩ := isOf hZ e47 (E_s13.ext O47.2)
    obtain ⟨_, _, ⟨T61, L61, k61, n61⟩, -, X61, ⟨Lc61, hQ61, l61, y61, z61⟩, st61⟩ := X47.virtualBack hx (y := (⟨"com/example/millrace/millrace/io/Command", "escapesHeaders", "()Z"⟩ : MethodName)) (z := (⟨"com/example/millrace/millrace/io/Command", "escapesHeaders", "()Z"⟩ : MethodName)) hown (mvT hZ (hw _ (List.mem_of_getElem? (i := 36) rfl))) (mvT hZ (hw _ (List.mem_of_getElem? (i := 37) rfl))) (notFace_of_selects (args := #[]) (mvT hZ (hw _ (List.mem_of_getElem? (i := 39) rfl)))) (mvT hZ (hw _ (List.mem_of_getElem? (i := 39) rfl))) (mvT hZ (hw _ (List.mem_of_getElem? (i := 38) rfl))) (by decide) (backOf (W := 0) (rm1 l Z a0 hw [] s13 s0 s11 h47 n0 Z47 (S_CONNECT.ext O47.2) (S_CONNECTED.ext O47.2)) hZ (hw _ (List.mem_of_getElem? (i := 40) rfl)) (hw _ (List.mem_of_getElem? (i := 3) rfl)) (by decide) (by decide)) q61a q61c (g := (mkF m 190 #[.val (.int i0), .val (.ref b1), .val (.ref b32), .val (.int (13 : Int32))] [(.ref s13)])) rfl (by rw [hml]; rfl) (Steps.refl _) (argsL := []) (rest := []) (lenOf own_pd0 rfl) rfl (by show 2 * 0 + _ ≤ _; exact Nat.le_of_eq rfl) (hb hby at_190) (fun _ _ => ⟨rfl, e47, (by decide : 2 + 0 ≤ _), (by decide : 30 + 0 ≤ _)⟩)
    dsimp only [Pt.U, Pt.locs, Pt.cells, Pt.slots] at X61 l61 y61 z61 st61 hQ61
    subst l61 y61 z61
    obtain ⟨rfl, N61q, e61q⟩ := hQ61
    have N61 := Fr.app N47 N61q
    obtain ⟨lc61, X61, N61⟩ : ∃ lc, Stand p l e room_1 s m #[(.int i0)] below meth c T61 lc 2 30 ∧ Fr n0 lc := ⟨_, X61, N61⟩
    refine Go.tr st61 ?_
    show Go p e below Φ T61 (mkF m 193 #[.val (.int i0), .val (.ref b1), .val (.ref b32), .val (.int (13 : Int32))] [(.int (own_esc s13 s0 s11))])
    refine Go.of (fun t k => XS.aloadN X61.here hx rfl (hb hby at_193) rfl rfl  k) ?_
    show Go p e below Φ T61 (mkF m 194 #[.val (.int i0), .val (.ref b1), .val (.ref b32), .val (.int (13 : Int32))] [(.ref b32), (.int (own_esc s13 s0 s11))])
    refine Go.of (fun t k => XS.iloadN X61.here hx rfl (hb hby at_194) rfl  k) ?_
    show Go p e below Φ T61 (mkF m 195 #[.val (.int i0), .val (.ref b1), .val (.ref b32), .val (.int (13 : Int32))] [(.int (13 : Int32)), (.ref b32), (.int (own_esc s13 s0 s11))])
    obtain ⟨cl195, Ar195, q195, S195, N195, H195, G195⟩ := id V_b32
    have hin195 : ¬ ((13 : Int32) < 0 ∨ cl195.slots.size ≤ ((13 : Int32)).toNatClampNeg) := inb_of S195 ⟨by decide, by decide⟩
    have hat195 : cl195.slots[((13 : Int32)).toNatClampNeg]? = some (.int (nar .boolean (1 : Int32))) := H195.at hin195 rfl
    refine Go.of (fun t k => X61.baloadBooleans hx (j := (13 : Int32)) (v := (.int (nar .boolean (1 : Int32)))) (by rw [(e61q)]; exact Ar195.1) (State.isArrayOf_alike hZ.alike Ar195.2.1) Ar195.2.2 hin195 hat195 (g := (mkF m 195 #[.val (.int i0), .val (.ref b1), .val (.ref b32), .val (.int (13 : Int32))] [(.int (13 : Int32)), (.ref b32), (.int (own_esc s13 s0 s11))])) rfl rfl (hb hby at_195) t k) ?_
    show Go p e below Φ T61 (mkF m 196 #[.val (.int i0), .val (.ref b1), .val (.ref b32), .val (.int (13 : Int32))] [(.int (nar .boolean (1 : Int32))), (.int (own_esc s13 s0 s11))])
    refine Go.of (fun t k => XS.icmpNo X61.here hx rfl (hb hby at_196) rfl (XT.ii_ne_f (by rw [own_esc, if_neg (F_s13_ordinal.ne F_s0_ordinal (fun q => absurd (Value.int.inj q) (by decide))), if_neg (F_s13_ordinal.ne F_s11_ordinal (fun q => absurd (Value.int.inj q) (by decide)))]; rfl)) k) ?_
    show Go p e below Φ T61 (mkF m 199 #[.val (.int i0), .val (.ref b1), .val (.ref b32), .val (.int (13 : Int32))] [])
    refine Go.of (fun t k => XS.iconst X61.here hx rfl (hb hby at_199) k) ?_
    show Go p e below Φ T61 (mkF m 200 #[.val (.int i0), .val (.ref b1), .val (.ref b32), .val (.int (13 : Int32))] [(.int (1 : Int32))])
    refine Go.of (fun t k => XS.goto X61.here hx rfl (pc0 := 200) (pc' := 204) rfl (hb hby at_200) (by decide) (by decide) k) ?_
    show Go p e below Φ T61 (mkF m 204 #[.val (.int i0), .val (.ref b1), .val (.ref b32), .val (.int (13 : Int32))] [(.int (1 : Int32))])
    rw [hΦ]
    refine Go.ret X61 hx Bd.notSynchronized Bd.returns rfl (Or.inl ⟨rfl, Or.inr (Or.inl rfl), _, rfl⟩) (hb hby at_204) (by decide) (by decide) ?_
    rw [(e61q)]
    exact ⟨rfl, N61⟩
  · rw [hk]
    show Go p e below Φ T47 (mkF m 187 #[.val (.int i0), .val (.ref b1), .val (.ref b32), .val (.int (14 : Int32))] [])
    refine Go.of (fun t k => XS.aloadN X47.here hx rfl (hb hby at_187) rfl rfl  k) ?_
    show Go p e below Φ T47 (mkF m 188 #[.val (.int i0), .val (.ref b1), .val (.ref b32), .val (.int (14 : Int32))] [(.ref b1)])
    refine Go.of (fun t k => XS.iloadN X47.here hx rfl (hb hby at_188) rfl  k) ?_
    show Go p e below Φ T47 (mkF m 189 #[.val (.int i0), .val (.ref b1), .val (.ref b32), .val (.int (14 : Int32))] [(.int (14 : Int32)), (.ref b1)])
    obtain ⟨cl189, Ar189, q189, S189, N189, H189, G189⟩ := id V_b1
    have hin189 : ¬ ((14 : Int32) < 0 ∨ cl189.slots.size ≤ ((14 : Int32)).toNatClampNeg) := inb_of S189 ⟨by decide, by decide⟩
    have hat189 : cl189.slots[((14 : Int32)).toNatClampNeg]? = some (.ref s14) := H189.at hin189 rfl
    refine Go.of (fun t k => X47.aaload hx (j := (14 : Int32)) (v := (.ref s14)) (by rw [e47]; exact Ar189.1) (State.isArrayOf_alike hZ.alike Ar189.2.1) rfl Ar189.2.2 hin189 hat189 (g := (mkF m 189 #[.val (.int i0), .val (.ref b1), .val (.ref b32), .val (.int (14 : Int32))] [(.int (14 : Int32)), (.ref b1)])) rfl rfl (hb hby at_189) t k) ?_
    show Go p e below Φ T47 (mkF m 190 #[.val (.int i0), .val (.ref b1), .val (.ref b32), .val (.int (14 : Int32))] [(.ref s14)])
    obtain ⟨cq62, kq62, q62a, q62b, q62c⟩ := isOf hZ e47 (E_s14.ext O47.2)
    obtain ⟨_, _, ⟨T62, L62, k62, n62⟩, -, X62, ⟨Lc62, hQ62, l62, y62, z62⟩, st62⟩ := X47.virtualBack hx (y := (⟨"com/example/millrace/millrace/io/Command", "escapesHeaders", "()Z"⟩ : MethodName)) (z := (⟨"com/example/millrace/millrace/io/Command", "escapesHeaders", "()Z"⟩ : MethodName)) hown (mvT hZ (hw _ (List.mem_of_getElem? (i := 36) rfl))) (mvT hZ (hw _ (List.mem_of_getElem? (i := 37) rfl))) (notFace_of_selects (args := #[]) (mvT hZ (hw _ (List.mem_of_getElem? (i := 39) rfl)))) (mvT hZ (hw _ (List.mem_of_getElem? (i := 39) rfl))) (mvT hZ (hw _ (List.mem_of_getElem? (i := 38) rfl))) (by decide) (backOf (W := 0) (rm1 l Z a0 hw [] s14 s0 s11 h47 n0 Z47 (S_CONNECT.ext O47.2) (S_CONNECTED.ext O47.2)) hZ (hw _ (List.mem_of_getElem? (i := 40) rfl)) (hw _ (List.mem_of_getElem? (i := 3) rfl)) (by decide) (by decide)) q62a q62c (g := (mkF m 190 #[.val (.int i0), .val (.ref b1), .val (.ref b32), .val (.int (14 : Int32))] [(.ref s14)])) rfl (by rw [hml]; rfl) (Steps.refl _) (argsL := []) (rest := []) (lenOf own_pd0 rfl) rfl (by show 2 * 0 + _ ≤ _; exact Nat.le_of_eq rfl) (hb hby at_190) (fun _ _ => ⟨rfl, e47, (by decide : 2 + 0 ≤ _), (by decide : 30 + 0 ≤ _)⟩)
    dsimp only [Pt.U, Pt.locs, Pt.cells, Pt.slots] at X62 l62 y62 z62 st62 hQ62
    subst l62 y62 z62
    obtain ⟨rfl, N62q, e62q⟩ := hQ62
    have N62 := Fr.app N47 N62q
    obtain ⟨lc62, X62, N62⟩ : ∃ lc, Stand p l e room_1 s m #[(.int i0)] below meth c T62 lc 2 30 ∧ Fr n0 lc := ⟨_, X62, N62⟩
    refine Go.tr st62 ?_
    show Go p e below Φ T62 (mkF m 193 #[.val (.int i0), .val (.ref b1), .val (.ref b32), .val (.int (14 : Int32))] [(.int (own_esc s14 s0 s11))])
    refine Go.of (fun t k => XS.aloadN X62.here hx rfl (hb hby at_193) rfl rfl  k) ?_
    show Go p e below Φ T62 (mkF m 194 #[.val (.int i0), .val (.ref b1), .val (.ref b32), .val (.int (14 : Int32))] [(.ref b32), (.int (own_esc s14 s0 s11))])
    refine Go.of (fun t k => XS.iloadN X62.here hx rfl (hb hby at_194) rfl  k) ?_
    show Go p e below Φ T62 (mkF m 195 #[.val (.int i0), .val (.ref b1), .val (.ref b32), .val (.int (14 : Int32))] [(.int (14 : Int32)), (.ref b32), (.int (own_esc s14 s0 s11))])
    obtain ⟨cl195, Ar195, q195, S195, N195, H195, G195⟩ := id V_b32
    have hin195 : ¬ ((14 : Int32) < 0 ∨ cl195.slots.size ≤ ((14 : Int32)).toNatClampNeg) := inb_of S195 ⟨by decide, by decide⟩
    have hat195 : cl195.slots[((14 : Int32)).toNatClampNeg]? = some (.int (nar .boolean (1 : Int32))) := H195.at hin195 rfl
    refine Go.of (fun t k => X62.baloadBooleans hx (j := (14 : Int32)) (v := (.int (nar .boolean (1 : Int32)))) (by rw [(e62q)]; exact Ar195.1) (State.isArrayOf_alike hZ.alike Ar195.2.1) Ar195.2.2 hin195 hat195 (g := (mkF m 195 #[.val (.int i0), .val (.ref b1), .val (.ref b32), .val (.int (14 : Int32))] [(.int (14 : Int32)), (.ref b32), (.int (own_esc s14 s0 s11))])) rfl rfl (hb hby at_195) t k) ?_
    show Go p e below Φ T62 (mkF m 196 #[.val (.int i0), .val (.ref b1), .val (.ref b32), .val (.int (14 : Int32))] [(.int (nar .boolean (1 : Int32))), (.int (own_esc s14 s0 s11))])
    refine Go.of (fun t k => XS.icmpNo X62.here hx rfl (hb hby at_196) rfl (XT.ii_ne_f (by rw [own_esc, if_neg (F_s14_ordinal.ne F_s0_ordinal (fun q => absurd (Value.int.inj q) (by decide))), if_neg (F_s14_ordinal.ne F_s11_ordinal (fun q => absurd (Value.int.inj q) (by decide)))]; rfl)) k) ?_
    show Go p e below Φ T62 (mkF m 199 #[.val (.int i0), .val (.ref b1), .val (.ref b32), .val (.int (14 : Int32))] [])
    refine Go.of (fun t k => XS.iconst X62.here hx rfl (hb hby at_199) k) ?_
    show Go p e below Φ T62 (mkF m 200 #[.val (.int i0), .val (.ref b1), .val (.ref b32), .val (.int (14 : Int32))] [(.int (1 : Int32))])
    refine Go.of (fun t k => XS.goto X62.here hx rfl (pc0 := 200) (pc' := 204) rfl (hb hby at_200) (by decide) (by decide) k) ?_
    show Go p e below Φ T62 (mkF m 204 #[.val (.int i0), .val (.ref b1), .val (.ref b32), .val (.int (14 : Int32))] [(.int (1 : Int32))])
    rw [hΦ]
    refine Go.ret X62 hx Bd.notSynchronized Bd.returns rfl (Or.inl ⟨rfl, Or.inr (Or.inl rfl), _, rfl⟩) (hb hby at_204) (by decide) (by decide) ?_
    rw [(e62q)]
    exact ⟨rfl, N62⟩
set_option maxRecDepth 65536 in
set_option maxHeartbeats 40000000 in
theorem comes_1 {Post : Tables → Env → Array Value → State → Outcome → State → Prop} (hpost : ∀ tb e args s v u, (limb_1_1.after args s (.returned v) u = true ∧ limb_1_2.after args s (.returned v) u = true ∧ True) → FrameEnd s (.returned v) u (Jvm.fieldLocs frame_1_writes args s ++ Jvm.arrayLocs frame_1_arrays args s ++ Jvm.staticLocs frame_1_statics s) 16 128 → Post tb e args s (.returned v) u) :
    ArmFor flags0 classFile x code maxLocals ret World_1 tables_1 room_1 Calls_1 rest_1 Pre_1 Post := by
  intro l hfl _ _ p e ha hc hk s m args below hf hA hF happ hP
  obtain ⟨hcalls, hrest, hpre⟩ := hP
  obtain ⟨-, -, -, hnamed, -, -, -, hat⟩ := (Spec.applies_iff hf).mp happ
  obtain ⟨hg, hn⟩ := and_e (Cond.before_iff.mp (show (Jvm.Cond.and given_1 narrow_1).before args s = true from hpre))
  obtain ⟨g1, g2⟩ := and_e hg
  obtain ⟨w0, rfl⟩ : ∃ w0 : Value, args = #[w0] := by
    have hs : args.size = 1 := by simpa [Cond.value, given_1] using g1
    obtain ⟨L⟩ := args
    match L, hs with
    | [w0], _ => exact ⟨w0, rfl⟩
  have hw := fun d (hd : d ∈ tables_1) => atoms_spec (ws := Jvm.Cond.code x code maxLocals ret :: tables_1) hat d (List.mem_cons_of_mem _ hd)
  have hfit : Fit s := fun {y c} hc i hi => by
    obtain ⟨ha, rfl⟩ := Array.getElem?_eq_some_iff.mp hc
    have q := List.all_eq_true.mp ((Array.all_eq_true_iff_forall_mem.mp hF) _ (Array.getElem_mem ha)) i (List.mem_range.mpr hi)
    simpa [Array.getElem?_eq_getElem hi] using q
  obtain ⟨i0, ei0⟩ := is_v g2
  obtain rfl : w0 = (.int i0) := Option.some.inj ei0
  obtain ⟨m1a, m1b⟩ := and_e hn
  obtain ⟨m2a, m2b⟩ := and_e m1b
  obtain ⟨m3a, m3b⟩ := and_e m2b
  obtain ⟨m4a, m4b⟩ := and_e m3b
  obtain ⟨m5a, m5b⟩ := and_e m4b
  obtain ⟨m6a, m6b⟩ := and_e m5b
  obtain ⟨m7a, m7b⟩ := and_e m6b
  obtain ⟨m8a, m8b⟩ := and_e m7b
  obtain ⟨m9a, m9b⟩ := and_e m8b
  obtain ⟨m10a, m10b⟩ := and_e m9b
  obtain ⟨m11a, m11b⟩ := and_e m10b
  obtain ⟨m12a, m12b⟩ := and_e m11b
  obtain ⟨m13a, m13b⟩ := and_e m12b
  obtain ⟨m14a, m14b⟩ := and_e m13b
  obtain ⟨m15a, m15b⟩ := and_e m14b
  obtain ⟨m16a, m16b⟩ := and_e m15b
  obtain ⟨m17a, m17b⟩ := and_e m16b
  obtain ⟨m18a, m18b⟩ := and_e m17b
  obtain ⟨m19a, m19b⟩ := and_e m18b
  obtain ⟨m20a, m20b⟩ := and_e m19b
  obtain ⟨m21a, m21b⟩ := and_e m20b
  obtain ⟨m22a, m22b⟩ := and_e m21b
  obtain ⟨m23a, m23b⟩ := and_e m22b
  obtain ⟨m24a, m24b⟩ := and_e m23b
  obtain ⟨m25a, m25b⟩ := and_e m24b
  obtain ⟨m26a, m26b⟩ := and_e m25b
  obtain ⟨m27a, m27b⟩ := and_e m26b
  obtain ⟨m28a, m28b⟩ := and_e m27b
  obtain ⟨m29a, m29b⟩ := and_e m28b
  obtain ⟨s0, es0⟩ := exa_v m1a
  obtain ⟨s1, es1⟩ := exa_v m2a
  obtain ⟨s2, es2⟩ := exa_v m3a
  obtain ⟨s3, es3⟩ := exa_v m4a
  obtain ⟨s4, es4⟩ := exa_v m5a
  obtain ⟨s5, es5⟩ := exa_v m6a
  obtain ⟨s6, es6⟩ := exa_v m7a
  obtain ⟨s7, es7⟩ := exa_v m8a
  obtain ⟨s8, es8⟩ := exa_v m9a
  obtain ⟨s9, es9⟩ := exa_v m10a
  obtain ⟨s10, es10⟩ := exa_v m11a
  obtain ⟨s11, es11⟩ := exa_v m12a
  obtain ⟨s12, es12⟩ := exa_v m13a
  obtain ⟨s13, es13⟩ := exa_v m14a
  obtain ⟨s14, es14⟩ := exa_v m15a
  obtain ⟨n, o, h1, h2, h3, _, L, rfl, ⟨rfl, N⟩, hq⟩ := rm0 l s _ hw tables_1 i0 s0 s1 s2 s3 s4 s5 s6 s7 s8 s9 s10 s11 s12 s13 s14 s.heap s.heap.size (Nat.le_refl _) (Old.start s) (Sta.start es0 (Or.inr ⟨(hw _ (List.mem_of_getElem? (i := 3) rfl)), (hw _ (List.mem_of_getElem? (i := 4) rfl))⟩)) (Sta.start es1 (Or.inr ⟨(hw _ (List.mem_of_getElem? (i := 3) rfl)), (hw _ (List.mem_of_getElem? (i := 7) rfl))⟩)) (Sta.start es2 (Or.inr ⟨(hw _ (List.mem_of_getElem? (i := 3) rfl)), (hw _ (List.mem_of_getElem? (i := 9) rfl))⟩)) (Sta.start es3 (Or.inr ⟨(hw _ (List.mem_of_getElem? (i := 3) rfl)), (hw _ (List.mem_of_getElem? (i := 11) rfl))⟩)) (Sta.start es4 (Or.inr ⟨(hw _ (List.mem_of_getElem? (i := 3) rfl)), (hw _ (List.mem_of_getElem? (i := 13) rfl))⟩)) (Sta.start es5 (Or.inr ⟨(hw _ (List.mem_of_getElem? (i := 3) rfl)), (hw _ (List.mem_of_getElem? (i := 15) rfl))⟩)) (Sta.start es6 (Or.inr ⟨(hw _ (List.mem_of_getElem? (i := 3) rfl)), (hw _ (List.mem_of_getElem? (i := 17) rfl))⟩)) (Sta.start es7 (Or.inr ⟨(hw _ (List.mem_of_getElem? (i := 3) rfl)), (hw _ (List.mem_of_getElem? (i := 19) rfl))⟩)) (Sta.start es8 (Or.inr ⟨(hw _ (List.mem_of_getElem? (i := 3) rfl)), (hw _ (List.mem_of_getElem? (i := 21) rfl))⟩)) (Sta.start es9 (Or.inr ⟨(hw _ (List.mem_of_getElem? (i := 3) rfl)), (hw _ (List.mem_of_getElem? (i := 23) rfl))⟩)) (Sta.start es10 (Or.inr ⟨(hw _ (List.mem_of_getElem? (i := 3) rfl)), (hw _ (List.mem_of_getElem? (i := 25) rfl))⟩)) (Sta.start es11 (Or.inr ⟨(hw _ (List.mem_of_getElem? (i := 3) rfl)), (hw _ (List.mem_of_getElem? (i := 27) rfl))⟩)) (Sta.start es12 (Or.inr ⟨(hw _ (List.mem_of_getElem? (i := 3) rfl)), (hw _ (List.mem_of_getElem? (i := 29) rfl))⟩)) (Sta.start es13 (Or.inr ⟨(hw _ (List.mem_of_getElem? (i := 3) rfl)), (hw _ (List.mem_of_getElem? (i := 31) rfl))⟩)) (Sta.start es14 (Or.inr ⟨(hw _ (List.mem_of_getElem? (i := 3) rfl)), (hw _ (List.mem_of_getElem? (i := 33) rfl))⟩)) (Exa.start es0 m1a) (Exa.start es1 m2a) (Exa.start es2 m3a) (Exa.start es3 m4a) (Exa.start es4 m5a) (Exa.start es5 m6a) (Exa.start es6 m7a) (Exa.start es7 m8a) (Exa.start es8 m9a) (Exa.start es9 m10a) (Exa.start es10 m11a) (Exa.start es11 m12a) (Exa.start es12 m13a) (Exa.start es13 m14a) (Exa.start es14 m15a) (own_fldI es0 m17a) (own_fldI es1 m27a) (own_fldI es2 m24a) (own_fldI es3 m16a) (own_fldI es4 m29a) (own_fldI es5 m19a) (own_fldI es6 m21a) (own_fldI es7 m23a) (own_fldI es8 m26a) (own_fldI es9 m29b) (own_fldI es10 m25a) (own_fldI es11 m18a) (own_fldI es12 m28a) (own_fldI es13 m20a) (own_fldI es14 m22a) p e ha hc hk s m _ below hf ((Spec.applies_iff_loose hf).mp happ).1 ⟨rfl, State.Warmed39.refl s, rfl⟩ trivial
  refine ⟨n, _, h1, h2, h3, hpost _ _ _ _ _ _ ⟨Cond.after_iff.mpr rfl, Cond.after_iff.mpr (eq_i res_at (Term.int_eval (1)) rfl), trivial⟩ ⟨hq.1, hq.2.1, (hq.2.2.sift fun y hy => Or.inr (N y hy)).mono (by decide) (by decide)⟩⟩
theorem main_1_1 : Claimed_1_1 := comes_1 fun _ _ _ _ _ _ h hF => ⟨h.1, hF⟩
theorem main_1_2 : Claimed_1_2 := comes_1 fun _ _ _ _ _ _ h hF => ⟨h.2.1, hF⟩
end Jvm.Pilot.@@N@@
namespace Jvm.Pilot.@@N@@
open Jvm Jvm.ClassFile Sem Op Lib Jvm.Free Jvm.Stand Jvm.Pilot.@@N@@.Jvm.D
/-! MADE BY PROGRAM (witnessworld.py) out of the Statement's table words and the real class files: 15 classes; the members and pool entries that the words name. The judged class is class 1, her method 1. -/
namespace start1
open Jvm.ClassFile
def u (s : String) : CpInfo := .utf8 (stringToUtf16 s)
/-- a pool by its gaps: so many unusable entries, then the entry; so many at the end -/
def gap : Nat → List CpInfo → List CpInfo
  | 0, r => r
  | n + 1, r => .unusable :: gap n r
def poolList (es : List (Nat × CpInfo)) (last : Nat) : List CpInfo := es.foldr (fun e r => gap e.1 (e.2 :: r)) (gap last [])
def pool (es : List (Nat × CpInfo)) (last : Nat) : Array CpInfo := ⟨poolList es last⟩
def fileOf (pool : Array CpInfo) (this : Nat) (attrs : Array Attribute := #[]) (ms : Array MethodInfo := #[]) (fl : Nat := 33) (sup : Nat := 0) (ifs : Array Nat := #[]) (fds : Array FieldInfo := #[]) : ClassFile where
  minorVersion := 0
  majorVersion := 65
  constantPool := pool
  accessFlags := fl
  thisClass := this
  superClass := sup
  interfaces := ifs
  fields := fds
  methods := ms
  attributes := attrs
def plain (name : String) (sup : Option ClassId) : Class where
  name := name
  kind := .ordinary
  loader := none
  accessFlags := 33
  super := sup
  interfaces := #[]
  cf := none
  fields := #[]
  methods := #[]
  instanceTypes := #[]
  staticTypes := #[]
  resolved := #[]
  callSites := []
  init := .initialized
  statics := none
  mirror := none

def pool0 : Array CpInfo := pool [(5, u "<init>"), (0, u "()V"), (1, .class_ 10), (1, u "java/lang/Object")] 113

def k0m0 : Method := { name := "<init>", desc := "()V", sig := { parameters := [], returnType := none }, accessFlags := 1, code := none }
/-- java/lang/Object -/
def k0 : Class := { plain "java/lang/Object" none with
  accessFlags := 33
  interfaces := #[]
  cf := some (fileOf pool0 8 #[] #[{ accessFlags := 1, nameIndex := 5, descriptorIndex := 6, attributes := #[] }] 33 0 #[] #[])
  fields := #[]
  methods := #[k0m0]
  instanceTypes := #[]
  staticTypes := #[]
  resolved := Array.replicate 124 none
  statics := none }

def pool1 : Array CpInfo := pool [(2, .class_ 4), (1, u "java/lang/Object"), (0, u "<init>"), (0, u "()V"), (0, .class_ 8), (0, u "com/example/millrace/millrace/io/Command"), (0, .fieldref 7 10), (0, .nameAndType 11 12), (0, u "CONNECT"), (0, u "Lcom/example/millrace/millrace/io/Command;"), (0, .fieldref 7 14), (0, .nameAndType 15 12), (0, u "STOMP"), (0, .fieldref 7 17), (0, .nameAndType 18 12), (0, u "SEND"), (0, .fieldref 7 20), (0, .nameAndType 21 12), (0, u "SUBSCRIBE"), (0, .fieldref 7 23), (0, .nameAndType 24 12), (0, u "UNSUBSCRIBE"), (0, .fieldref 7 26), (0, .nameAndType 27 12), (0, u "ACK"), (0, .fieldref 7 29), (0, .nameAndType 30 12), (0, u "NACK"), (0, .fieldref 7 32), (0, .nameAndType 33 12), (0, u "BEGIN"), (0, .fieldref 7 35), (0, .nameAndType 36 12), (0, u "COMMIT"), (0, .fieldref 7 38), (0, .nameAndType 39 12), (0, u "ABORT"), (0, .fieldref 7 41), (0, .nameAndType 42 12), (0, u "DISCONNECT"), (0, .fieldref 7 44), (0, .nameAndType 45 12), (0, u "CONNECTED"), (0, .fieldref 7 47), (0, .nameAndType 48 12), (0, u "MESSAGE"), (0, .fieldref 7 50), (0, .nameAndType 51 12), (0, u "RECEIPT"), (0, .fieldref 7 53), (0, .nameAndType 54 12), (0, u "ERROR"), (0, .integer 2147483647), (0, .methodref 7 57), (0, .nameAndType 58 59), (0, u "escapesHeaders"), (0, u "()Z"), (0, .class_ 61), (0, u "com/example/millrace/millrace/io/CommandEscapesHeadersPinLaw"), (2, u "law"), (0, u "(I)Z")] 7

def k1m0 : Method := { name := "<init>", desc := "()V", sig := { parameters := [], returnType := none }, accessFlags := 1, code := none }
def k1c1 : Code := { maxStack := 4, maxLocals := 4, code := code, exceptionTable := #[], attributes := #[] }
def k1m1 : Method := { name := "law", desc := "(I)Z", sig := { parameters := [.int], returnType := some .boolean }, accessFlags := 9, code := some k1c1 }
/-- com/example/millrace/millrace/io/CommandEscapesHeadersPinLaw -/
def k1 : Class := { plain "com/example/millrace/millrace/io/CommandEscapesHeadersPinLaw" (some 0) with
  accessFlags := 49
  interfaces := #[]
  cf := some (fileOf pool1 60 #[] #[{ accessFlags := 1, nameIndex := 5, descriptorIndex := 6, attributes := #[] }, { accessFlags := 9, nameIndex := 64, descriptorIndex := 65, attributes := #[] }] 49 2 #[] #[])
  fields := #[]
  methods := #[k1m0, k1m1]
  instanceTypes := #[]
  staticTypes := #[]
  resolved := Array.replicate 73 none
  statics := none }

def pool2 : Array CpInfo := pool [(1, .class_ 2), (0, u "java/lang/constant/Constable"), (0, .class_ 4), (0, u "java/lang/Object")] 6

/-- java/lang/constant/Constable -/
def k2 : Class := { plain "java/lang/constant/Constable" (some 0) with
  accessFlags := 1537
  interfaces := #[]
  cf := some (fileOf pool2 1 #[] #[] 1537 3 #[] #[])
  fields := #[]
  methods := #[]
  instanceTypes := #[]
  staticTypes := #[]
  resolved := Array.replicate 11 none
  statics := none }

def pool3 : Array CpInfo := pool [(1, .class_ 2), (0, u "java/lang/Comparable"), (0, .class_ 4), (0, u "java/lang/Object")] 7

/-- java/lang/Comparable -/
def k3 : Class := { plain "java/lang/Comparable" (some 0) with
  accessFlags := 1537
  interfaces := #[]
  cf := some (fileOf pool3 1 #[] #[] 1537 3 #[] #[])
  fields := #[]
  methods := #[]
  instanceTypes := #[]
  staticTypes := #[]
  resolved := Array.replicate 12 none
  statics := none }

def pool4 : Array CpInfo := pool [(1, .class_ 2), (0, u "java/io/Serializable"), (0, .class_ 4), (0, u "java/lang/Object")] 2

/-- java/io/Serializable -/
def k4 : Class := { plain "java/io/Serializable" (some 0) with
  accessFlags := 1537
  interfaces := #[]
  cf := some (fileOf pool4 1 #[] #[] 1537 3 #[] #[])
  fields := #[]
  methods := #[]
  instanceTypes := #[]
  staticTypes := #[]
  resolved := Array.replicate 7 none
  statics := none }

def pool5 : Array CpInfo := pool [(2, .class_ 4), (1, u "java/lang/Enum"), (0, u "name"), (0, u "Ljava/lang/String;"), (2, u "ordinal"), (0, u "I"), (1, .class_ 14), (1, u "java/lang/Object"), (4, u "hash"), (86, .class_ 108), (1, u "java/lang/Enum$EnumDesc"), (2, .class_ 112), (0, u "java/lang/constant/Constable"), (0, .class_ 114), (0, u "java/lang/Comparable"), (0, .class_ 116), (0, u "java/io/Serializable")] 87

/-- java/lang/Enum -/
def k5 : Class := { plain "java/lang/Enum" (some 0) with
  accessFlags := 1057
  interfaces := #[2, 3, 4]
  cf := some (fileOf pool5 2 #[.nestMembers #[106]] #[] 1057 12 #[111, 113, 115] #[{ accessFlags := 18, nameIndex := 5, descriptorIndex := 6, attributes := #[] }, { accessFlags := 18, nameIndex := 9, descriptorIndex := 10, attributes := #[] }, { accessFlags := 2, nameIndex := 19, descriptorIndex := 10, attributes := #[] }])
  fields := #[{ name := "name", type := (.object "java/lang/String"), accessFlags := 18, slot := 0, constantValue := 0 }, { name := "ordinal", type := .int, accessFlags := 18, slot := 1, constantValue := 0 }, { name := "hash", type := .int, accessFlags := 2, slot := 2, constantValue := 0 }]
  methods := #[]
  instanceTypes := #[(.object "java/lang/String"), .int, .int]
  staticTypes := #[]
  resolved := Array.replicate 204 none
  statics := none }

def pool6 : Array CpInfo := pool [(1, .class_ 2), (0, u "com/example/millrace/millrace/io/Command"), (0, .fieldref 1 4), (0, .nameAndType 5 6), (0, u "CONNECT"), (0, u "Lcom/example/millrace/millrace/io/Command;"), (2, u "STOMP"), (2, u "SEND"), (2, u "SUBSCRIBE"), (2, u "UNSUBSCRIBE"), (2, u "ACK"), (2, u "NACK"), (2, u "BEGIN"), (2, u "COMMIT"), (2, u "ABORT"), (2, u "DISCONNECT"), (0, .fieldref 1 38), (0, .nameAndType 39 6), (0, u "CONNECTED"), (2, u "MESSAGE"), (2, u "RECEIPT"), (2, u "ERROR"), (2, u "$VALUES"), (0, u "[Lcom/example/millrace/millrace/io/Command;"), (6, .class_ 61), (1, u "java/lang/Enum"), (8, u "fromClient"), (0, u "Z"), (2, u "FROM_CLIENT"), (0, u "Ljava/util/Map;"), (8, u "FROM_SERVER"), (72, u "escapesHeaders"), (0, u "()Z")] 38

def k6c0 : Code := { maxStack := 2, maxLocals := 1, code := prog_5_method_6_code, exceptionTable := #[], attributes := #[] }
def k6m0 : Method := { name := "escapesHeaders", desc := "()Z", sig := { parameters := [], returnType := some .boolean }, accessFlags := 0, code := some k6c0 }
/-- com/example/millrace/millrace/io/Command -/
def k6 : Class := { plain "com/example/millrace/millrace/io/Command" (some 5) with
  accessFlags := 16432
  interfaces := #[]
  cf := some (fileOf pool6 1 #[] #[{ accessFlags := 0, nameIndex := 157, descriptorIndex := 158, attributes := #[] }] 16432 59 #[] #[{ accessFlags := 16409, nameIndex := 5, descriptorIndex := 6, attributes := #[] }, { accessFlags := 16409, nameIndex := 9, descriptorIndex := 6, attributes := #[] }, { accessFlags := 16409, nameIndex := 12, descriptorIndex := 6, attributes := #[] }, { accessFlags := 16409, nameIndex := 15, descriptorIndex := 6, attributes := #[] }, { accessFlags := 16409, nameIndex := 18, descriptorIndex := 6, attributes := #[] }, { accessFlags := 16409, nameIndex := 21, descriptorIndex := 6, attributes := #[] }, { accessFlags := 16409, nameIndex := 24, descriptorIndex := 6, attributes := #[] }, { accessFlags := 16409, nameIndex := 27, descriptorIndex := 6, attributes := #[] }, { accessFlags := 16409, nameIndex := 30, descriptorIndex := 6, attributes := #[] }, { accessFlags := 16409, nameIndex := 33, descriptorIndex := 6, attributes := #[] }, { accessFlags := 16409, nameIndex := 36, descriptorIndex := 6, attributes := #[] }, { accessFlags := 16409, nameIndex := 39, descriptorIndex := 6, attributes := #[] }, { accessFlags := 16409, nameIndex := 42, descriptorIndex := 6, attributes := #[] }, { accessFlags := 16409, nameIndex := 45, descriptorIndex := 6, attributes := #[] }, { accessFlags := 16409, nameIndex := 48, descriptorIndex := 6, attributes := #[] }, { accessFlags := 26, nameIndex := 74, descriptorIndex := 75, attributes := #[] }, { accessFlags := 26, nameIndex := 84, descriptorIndex := 75, attributes := #[] }, { accessFlags := 18, nameIndex := 70, descriptorIndex := 71, attributes := #[] }, { accessFlags := 4122, nameIndex := 51, descriptorIndex := 52, attributes := #[] }])
  fields := #[{ name := "CONNECT", type := (.object "com/example/millrace/millrace/io/Command"), accessFlags := 16409, slot := 0, constantValue := 0 }, { name := "STOMP", type := (.object "com/example/millrace/millrace/io/Command"), accessFlags := 16409, slot := 1, constantValue := 0 }, { name := "SEND", type := (.object "com/example/millrace/millrace/io/Command"), accessFlags := 16409, slot := 2, constantValue := 0 }, { name := "SUBSCRIBE", type := (.object "com/example/millrace/millrace/io/Command"), accessFlags := 16409, slot := 3, constantValue := 0 }, { name := "UNSUBSCRIBE", type := (.object "com/example/millrace/millrace/io/Command"), accessFlags := 16409, slot := 4, constantValue := 0 }, { name := "ACK", type := (.object "com/example/millrace/millrace/io/Command"), accessFlags := 16409, slot := 5, constantValue := 0 }, { name := "NACK", type := (.object "com/example/millrace/millrace/io/Command"), accessFlags := 16409, slot := 6, constantValue := 0 }, { name := "BEGIN", type := (.object "com/example/millrace/millrace/io/Command"), accessFlags := 16409, slot := 7, constantValue := 0 }, { name := "COMMIT", type := (.object "com/example/millrace/millrace/io/Command"), accessFlags := 16409, slot := 8, constantValue := 0 }, { name := "ABORT", type := (.object "com/example/millrace/millrace/io/Command"), accessFlags := 16409, slot := 9, constantValue := 0 }, { name := "DISCONNECT", type := (.object "com/example/millrace/millrace/io/Command"), accessFlags := 16409, slot := 10, constantValue := 0 }, { name := "CONNECTED", type := (.object "com/example/millrace/millrace/io/Command"), accessFlags := 16409, slot := 11, constantValue := 0 }, { name := "MESSAGE", type := (.object "com/example/millrace/millrace/io/Command"), accessFlags := 16409, slot := 12, constantValue := 0 }, { name := "RECEIPT", type := (.object "com/example/millrace/millrace/io/Command"), accessFlags := 16409, slot := 13, constantValue := 0 }, { name := "ERROR", type := (.object "com/example/millrace/millrace/io/Command"), accessFlags := 16409, slot := 14, constantValue := 0 }, { name := "FROM_CLIENT", type := (.object "java/util/Map"), accessFlags := 26, slot := 15, constantValue := 0 }, { name := "FROM_SERVER", type := (.object "java/util/Map"), accessFlags := 26, slot := 16, constantValue := 0 }, { name := "fromClient", type := .boolean, accessFlags := 18, slot := 3, constantValue := 0 }, { name := "$VALUES", type := (.array (.object "com/example/millrace/millrace/io/Command")), accessFlags := 4122, slot := 17, constantValue := 0 }]
  methods := #[k6m0]
  instanceTypes := #[(.object "java/lang/String"), .int, .int, .boolean]
  staticTypes := #[(.object "com/example/millrace/millrace/io/Command"), (.object "com/example/millrace/millrace/io/Command"), (.object "com/example/millrace/millrace/io/Command"), (.object "com/example/millrace/millrace/io/Command"), (.object "com/example/millrace/millrace/io/Command"), (.object "com/example/millrace/millrace/io/Command"), (.object "com/example/millrace/millrace/io/Command"), (.object "com/example/millrace/millrace/io/Command"), (.object "com/example/millrace/millrace/io/Command"), (.object "com/example/millrace/millrace/io/Command"), (.object "com/example/millrace/millrace/io/Command"), (.object "com/example/millrace/millrace/io/Command"), (.object "com/example/millrace/millrace/io/Command"), (.object "com/example/millrace/millrace/io/Command"), (.object "com/example/millrace/millrace/io/Command"), (.object "java/util/Map"), (.object "java/util/Map"), (.array (.object "com/example/millrace/millrace/io/Command"))]
  resolved := Array.replicate 197 none
  statics := some 0 }

def pool7 : Array CpInfo := pool [(1, u "java/lang/Cloneable"), (0, .class_ 1), (0, u "java/lang/Object"), (0, .class_ 3)] 3

/-- java/lang/Cloneable -/
def k7 : Class := { plain "java/lang/Cloneable" (some 0) with
  accessFlags := 1537
  interfaces := #[]
  cf := some (fileOf pool7 2 #[] #[] 1537 4 #[] #[])
  fields := #[]
  methods := #[]
  instanceTypes := #[]
  staticTypes := #[]
  resolved := Array.replicate 8 none
  statics := none }

/-- the primitive boolean -/
def k8 : Class := { plain "boolean" none with kind := .primitive 'Z', accessFlags := 0x411 }
/-- [Z -/
def k9 : Class := { plain "[Z" (some 0) with kind := .array 8 .boolean, interfaces := #[7, 4], accessFlags := 1041 }

/-- the primitive byte -/
def k10 : Class := { plain "byte" none with kind := .primitive 'B', accessFlags := 0x411 }
/-- [B -/
def k11 : Class := { plain "[B" (some 0) with kind := .array 10 .byte, interfaces := #[7, 4], accessFlags := 1041 }

/-- the primitive int -/
def k12 : Class := { plain "int" none with kind := .primitive 'I', accessFlags := 0x411 }
/-- [I -/
def k13 : Class := { plain "[I" (some 0) with kind := .array 12 .int, interfaces := #[7, 4], accessFlags := 1041 }

/-- [Lcom/example/millrace/millrace/io/Command; -/
def k14 : Class := { plain "[Lcom/example/millrace/millrace/io/Command;" (some 0) with kind := .array 6 (.object "com/example/millrace/millrace/io/Command"), interfaces := #[7, 4], accessFlags := 1041 }

def heap : Heap := #[{ cls := 6, slots := #[.ref 1, .ref 2, .ref 3, .ref 4, .ref 5, .ref 6, .ref 7, .ref 8, .ref 9, .ref 10, .ref 11, .ref 12, .ref 13, .ref 14, .ref 15, .null, .null, .null], vm := .statics 6 },
  { cls := 6, slots := #[.null, .int 0, .int 0, .int 0], vm := .none },
  { cls := 6, slots := #[.null, .int 1, .int 0, .int 0], vm := .none },
  { cls := 6, slots := #[.null, .int 2, .int 0, .int 0], vm := .none },
  { cls := 6, slots := #[.null, .int 3, .int 0, .int 0], vm := .none },
  { cls := 6, slots := #[.null, .int 4, .int 0, .int 0], vm := .none },
  { cls := 6, slots := #[.null, .int 5, .int 0, .int 0], vm := .none },
  { cls := 6, slots := #[.null, .int 6, .int 0, .int 0], vm := .none },
  { cls := 6, slots := #[.null, .int 7, .int 0, .int 0], vm := .none },
  { cls := 6, slots := #[.null, .int 8, .int 0, .int 0], vm := .none },
  { cls := 6, slots := #[.null, .int 9, .int 0, .int 0], vm := .none },
  { cls := 6, slots := #[.null, .int 10, .int 0, .int 0], vm := .none },
  { cls := 6, slots := #[.null, .int 11, .int 0, .int 0], vm := .none },
  { cls := 6, slots := #[.null, .int 12, .int 0, .int 0], vm := .none },
  { cls := 6, slots := #[.null, .int 13, .int 0, .int 0], vm := .none },
  { cls := 6, slots := #[.null, .int 14, .int 0, .int 0], vm := .none }]
def classes : Array Class := #[k0, k1, k2, k3, k4, k5, k6, k7, k8, k9, k10, k11, k12, k13, k14]
def interned : List (Array UInt16 × Addr) := []
def slotsUsed : Nat := 78
def theMethod : MethodId := ⟨1, 1⟩
def args0 : Array Value := #[.int 3]
def aboutOver (below : List Frame) : State where
  vm := { classes := classes, interned := interned.toArray }
  heap := heap
  slotsUsed := slotsUsed
  threads := #[{ frames := .invoking theMethod args0 :: below }]
def below0 : List Frame := [.native { method := ⟨0, 0⟩, args := #[] }]
def about1 : State := aboutOver below0
def p0 : Program := .bare "" "" ""
def e0 : Env := launch0.env 0 0 0
theorem w_frames : about1.frames = Frame.invoking theMethod args0 :: below0 := rfl
set_option maxRecDepth 65536 in
theorem w_args : argsFit about1.vm theMethod args0 = true := by decide +kernel
set_option maxRecDepth 65536 in
theorem w_heap : heapFits about1 = true := by decide +kernel
set_option maxRecDepth 65536 in
theorem w_runnable : about1.curStatus? = some .runnable := by decide +kernel
set_option maxRecDepth 65536 in
theorem w_alone : about1.alone = true := by decide +kernel
set_option maxRecDepth 65536 in
theorem w_named : about1.methodNamed? x = some theMethod := by decide +kernel
set_option maxRecDepth 65536 in
theorem w_hears : about1.hears theMethod below0 = true := by decide +kernel
set_option maxRecDepth 65536 in
theorem w_ripe : about1.ripe theMethod args0 below0 = true := by decide +kernel
theorem w_running : about1.status = .running := rfl
set_option maxRecDepth 65536 in
theorem w_room : about1.hasRoom e0.platform room_1 = true :=
  launch0.hasRoom_least _ room_1 (by decide +kernel) (by decide +kernel) (by decide +kernel) (by decide +kernel) (by decide +kernel) (by decide +kernel)
theorem allAtoms_all (ts : List Jvm.Cond) (a : Array Jvm.Value) (st : Jvm.State) : (allAtoms ts).before a st = ts.all (fun c => c.before a st) := by
  induction ts with
  | nil => rfl
  | cons c t ih =>
    show (Jvm.Cond.and c (allAtoms t)).before a st = _
    rw [Jvm.Cond.before_and, ih, List.all_cons]
def words1 : List Jvm.Cond := Jvm.Cond.code x code maxLocals ret :: tables_1
/-- a 'code' word, met by the world's own term for the bytes: nothing is compared byte by byte -/
theorem code_word {y : MethodName} {bytes : ByteArray} {mx : Nat} {rt : Option FieldType} {a : Array Value} {s : State} {m : MethodId} {meth : Method} {c : Code} (h1 : s.methodNamed? y = some m) (h2 : s.vm.method? m = some meth) (h3 : meth.code = some c) (h4 : c.code = bytes)
    (h5 : (c.maxLocals == mx && c.exceptionTable.isEmpty && decide (c.maxStack ≤ mostOperands) && decide (meth.sig.returnType = rt) && !meth.locks && decide (parseMethodDescriptor y.desc = some meth.sig)) = true) : (Jvm.Cond.code y bytes mx rt).before a s = true := by
  simp only [Bool.and_eq_true, beq_iff_eq, Bool.not_eq_true', decide_eq_true_eq] at h5
  obtain ⟨⟨⟨⟨⟨g1, g2⟩, g3⟩, g4⟩, g5⟩, g6⟩ := h5
  simp [Cond.before, Cond.holds, Cond.value, h1, h2, h3, h4, g1, g2, g3, g4, g5, g6]
def isCode : Jvm.Cond → Bool
  | .code _ _ _ _ => true
  | _ => false
theorem all_split {L : List Jvm.Cond} {P : Jvm.Cond → Bool} (h1 : L.all (fun c => isCode c || P c) = true) (h2 : ∀ c ∈ L.filter isCode, P c = true) : L.all P = true := by
  refine List.all_eq_true.mpr fun c hc => ?_
  have h := List.all_eq_true.mp h1 c hc
  rcases Bool.eq_false_or_eq_true (isCode c) with hi | hi
  · exact h2 c (List.mem_filter.mpr ⟨hc, hi⟩)
  · simpa [hi] using h
set_option maxRecDepth 65536 in
theorem w_c0 : (Jvm.Cond.code x code maxLocals ret).before args0 about1 = true := code_word (m := ⟨1, 1⟩) (meth := k1m1) (c := k1c1) (by decide +kernel) rfl rfl rfl (by decide +kernel)
set_option maxRecDepth 65536 in
theorem w_c1 : (Jvm.Cond.code ({ cls := "com/example/millrace/millrace/io/Command", name := "escapesHeaders", desc := "()Z" } : Jvm.MethodName) prog_5_method_6_code (1 : Nat) (Option.some Jvm.ClassFile.FieldType.boolean)).before args0 about1 = true := code_word (m := ⟨6, 0⟩) (meth := k6m0) (c := k6c0) (by decide +kernel) rfl rfl rfl (by decide +kernel)
def codes1 : List Jvm.Cond := [Jvm.Cond.code x code maxLocals ret, Jvm.Cond.code ({ cls := "com/example/millrace/millrace/io/Command", name := "escapesHeaders", desc := "()Z" } : Jvm.MethodName) prog_5_method_6_code (1 : Nat) (Option.some Jvm.ClassFile.FieldType.boolean)]
set_option maxRecDepth 65536 in
theorem codes_eq : words1.filter isCode = codes1 := rfl
theorem w_codes : ∀ c ∈ words1.filter isCode, c.before args0 about1 = true := by
  rw [codes_eq]
  intro c hc
  simp only [codes1, List.mem_cons, List.not_mem_nil, or_false] at hc
  rcases hc with rfl | rfl
  · exact w_c0
  · exact w_c1
set_option maxRecDepth 65536 in
theorem w_t1 : (words1.take 24).all (fun c => isCode c || c.before args0 about1) = true := by decide +kernel
set_option maxRecDepth 65536 in
theorem w_t2 : (words1.drop 24).all (fun c => isCode c || c.before args0 about1) = true := by decide +kernel
theorem w_tables : (allAtoms (Jvm.Cond.code x code maxLocals ret :: tables_1)).before args0 about1 = true := by
  rw [allAtoms_all]
  show words1.all (fun c => c.before args0 about1) = true
  refine all_split ?_ w_codes
  rw [← List.take_append_drop 24 words1, List.all_append, w_t1, w_t2]
  rfl
set_option maxRecDepth 65536 in
theorem w_case : (Jvm.Cond.and given_1 narrow_1).before args0 about1 = true := by decide +kernel
theorem w_applies : (headSpec (Jvm.Cond.code x code maxLocals ret :: tables_1) room_1).applies x e0.platform about1 = true :=
  (Spec.applies_iff w_frames).mpr ⟨w_running, w_runnable, w_alone, w_named, w_hears, w_ripe, w_room, w_tables⟩
theorem atStart : AtStart classFile x code maxLocals ret World_1 tables_1 room_1 Calls_1 rest_1 Pre_1 launch0 p0 e0 about1 theMethod args0 below0 :=
  ⟨lists_1, trivial, launch0.admits_env _ _ _, launch0.least_env, fairChoices_fair.cas, fairChoices_fair.clock, w_frames, w_args, w_heap, w_applies, trivial, trivial, w_case⟩
end start1
theorem witness_1 : WitnessClaimed_1 := ⟨start1.p0, start1.e0, start1.about1, start1.theMethod, start1.args0, start1.below0, start1.atStart⟩
end Jvm.Pilot.@@N@@
