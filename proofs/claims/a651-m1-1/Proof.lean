import JvmDerived
import JvmDerived.Pilot.@@N@@Statement
import JvmDerived.Pilot.@@N@@Code
set_option linter.unusedVariables false
set_option linter.unusedSimpArgs false
namespace Jvm.Pilot.@@N@@
open Jvm Jvm.ClassFile Sem Op Lib Jvm.Free Jvm.Stand Jvm.LawKit Jvm.RoadKit Bundle Jvm.Pilot.@@N@@.Jvm.D
section Own
variable {p : Program} {l : Launch} {e : Env} {R : Room} {s : State} {m : MethodId} {args : Array Value} {below : List Frame} {meth : Method} {c : Code} {T T' : State} {locs : List Loc} {cells slots : Nat} {Φ : State → Outcome → Prop} {g g' : JFrame}
/-- from (T, g) the run comes to an end that Φ takes -/
def Go (p : Program) (e : Env) (below : List Frame) (Φ : State → Outcome → Prop) (T : State) (g : JFrame) : Prop := ∃ t o, Steps p.tables e below (T.setTop g) t ∧ Φ t o
theorem Go.of (h : ∀ t, Steps p.tables e below (T'.setTop g') t → Steps p.tables e below (T.setTop g) t) (k : Go p e below Φ T' g') : Go p e below Φ T g := by
  obtain ⟨t, o, h1, h2⟩ := k
  exact ⟨t, o, h t h1, h2⟩
theorem Go.tr (h : Steps p.tables e below (T.setTop g) (T'.setTop g')) (k : Go p e below Φ T' g') : Go p e below Φ T g := by
  obtain ⟨t, o, h1, h2⟩ := k
  exact ⟨t, o, h.trans h1, h2⟩
/-- what a body owes at its end -/
def EndQ (s : State) (below : List Frame) (Q : Option Value → Heap → List Loc → Prop) (C S : Nat) (t : State) (o : Outcome) : Prop := t.status = .running ∧ Ended t below o ∧ ∃ v L, o = .returned v ∧ Q v t.heap L ∧ FrameEnd s o t L C S
theorem Go.ret (X : Stand p l e R s m args below meth c T locs cells slots) (hx : p.tables.exec = Jvm.exec) (hlocks : meth.locks = false) {pc : Nat} {Ls : Array Slot} {w : Value} {t : FieldType} {i : Instr} {rest : List Value} (hret : meth.sig.returnType = some t) (hn : narrow t w = w)
    (hi : (i = .ireturn ∧ (t = .int ∨ t = .boolean ∨ t = .byte ∨ t = .char ∨ t = .short) ∧ ∃ z, w = .int z) ∨ (i = .lreturn ∧ t = .long ∧ ∃ z, w = .long z) ∨ (i = .dreturn ∧ t = .double ∧ ∃ z, w = .double z) ∨ (i = .freturn ∧ t = .float ∧ ∃ z, w = .float z) ∨ (i = .areturn ∧ t.isReference = true ∧ w.isRef = true))
    (hd : decode c.code pc = .ok (i, 1)) {Q : Option Value → Heap → List Loc → Prop} {C S : Nat} (hC : cells ≤ C) (hS : slots ≤ S) (hQ : Q (some w) T.heap locs) : Go p e below (EndQ s below Q C S) T (mkF m pc Ls (w :: rest)) := by
  obtain ⟨fs, hr, hrun, hended, hW, hsame⟩ := X.leave (v := some w) (fun h => by rw [hret] at h; cases h) hlocks
  exact ⟨_, _, retOut X hx hret hn hi hd hr, hrun, hended, _, _, rfl, hQ, ⟨_, rfl⟩, hW, hsame.mono hC hS⟩
theorem Go.retV (X : Stand p l e R s m args below meth c T locs cells slots) (hx : p.tables.exec = Jvm.exec) (hlocks : meth.locks = false) {pc : Nat} {Ls : Array Slot} (hret : meth.sig.returnType = none)
    (hd : decode c.code pc = .ok (.return_, 1)) {Q : Option Value → Heap → List Loc → Prop} {C S : Nat} (hC : cells ≤ C) (hS : slots ≤ S) (hQ : Q none T.heap locs) : Go p e below (EndQ s below Q C S) T (mkF m pc Ls []) := by
  obtain ⟨fs, hr, hrun, hended, hW, hsame⟩ := X.leave (v := none) (fun _ => rfl) hlocks
  exact ⟨_, _, X.returnOut hx hret hd hr, hrun, hended, _, _, rfl, hQ, ⟨_, rfl⟩, hW, hsame.mono hC hS⟩
def own_ushr (x y : Int32) : Int32 := (x.toUInt32 >>> (y &&& 31).toUInt32).toInt32
def own_ushrL (x : Int64) (y : Int32) : Int64 := (x.toUInt64 >>> (y &&& 0x3f).toInt64.toUInt64).toInt64
theorem own_one {v : Int32} (h : v = 1) : narrow .boolean (.int v) = .int v := by rw [h]; rfl
theorem own_nar_ref {t : FieldType} {v : Value} (h : v.isRef = true) (ht : t.isReference = true := by rfl) : narrow t v = v := by cases v <;> simp [Value.isRef] at h <;> cases t <;> first | rfl | cases ht
theorem own_fits_ref {t : FieldType} {v : Value} (h : v.isRef = true) (ht : t.isReference = true := by rfl) : fits t v = true := by cases v <;> simp [Value.isRef] at h <;> cases t <;> first | rfl | cases ht
end Own
theorem own_d1_0 : decode prog_5_method_7_code 0 = .ok (.dload_n 0, 1) := by decide +kernel
theorem own_d1_1 : decode prog_5_method_7_code 1 = .ok (.ldc2_w 210, 3) := by decide +kernel
theorem own_d1_4 : decode prog_5_method_7_code 4 = .ok (.dcmp .g, 1) := by decide +kernel
theorem own_d1_5 : decode prog_5_method_7_code 5 = .ok (.ifCond .gt 15, 3) := by decide +kernel
theorem own_d1_8 : decode prog_5_method_7_code 8 = .ok (.dload_n 2, 1) := by decide +kernel
theorem own_d1_9 : decode prog_5_method_7_code 9 = .ok (.ldc2_w 219, 3) := by decide +kernel
theorem own_d1_12 : decode prog_5_method_7_code 12 = .ok (.dcmp .l, 1) := by decide +kernel
theorem own_d1_13 : decode prog_5_method_7_code 13 = .ok (.ifCond .lt 7, 3) := by decide +kernel
theorem own_d1_16 : decode prog_5_method_7_code 16 = .ok (.iconst 0, 1) := by decide +kernel
theorem own_d1_17 : decode prog_5_method_7_code 17 = .ok (.goto 4, 3) := by decide +kernel
theorem own_d1_20 : decode prog_5_method_7_code 20 = .ok (.iconst 1, 1) := by decide +kernel
theorem own_d1_21 : decode prog_5_method_7_code 21 = .ok (.ireturn, 1) := by decide +kernel
theorem own_pn0 : plainName "com/example/tenon/bench/FormRoundTrip" = true := by first | (simp [plainName, overriddenIn]; done) | decide +kernel
theorem own_pn1 : plainName "com/example/tenon/bench/FormRoundTripStatusPinLaw" = true := by first | (simp [plainName, overriddenIn]; done) | decide +kernel
theorem own_pd0 : parseMethodDescriptor "(DD)I" = some ⟨[.double, .double], some .int⟩ := by decide +kernel
def own_status (u : UInt64) (v : UInt64) : Int32 := (if (0 : Int32) < (cmpValue (FP.dcmp u (4605380978949069210 : UInt64)) .g) then (1 : Int32) else (if (cmpValue (FP.dcmp v (4608308318706860032 : UInt64)) .l) < (0 : Int32) then (1 : Int32) else (0 : Int32)))
theorem own_ef1 (m : MethodId) (u : UInt64) (v : UInt64) : entryFrame m #[(.double u), (.double v)] 4 = mkF m 0 #[.val (.double u), .second, .val (.double v), .second] [] := by first | (simp [entryFrame, mkF, argsToLocals, Value.category]; done) | rfl
def Q1 (Z : State) (u : UInt64) (v : UInt64) (h0 : Heap) (n0 : Nat) (vr : Option Value) (hr : Heap) (Lr : List Loc) : Prop := vr = some (.int (own_status u v)) ∧ Fr n0 Lr ∧ hr = h0
set_option maxRecDepth 65536 in
set_option maxHeartbeats 40000000 in
theorem rm1 (l : Launch) (Z : State) (a0 : Array Value) (hw : ∀ d ∈ tables_1, d.before a0 Z = true) (ws : List Jvm.Cond) (u : UInt64) (v : UInt64) (h0 : Heap) (n0 : Nat) (Z0 : n0 ≤ h0.size) :
    MetFree l (⟨"com/example/tenon/bench/FormRoundTrip", "status", "(DD)I"⟩ : MethodName) (head1 (Jvm.Cond.code (⟨"com/example/tenon/bench/FormRoundTrip", "status", "(DD)I"⟩ : MethodName) prog_5_method_7_code 4 (some .int) :: ws) ({ frames := 0, cells := 0, slots := 0, locals := 0 } : Room)) (fun aQ UQ => aQ = #[(.double u), (.double v)] ∧ Z.Warmed39 UQ.vm ∧ UQ.heap = h0) (fun _ _ _ _ _ => True) (fun _ UQ oQ VQ => ∃ vQ LQ, oQ = .returned vQ ∧ Q1 Z u v h0 n0 vQ VQ.heap LQ ∧ FrameEnd UQ oQ VQ LQ ({ frames := 0, cells := 0, slots := 0, locals := 0 } : Room).cells ({ frames := 0, cells := 0, slots := 0, locals := 0 } : Room).slots) := by
  refine MetFree.of_bodySF (plainFor_of_name own_pn0) hisR ?_
  intro p e s m args below meth c s₁ Bd hml0 hP hK
  obtain ⟨rfl, hZ, hh⟩ := hP
  have hx := Bd.exec
  have hby := Bd.bytes
  have hml : c.maxLocals = 4 := hml0
  have hown : s.vm.findClass "com/example/tenon/bench/FormRoundTrip" = some m.cls := findClass_of_methodNamed Bd.named
  have hnm := (name_of_methodNamed Bd.named Bd.method).1
  have X0 : Stand p l e ({ frames := 0, cells := 0, slots := 0, locals := 0 } : Room) s m #[(.double u), (.double v)] below meth c s₁ [] 0 0 := Stand.of_body Bd
  have e0 : s₁.heap = h0 := by rw [← hh, Bd.state]; rfl
  have N0 := Fr.nil n0
  show Go p e below (EndQ s below (Q1 Z u v h0 n0) ({ frames := 0, cells := 0, slots := 0, locals := 0 } : Room).cells ({ frames := 0, cells := 0, slots := 0, locals := 0 } : Room).slots) s₁ (entryFrame m #[(.double u), (.double v)] 4)
  obtain ⟨Φ, hΦ⟩ : ∃ Φ, Φ = EndQ s below (Q1 Z u v h0 n0) ({ frames := 0, cells := 0, slots := 0, locals := 0 } : Room).cells ({ frames := 0, cells := 0, slots := 0, locals := 0 } : Room).slots := ⟨_, rfl⟩
  rw [← hΦ, own_ef1]
  show Go p e below Φ s₁ (mkF m 0 #[.val (.double u), .second, .val (.double v), .second] [])
  refine Go.of (fun t k => XS.dloadN X0.here hx rfl (hb hby own_d1_0) rfl  k) ?_
  show Go p e below Φ s₁ (mkF m 1 #[.val (.double u), .second, .val (.double v), .second] [(.double u)])
  refine Go.of (fun t k => X0.ldc2DoubleC hx hown (mvT hZ (hw _ (List.mem_of_getElem? (i := 5) rfl))) (g := (mkF m 1 #[.val (.double u), .second, .val (.double v), .second] [(.double u)])) rfl (hb hby own_d1_1) t k) ?_
  show Go p e below Φ s₁ (mkF m 4 #[.val (.double u), .second, .val (.double v), .second] [(.double (4605380978949069210 : UInt64)), (.double u)])
  refine Go.of (fun t k => XS.dcmpS X0.here hx rfl (hb hby own_d1_4) rfl rfl k) ?_
  show Go p e below Φ s₁ (mkF m 5 #[.val (.double u), .second, .val (.double v), .second] [(.int (cmpValue (FP.dcmp u (4605380978949069210 : UInt64)) .g))])
  by_cases hc5 : (0 : Int32) < (cmpValue (FP.dcmp u (4605380978949069210 : UInt64)) .g)
  · refine Go.of (fun t k => XS.ifYes X0.here hx rfl (pc0 := 5) (pc' := 20) rfl (hb hby own_d1_5) rfl (XT.i0_gt_t hc5) (by decide) (by decide) k) ?_
    show Go p e below Φ s₁ (mkF m 20 #[.val (.double u), .second, .val (.double v), .second] [])
    refine Go.of (fun t k => XS.iconst X0.here hx rfl (hb hby own_d1_20) k) ?_
    show Go p e below Φ s₁ (mkF m 21 #[.val (.double u), .second, .val (.double v), .second] [(.int (1 : Int32))])
    rw [hΦ]
    refine Go.ret X0 hx Bd.notSynchronized Bd.returns rfl (Or.inl ⟨rfl, Or.inl rfl, _, rfl⟩) (hb hby own_d1_21) (by decide) (by decide) ?_
    rw [e0]
    exact ⟨by rw [own_status, if_pos hc5], N0, rfl⟩
  · refine Go.of (fun t k => XS.ifNo X0.here hx rfl (hb hby own_d1_5) rfl (XT.i0_gt_f hc5) k) ?_
    show Go p e below Φ s₁ (mkF m 8 #[.val (.double u), .second, .val (.double v), .second] [])
    refine Go.of (fun t k => XS.dloadN X0.here hx rfl (hb hby own_d1_8) rfl  k) ?_
    show Go p e below Φ s₁ (mkF m 9 #[.val (.double u), .second, .val (.double v), .second] [(.double v)])
    refine Go.of (fun t k => X0.ldc2DoubleC hx hown (mvT hZ (hw _ (List.mem_of_getElem? (i := 6) rfl))) (g := (mkF m 9 #[.val (.double u), .second, .val (.double v), .second] [(.double v)])) rfl (hb hby own_d1_9) t k) ?_
    show Go p e below Φ s₁ (mkF m 12 #[.val (.double u), .second, .val (.double v), .second] [(.double (4608308318706860032 : UInt64)), (.double v)])
    refine Go.of (fun t k => XS.dcmpS X0.here hx rfl (hb hby own_d1_12) rfl rfl k) ?_
    show Go p e below Φ s₁ (mkF m 13 #[.val (.double u), .second, .val (.double v), .second] [(.int (cmpValue (FP.dcmp v (4608308318706860032 : UInt64)) .l))])
    by_cases hc13 : (cmpValue (FP.dcmp v (4608308318706860032 : UInt64)) .l) < (0 : Int32)
    · refine Go.of (fun t k => XS.ifYes X0.here hx rfl (pc0 := 13) (pc' := 20) rfl (hb hby own_d1_13) rfl (XT.i0_lt_t hc13) (by decide) (by decide) k) ?_
      show Go p e below Φ s₁ (mkF m 20 #[.val (.double u), .second, .val (.double v), .second] [])
      refine Go.of (fun t k => XS.iconst X0.here hx rfl (hb hby own_d1_20) k) ?_
      show Go p e below Φ s₁ (mkF m 21 #[.val (.double u), .second, .val (.double v), .second] [(.int (1 : Int32))])
      rw [hΦ]
      refine Go.ret X0 hx Bd.notSynchronized Bd.returns rfl (Or.inl ⟨rfl, Or.inl rfl, _, rfl⟩) (hb hby own_d1_21) (by decide) (by decide) ?_
      rw [e0]
      exact ⟨by rw [own_status, if_neg hc5, if_pos hc13], N0, rfl⟩
    · refine Go.of (fun t k => XS.ifNo X0.here hx rfl (hb hby own_d1_13) rfl (XT.i0_lt_f hc13) k) ?_
      show Go p e below Φ s₁ (mkF m 16 #[.val (.double u), .second, .val (.double v), .second] [])
      refine Go.of (fun t k => XS.iconst X0.here hx rfl (hb hby own_d1_16) k) ?_
      show Go p e below Φ s₁ (mkF m 17 #[.val (.double u), .second, .val (.double v), .second] [(.int (0 : Int32))])
      refine Go.of (fun t k => XS.goto X0.here hx rfl (pc0 := 17) (pc' := 21) rfl (hb hby own_d1_17) (by decide) (by decide) k) ?_
      show Go p e below Φ s₁ (mkF m 21 #[.val (.double u), .second, .val (.double v), .second] [(.int (0 : Int32))])
      rw [hΦ]
      refine Go.ret X0 hx Bd.notSynchronized Bd.returns rfl (Or.inl ⟨rfl, Or.inl rfl, _, rfl⟩) (hb hby own_d1_21) (by decide) (by decide) ?_
      rw [e0]
      exact ⟨by rw [own_status, if_neg hc5, if_neg hc13], N0, rfl⟩
def own_ok (n : Nat) : Bool :=
  decide ((FP.ddiv (FP.i2d (Int32.ofInt ((n : Int) - 999))) (4636737291354636288 : UInt64)) &&& 0x7fffffffffffffff ≤ 0x7ff0000000000000) && (decide ((0 : Int32) < cmpValue (FP.dcmp (FP.ddiv (FP.i2d (Int32.ofInt ((n : Int) - 999))) (4636737291354636288 : UInt64)) (4605380978949069210 : UInt64)) .g) == decide ((80 : Int32) < Int32.ofInt ((n : Int) - 999))) && (decide (cmpValue (FP.dcmp (FP.ddiv (FP.i2d (Int32.ofInt ((n : Int) - 999))) (4636737291354636288 : UInt64)) (4608308318706860032 : UInt64)) .l < (0 : Int32)) == decide (Int32.ofInt ((n : Int) - 999) < (125 : Int32)))
theorem own_oks : (List.range 1999).all own_ok = true := by decide +kernel
theorem own_rng (i x : Int32) (hx : x = (i % (1000 : Int32))) : ∃ n : Nat, own_ok n = true ∧ x = Int32.ofInt ((n : Int) - 999) := by
  have r := c_irem i 1000 1000 (by decide)
  rw [← hx] at r
  have b : -999 ≤ x.toInt ∧ x.toInt ≤ 999 := by
    rcases Int.lt_or_le i.toInt 0 with h | h
    · have := r.2 h; omega
    · have := r.1 h; omega
  refine ⟨(x.toInt + 999).toNat, List.all_eq_true.mp own_oks _ (List.mem_range.mpr (by omega)), ?_⟩
  rw [Int.toNat_of_nonneg (by omega), Int.add_sub_cancel, Int32.ofInt_toInt]
theorem own_three (i x : Int32) (hx : x = (i % (1000 : Int32))) : Jvm.Free.Fl.NoNaN64 (FP.ddiv (FP.i2d x) (4636737291354636288 : UInt64)) ∧ ((0 : Int32) < cmpValue (FP.dcmp (FP.ddiv (FP.i2d x) (4636737291354636288 : UInt64)) (4605380978949069210 : UInt64)) .g ↔ (80 : Int32) < x) ∧ (cmpValue (FP.dcmp (FP.ddiv (FP.i2d x) (4636737291354636288 : UInt64)) (4608308318706860032 : UInt64)) .l < (0 : Int32) ↔ x < (125 : Int32)) := by
  obtain ⟨n, h, e⟩ := own_rng i x hx
  rw [own_ok, ← e, Bool.and_eq_true, Bool.and_eq_true, beq_iff_eq, beq_iff_eq, decide_eq_decide, decide_eq_decide, decide_eq_true_iff] at h
  exact ⟨h.1.1, h.1.2, h.2⟩
theorem own_nn (i x : Int32) (hx : x = (i % (1000 : Int32))) : Jvm.Free.Fl.NoNaN64 (FP.ddiv (FP.i2d x) (4636737291354636288 : UInt64)) := (own_three i x hx).1
theorem own_plain (i0 : Int32) (i1 : Int32) (x5 : Int32) (hx5 : x5 = (i0 % (1000 : Int32))) (x11 : Int32) (hx11 : x11 = (i1 % (1000 : Int32))) (x18 : UInt64) (hx18 : x18 = (FP.ddiv (FP.i2d x5) (4636737291354636288 : UInt64))) (x26 : UInt64) (hx26 : x26 = (FP.ddiv (FP.i2d x11) (4636737291354636288 : UInt64))) (v55 : Int32) (hv55 : v55 = (if (80 : Int32) < x5 then (1 : Int32) else (if x11 < (125 : Int32) then (1 : Int32) else (0 : Int32)))) (v72 : Int32) (hv72 : v72 = (if (own_status x18 x26) = v55 then (1 : Int32) else (0 : Int32)))  : v72 = (1 : Int32) := by
  have k1 := (own_three i0 x5 hx5).2.1
  have k2 := (own_three i1 x11 hx11).2.2
  rw [← hx18] at k1
  rw [← hx26] at k2
  have e : own_status x18 x26 = v55 := by
    rw [hv55, own_status]
    by_cases h1 : (80 : Int32) < x5
    · rw [if_pos h1, if_pos (k1.mpr h1)]
    · rw [if_neg h1, if_neg (fun q => h1 (k1.mp q))]
      by_cases h2 : x11 < (125 : Int32)
      · rw [if_pos h2, if_pos (k2.mpr h2)]
      · rw [if_neg h2, if_neg (fun q => h2 (k2.mp q))]
  rw [hv72, if_pos e]
theorem own_ef0 (m : MethodId) (i0 : Int32) (i1 : Int32) : entryFrame m #[(.int i0), (.int i1)] maxLocals = mkF m 0 #[.val (.int i0), .val (.int i1), .unset, .unset, .unset, .unset, .unset, .unset, .unset] [] := by first | (simp [entryFrame, mkF, argsToLocals, Value.category, maxLocals]; done) | rfl
def Q0 (Z : State) (i0 : Int32) (i1 : Int32) (h0 : Heap) (n0 : Nat) (vr : Option Value) (hr : Heap) (Lr : List Loc) : Prop := vr = some (.int 1) ∧ Fr n0 Lr
set_option maxRecDepth 65536 in
set_option maxHeartbeats 40000000 in
theorem rm0 (l : Launch) (Z : State) (a0 : Array Value) (hw : ∀ d ∈ tables_1, d.before a0 Z = true) (ws : List Jvm.Cond) (i0 : Int32) (i1 : Int32) (h0 : Heap) (n0 : Nat) (Z0 : n0 ≤ h0.size) :
    MetFree l x (head1 (Jvm.Cond.code x code maxLocals ret :: ws) room_1) (fun aQ UQ => aQ = #[(.int i0), (.int i1)] ∧ Z.Warmed39 UQ.vm ∧ UQ.heap = h0) (fun _ _ _ _ _ => True) (fun _ UQ oQ VQ => ∃ vQ LQ, oQ = .returned vQ ∧ Q0 Z i0 i1 h0 n0 vQ VQ.heap LQ ∧ FrameEnd UQ oQ VQ LQ 0 0) := by
  refine MetFree.of_bodySF (plainFor_of_name own_pn1) hisR ?_
  intro p e s m args below meth c s₁ Bd hml0 hP hK
  obtain ⟨rfl, hZ, hh⟩ := hP
  have hx := Bd.exec
  have hby := Bd.bytes
  have hml : c.maxLocals = 9 := hml0
  have hown : s.vm.findClass "com/example/tenon/bench/FormRoundTripStatusPinLaw" = some m.cls := findClass_of_methodNamed Bd.named
  have hnm := (name_of_methodNamed Bd.named Bd.method).1
  have X0 : Stand p l e room_1 s m #[(.int i0), (.int i1)] below meth c s₁ [] 0 0 := Stand.of_body Bd
  have e0 : s₁.heap = h0 := by rw [← hh, Bd.state]; rfl
  have N0 := Fr.nil n0
  show Go p e below (EndQ s below (Q0 Z i0 i1 h0 n0) 0 0) s₁ (entryFrame m #[(.int i0), (.int i1)] maxLocals)
  obtain ⟨Φ, hΦ⟩ : ∃ Φ, Φ = EndQ s below (Q0 Z i0 i1 h0 n0) 0 0 := ⟨_, rfl⟩
  rw [← hΦ, own_ef0]
  show Go p e below Φ s₁ (mkF m 0 #[.val (.int i0), .val (.int i1), .unset, .unset, .unset, .unset, .unset, .unset, .unset] [])
  refine Go.of (fun t k => XS.iloadN X0.here hx rfl (hb hby at_0) rfl  k) ?_
  show Go p e below Φ s₁ (mkF m 1 #[.val (.int i0), .val (.int i1), .unset, .unset, .unset, .unset, .unset, .unset, .unset] [(.int i0)])
  refine Go.of (fun t k => XS.sipush X0.here hx rfl (hb hby at_1) k) ?_
  show Go p e below Φ s₁ (mkF m 4 #[.val (.int i0), .val (.int i1), .unset, .unset, .unset, .unset, .unset, .unset, .unset] [(.int (1000 : Int32)), (.int i0)])
  refine Go.of (fun t k => iremM X0 hx rfl (hb hby at_4) rfl (by decide) k) ?_
  show Go p e below Φ s₁ (mkF m 5 #[.val (.int i0), .val (.int i1), .unset, .unset, .unset, .unset, .unset, .unset, .unset] [(.int (i0 % (1000 : Int32)))])
  obtain ⟨x5, hx5⟩ : ∃ z : Int32, z = (i0 % (1000 : Int32)) := ⟨_, rfl⟩
  rw [← hx5]
  refine Go.of (fun t k => XS.istoreN X0.here hx rfl (hb hby at_5) rfl (l' := #[.val (.int i0), .val (.int i1), .val (.int x5), .unset, .unset, .unset, .unset, .unset, .unset]) rfl k) ?_
  show Go p e below Φ s₁ (mkF m 6 #[.val (.int i0), .val (.int i1), .val (.int x5), .unset, .unset, .unset, .unset, .unset, .unset] [])
  refine Go.of (fun t k => XS.iloadN X0.here hx rfl (hb hby at_6) rfl  k) ?_
  show Go p e below Φ s₁ (mkF m 7 #[.val (.int i0), .val (.int i1), .val (.int x5), .unset, .unset, .unset, .unset, .unset, .unset] [(.int i1)])
  refine Go.of (fun t k => XS.sipush X0.here hx rfl (hb hby at_7) k) ?_
  show Go p e below Φ s₁ (mkF m 10 #[.val (.int i0), .val (.int i1), .val (.int x5), .unset, .unset, .unset, .unset, .unset, .unset] [(.int (1000 : Int32)), (.int i1)])
  refine Go.of (fun t k => iremM X0 hx rfl (hb hby at_10) rfl (by decide) k) ?_
  show Go p e below Φ s₁ (mkF m 11 #[.val (.int i0), .val (.int i1), .val (.int x5), .unset, .unset, .unset, .unset, .unset, .unset] [(.int (i1 % (1000 : Int32)))])
  obtain ⟨x11, hx11⟩ : ∃ z : Int32, z = (i1 % (1000 : Int32)) := ⟨_, rfl⟩
  rw [← hx11]
  refine Go.of (fun t k => XS.istoreN X0.here hx rfl (hb hby at_11) rfl (l' := #[.val (.int i0), .val (.int i1), .val (.int x5), .val (.int x11), .unset, .unset, .unset, .unset, .unset]) rfl k) ?_
  show Go p e below Φ s₁ (mkF m 12 #[.val (.int i0), .val (.int i1), .val (.int x5), .val (.int x11), .unset, .unset, .unset, .unset, .unset] [])
  refine Go.of (fun t k => XS.iloadN X0.here hx rfl (hb hby at_12) rfl  k) ?_
  show Go p e below Φ s₁ (mkF m 13 #[.val (.int i0), .val (.int i1), .val (.int x5), .val (.int x11), .unset, .unset, .unset, .unset, .unset] [(.int x5)])
  refine Go.of (fun t k => XS.i2dS X0.here hx rfl (hb hby at_13) rfl rfl k) ?_
  show Go p e below Φ s₁ (mkF m 14 #[.val (.int i0), .val (.int i1), .val (.int x5), .val (.int x11), .unset, .unset, .unset, .unset, .unset] [(.double (FP.i2d x5))])
  refine Go.of (fun t k => X0.ldc2DoubleC hx hown (mvT hZ (hw _ (List.mem_of_getElem? (i := 0) rfl))) (g := (mkF m 14 #[.val (.int i0), .val (.int i1), .val (.int x5), .val (.int x11), .unset, .unset, .unset, .unset, .unset] [(.double (FP.i2d x5))])) rfl (hb hby at_14) t k) ?_
  show Go p e below Φ s₁ (mkF m 17 #[.val (.int i0), .val (.int i1), .val (.int x5), .val (.int x11), .unset, .unset, .unset, .unset, .unset] [(.double (4636737291354636288 : UInt64)), (.double (FP.i2d x5))])
  refine Go.of (fun t k => XS.ddivS X0.here hx rfl (hb hby at_17) rfl (own_nn i0 x5 hx5) rfl k) ?_
  show Go p e below Φ s₁ (mkF m 18 #[.val (.int i0), .val (.int i1), .val (.int x5), .val (.int x11), .unset, .unset, .unset, .unset, .unset] [(.double (FP.ddiv (FP.i2d x5) (4636737291354636288 : UInt64)))])
  obtain ⟨x18, hx18⟩ : ∃ z : UInt64, z = (FP.ddiv (FP.i2d x5) (4636737291354636288 : UInt64)) := ⟨_, rfl⟩
  rw [← hx18]
  refine Go.of (fun t k => XS.dstore X0.here hx rfl (hb hby at_18) rfl (l' := #[.val (.int i0), .val (.int i1), .val (.int x5), .val (.int x11), .val (.double x18), .second, .unset, .unset, .unset]) rfl k) ?_
  show Go p e below Φ s₁ (mkF m 20 #[.val (.int i0), .val (.int i1), .val (.int x5), .val (.int x11), .val (.double x18), .second, .unset, .unset, .unset] [])
  refine Go.of (fun t k => XS.iloadN X0.here hx rfl (hb hby at_20) rfl  k) ?_
  show Go p e below Φ s₁ (mkF m 21 #[.val (.int i0), .val (.int i1), .val (.int x5), .val (.int x11), .val (.double x18), .second, .unset, .unset, .unset] [(.int x11)])
  refine Go.of (fun t k => XS.i2dS X0.here hx rfl (hb hby at_21) rfl rfl k) ?_
  show Go p e below Φ s₁ (mkF m 22 #[.val (.int i0), .val (.int i1), .val (.int x5), .val (.int x11), .val (.double x18), .second, .unset, .unset, .unset] [(.double (FP.i2d x11))])
  refine Go.of (fun t k => X0.ldc2DoubleC hx hown (mvT hZ (hw _ (List.mem_of_getElem? (i := 0) rfl))) (g := (mkF m 22 #[.val (.int i0), .val (.int i1), .val (.int x5), .val (.int x11), .val (.double x18), .second, .unset, .unset, .unset] [(.double (FP.i2d x11))])) rfl (hb hby at_22) t k) ?_
  show Go p e below Φ s₁ (mkF m 25 #[.val (.int i0), .val (.int i1), .val (.int x5), .val (.int x11), .val (.double x18), .second, .unset, .unset, .unset] [(.double (4636737291354636288 : UInt64)), (.double (FP.i2d x11))])
  refine Go.of (fun t k => XS.ddivS X0.here hx rfl (hb hby at_25) rfl (own_nn i1 x11 hx11) rfl k) ?_
  show Go p e below Φ s₁ (mkF m 26 #[.val (.int i0), .val (.int i1), .val (.int x5), .val (.int x11), .val (.double x18), .second, .unset, .unset, .unset] [(.double (FP.ddiv (FP.i2d x11) (4636737291354636288 : UInt64)))])
  obtain ⟨x26, hx26⟩ : ∃ z : UInt64, z = (FP.ddiv (FP.i2d x11) (4636737291354636288 : UInt64)) := ⟨_, rfl⟩
  rw [← hx26]
  refine Go.of (fun t k => XS.dstore X0.here hx rfl (hb hby at_26) rfl (l' := #[.val (.int i0), .val (.int i1), .val (.int x5), .val (.int x11), .val (.double x18), .second, .val (.double x26), .second, .unset]) rfl k) ?_
  show Go p e below Φ s₁ (mkF m 28 #[.val (.int i0), .val (.int i1), .val (.int x5), .val (.int x11), .val (.double x18), .second, .val (.double x26), .second, .unset] [])
  refine Go.of (fun t k => XS.iloadN X0.here hx rfl (hb hby at_28) rfl  k) ?_
  show Go p e below Φ s₁ (mkF m 29 #[.val (.int i0), .val (.int i1), .val (.int x5), .val (.int x11), .val (.double x18), .second, .val (.double x26), .second, .unset] [(.int x5)])
  refine Go.of (fun t k => XS.bipush X0.here hx rfl (hb hby at_29) k) ?_
  show Go p e below Φ s₁ (mkF m 31 #[.val (.int i0), .val (.int i1), .val (.int x5), .val (.int x11), .val (.double x18), .second, .val (.double x26), .second, .unset] [(.int (80 : Int32)), (.int x5)])
  suffices j55_1 :  ∀ v55 : Int32, v55 = (if (80 : Int32) < x5 then (1 : Int32) else (if x11 < (125 : Int32) then (1 : Int32) else (0 : Int32))) → Go p e below Φ s₁ (mkF m 55 #[.val (.int i0), .val (.int i1), .val (.int x5), .val (.int x11), .val (.double x18), .second, .val (.double x26), .second, .val (.int v55)] []) by
    by_cases hc31 : (80 : Int32) < x5
    · refine Go.of (fun t k => XS.icmpYes X0.here hx rfl (pc0 := 31) (pc' := 52) rfl (hb hby at_31) rfl (XT.ii_gt_t hc31) (by decide) (by decide) k) ?_
      show Go p e below Φ s₁ (mkF m 52 #[.val (.int i0), .val (.int i1), .val (.int x5), .val (.int x11), .val (.double x18), .second, .val (.double x26), .second, .unset] [])
      refine Go.of (fun t k => XS.iconst X0.here hx rfl (hb hby at_52) k) ?_
      show Go p e below Φ s₁ (mkF m 53 #[.val (.int i0), .val (.int i1), .val (.int x5), .val (.int x11), .val (.double x18), .second, .val (.double x26), .second, .unset] [(.int (1 : Int32))])
      refine Go.of (fun t k => XS.istore X0.here hx rfl (hb hby at_53) rfl (l' := #[.val (.int i0), .val (.int i1), .val (.int x5), .val (.int x11), .val (.double x18), .second, .val (.double x26), .second, .val (.int (1 : Int32))]) rfl k) ?_
      show Go p e below Φ s₁ (mkF m 55 #[.val (.int i0), .val (.int i1), .val (.int x5), .val (.int x11), .val (.double x18), .second, .val (.double x26), .second, .val (.int (1 : Int32))] [])
      exact j55_1 _ (by rw [if_pos hc31])
    · refine Go.of (fun t k => XS.icmpNo X0.here hx rfl (hb hby at_31) rfl (XT.ii_gt_f hc31) k) ?_
      show Go p e below Φ s₁ (mkF m 34 #[.val (.int i0), .val (.int i1), .val (.int x5), .val (.int x11), .val (.double x18), .second, .val (.double x26), .second, .unset] [])
      refine Go.of (fun t k => XS.iloadN X0.here hx rfl (hb hby at_34) rfl  k) ?_
      show Go p e below Φ s₁ (mkF m 35 #[.val (.int i0), .val (.int i1), .val (.int x5), .val (.int x11), .val (.double x18), .second, .val (.double x26), .second, .unset] [(.int x11)])
      refine Go.of (fun t k => XS.bipush X0.here hx rfl (hb hby at_35) k) ?_
      show Go p e below Φ s₁ (mkF m 37 #[.val (.int i0), .val (.int i1), .val (.int x5), .val (.int x11), .val (.double x18), .second, .val (.double x26), .second, .unset] [(.int (125 : Int32)), (.int x11)])
      by_cases hc37 : x11 < (125 : Int32)
      · refine Go.of (fun t k => XS.icmpYes X0.here hx rfl (pc0 := 37) (pc' := 46) rfl (hb hby at_37) rfl (XT.ii_lt_t hc37) (by decide) (by decide) k) ?_
        show Go p e below Φ s₁ (mkF m 46 #[.val (.int i0), .val (.int i1), .val (.int x5), .val (.int x11), .val (.double x18), .second, .val (.double x26), .second, .unset] [])
        refine Go.of (fun t k => XS.iconst X0.here hx rfl (hb hby at_46) k) ?_
        show Go p e below Φ s₁ (mkF m 47 #[.val (.int i0), .val (.int i1), .val (.int x5), .val (.int x11), .val (.double x18), .second, .val (.double x26), .second, .unset] [(.int (1 : Int32))])
        refine Go.of (fun t k => XS.istore X0.here hx rfl (hb hby at_47) rfl (l' := #[.val (.int i0), .val (.int i1), .val (.int x5), .val (.int x11), .val (.double x18), .second, .val (.double x26), .second, .val (.int (1 : Int32))]) rfl k) ?_
        show Go p e below Φ s₁ (mkF m 49 #[.val (.int i0), .val (.int i1), .val (.int x5), .val (.int x11), .val (.double x18), .second, .val (.double x26), .second, .val (.int (1 : Int32))] [])
        refine Go.of (fun t k => XS.goto X0.here hx rfl (pc0 := 49) (pc' := 55) rfl (hb hby at_49) (by decide) (by decide) k) ?_
        show Go p e below Φ s₁ (mkF m 55 #[.val (.int i0), .val (.int i1), .val (.int x5), .val (.int x11), .val (.double x18), .second, .val (.double x26), .second, .val (.int (1 : Int32))] [])
        exact j55_1 _ (by rw [if_neg hc31, if_pos hc37])
      · refine Go.of (fun t k => XS.icmpNo X0.here hx rfl (hb hby at_37) rfl (XT.ii_lt_f hc37) k) ?_
        show Go p e below Φ s₁ (mkF m 40 #[.val (.int i0), .val (.int i1), .val (.int x5), .val (.int x11), .val (.double x18), .second, .val (.double x26), .second, .unset] [])
        refine Go.of (fun t k => XS.iconst X0.here hx rfl (hb hby at_40) k) ?_
        show Go p e below Φ s₁ (mkF m 41 #[.val (.int i0), .val (.int i1), .val (.int x5), .val (.int x11), .val (.double x18), .second, .val (.double x26), .second, .unset] [(.int (0 : Int32))])
        refine Go.of (fun t k => XS.istore X0.here hx rfl (hb hby at_41) rfl (l' := #[.val (.int i0), .val (.int i1), .val (.int x5), .val (.int x11), .val (.double x18), .second, .val (.double x26), .second, .val (.int (0 : Int32))]) rfl k) ?_
        show Go p e below Φ s₁ (mkF m 43 #[.val (.int i0), .val (.int i1), .val (.int x5), .val (.int x11), .val (.double x18), .second, .val (.double x26), .second, .val (.int (0 : Int32))] [])
        refine Go.of (fun t k => XS.goto X0.here hx rfl (pc0 := 43) (pc' := 55) rfl (hb hby at_43) (by decide) (by decide) k) ?_
        show Go p e below Φ s₁ (mkF m 55 #[.val (.int i0), .val (.int i1), .val (.int x5), .val (.int x11), .val (.double x18), .second, .val (.double x26), .second, .val (.int (0 : Int32))] [])
        exact j55_1 _ (by rw [if_neg hc31, if_neg hc37])
  intro v55 hv55
  show Go p e below Φ s₁ (mkF m 55 #[.val (.int i0), .val (.int i1), .val (.int x5), .val (.int x11), .val (.double x18), .second, .val (.double x26), .second, .val (.int v55)] [])
  refine Go.of (fun t k => XS.dload X0.here hx rfl (hb hby at_55) rfl  k) ?_
  show Go p e below Φ s₁ (mkF m 57 #[.val (.int i0), .val (.int i1), .val (.int x5), .val (.int x11), .val (.double x18), .second, .val (.double x26), .second, .val (.int v55)] [(.double x18)])
  refine Go.of (fun t k => XS.dload X0.here hx rfl (hb hby at_57) rfl  k) ?_
  show Go p e below Φ s₁ (mkF m 59 #[.val (.int i0), .val (.int i1), .val (.int x5), .val (.int x11), .val (.double x18), .second, .val (.double x26), .second, .val (.int v55)] [(.double x26), (.double x18)])
  obtain ⟨_, _, ⟨T2, L2, k2, n2⟩, -, X2, ⟨Lc2, hQ2, l2, y2, z2⟩, st2⟩ := Jvm.LawKit.callS X0 hx (y := (⟨"com/example/tenon/bench/FormRoundTrip", "status", "(DD)I"⟩ : MethodName)) hown (mvT hZ (hw _ (List.mem_of_getElem? (i := 1) rfl))) (mvT hZ (hw _ (List.mem_of_getElem? (i := 2) rfl))) (mvT hZ (hw _ (List.mem_of_getElem? (i := 3) rfl))) (mvT hZ (hw _ (List.mem_of_getElem? (i := 4) rfl))) (by decide) (backOf (W := 0) (rm1 l Z a0 hw [] x18 x26 h0 n0 Z0) hZ (hw _ (List.mem_of_getElem? (i := 4) rfl)) (hw _ (List.mem_of_getElem? (i := 3) rfl)) (by decide) (by decide)) (g := (mkF m 59 #[.val (.int i0), .val (.int i1), .val (.int x5), .val (.int x11), .val (.double x18), .second, .val (.double x26), .second, .val (.int v55)] [(.double x26), (.double x18)])) rfl (by rw [hml]; rfl) (argsL := [(.double x18), (.double x26)]) (rest := []) (lenOf own_pd0 rfl) rfl (by show 2 * 0 + _ ≤ _; exact Nat.le_of_eq rfl) (hb hby at_59) (fun _ _ => ⟨rfl, e0, (by decide : 0 + 0 ≤ _), (by decide : 0 + 0 ≤ _)⟩)
  dsimp only [Pt.U, Pt.locs, Pt.cells, Pt.slots] at X2 l2 y2 z2 st2 hQ2
  subst l2 y2 z2
  obtain ⟨rfl, N2q, e2q⟩ := hQ2
  have N2 := Fr.app N0 N2q
  obtain ⟨lc2, X2, N2⟩ : ∃ lc, Stand p l e room_1 s m #[(.int i0), (.int i1)] below meth c T2 lc 0 0 ∧ Fr n0 lc := ⟨_, X2, N2⟩
  refine Go.of st2 ?_
  show Go p e below Φ T2 (mkF m 62 #[.val (.int i0), .val (.int i1), .val (.int x5), .val (.int x11), .val (.double x18), .second, .val (.double x26), .second, .val (.int v55)] [(.int (own_status x18 x26))])
  refine Go.of (fun t k => XS.iload X2.here hx rfl (hb hby at_62) rfl  k) ?_
  show Go p e below Φ T2 (mkF m 64 #[.val (.int i0), .val (.int i1), .val (.int x5), .val (.int x11), .val (.double x18), .second, .val (.double x26), .second, .val (.int v55)] [(.int v55), (.int (own_status x18 x26))])
  suffices j72_3 :  ∀ v72 : Int32, v72 = (if (own_status x18 x26) = v55 then (1 : Int32) else (0 : Int32)) → Go p e below Φ T2 (mkF m 72 #[.val (.int i0), .val (.int i1), .val (.int x5), .val (.int x11), .val (.double x18), .second, .val (.double x26), .second, .val (.int v55)] [(.int v72)]) by
    by_cases hc64 : (own_status x18 x26) = v55
    · refine Go.of (fun t k => XS.icmpNo X2.here hx rfl (hb hby at_64) rfl (XT.ii_ne_f hc64) k) ?_
      show Go p e below Φ T2 (mkF m 67 #[.val (.int i0), .val (.int i1), .val (.int x5), .val (.int x11), .val (.double x18), .second, .val (.double x26), .second, .val (.int v55)] [])
      refine Go.of (fun t k => XS.iconst X2.here hx rfl (hb hby at_67) k) ?_
      show Go p e below Φ T2 (mkF m 68 #[.val (.int i0), .val (.int i1), .val (.int x5), .val (.int x11), .val (.double x18), .second, .val (.double x26), .second, .val (.int v55)] [(.int (1 : Int32))])
      refine Go.of (fun t k => XS.goto X2.here hx rfl (pc0 := 68) (pc' := 72) rfl (hb hby at_68) (by decide) (by decide) k) ?_
      show Go p e below Φ T2 (mkF m 72 #[.val (.int i0), .val (.int i1), .val (.int x5), .val (.int x11), .val (.double x18), .second, .val (.double x26), .second, .val (.int v55)] [(.int (1 : Int32))])
      exact j72_3 _ (by rw [if_pos hc64])
    · refine Go.of (fun t k => XS.icmpYes X2.here hx rfl (pc0 := 64) (pc' := 71) rfl (hb hby at_64) rfl (XT.ii_ne_t hc64) (by decide) (by decide) k) ?_
      show Go p e below Φ T2 (mkF m 71 #[.val (.int i0), .val (.int i1), .val (.int x5), .val (.int x11), .val (.double x18), .second, .val (.double x26), .second, .val (.int v55)] [])
      refine Go.of (fun t k => XS.iconst X2.here hx rfl (hb hby at_71) k) ?_
      show Go p e below Φ T2 (mkF m 72 #[.val (.int i0), .val (.int i1), .val (.int x5), .val (.int x11), .val (.double x18), .second, .val (.double x26), .second, .val (.int v55)] [(.int (0 : Int32))])
      exact j72_3 _ (by rw [if_neg hc64])
  intro v72 hv72
  show Go p e below Φ T2 (mkF m 72 #[.val (.int i0), .val (.int i1), .val (.int x5), .val (.int x11), .val (.double x18), .second, .val (.double x26), .second, .val (.int v55)] [(.int v72)])
  rw [hΦ]
  refine Go.ret X2 hx Bd.notSynchronized Bd.returns (own_one (own_plain i0 i1 x5 hx5 x11 hx11 x18 hx18 x26 hx26 v55 hv55 v72 hv72 )) (Or.inl ⟨rfl, Or.inr (Or.inl rfl), _, rfl⟩) (hb hby at_72) (by decide) (by decide) ?_
  rw [(e2q)]
  exact ⟨congrArg (fun z => some (Value.int z)) (own_plain i0 i1 x5 hx5 x11 hx11 x18 hx18 x26 hx26 v55 hv55 v72 hv72 ), N2⟩
set_option maxRecDepth 65536 in
set_option maxHeartbeats 40000000 in
theorem comes_1 {Post : Tables → Env → Array Value → State → Outcome → State → Prop} (hpost : ∀ tb e args s v u, (limb_1_1.after args s (.returned v) u = true ∧ limb_1_2.after args s (.returned v) u = true ∧ True) → FrameEnd s (.returned v) u (Jvm.fieldLocs frame_1_writes args s ++ Jvm.arrayLocs frame_1_arrays args s ++ Jvm.staticLocs frame_1_statics s) 0 0 → Post tb e args s (.returned v) u) :
    ArmFor flags0 classFile x code maxLocals ret World_1 tables_1 room_1 Calls_1 rest_1 Pre_1 Post := by
  intro l hfl _ _ p e ha hc hk s m args below hf hA hF happ hP
  obtain ⟨hcalls, hrest, hpre⟩ := hP
  obtain ⟨-, -, -, hnamed, -, -, -, hat⟩ := (Spec.applies_iff hf).mp happ
  obtain ⟨hg, hn⟩ := and_e (Cond.before_iff.mp (show (Jvm.Cond.and given_1 narrow_1).before args s = true from hpre))
  obtain ⟨g1, g2⟩ := and_e hg
  obtain ⟨g3, g4⟩ := and_e g2
  obtain ⟨w0, w1, rfl⟩ : ∃ w0 w1 : Value, args = #[w0, w1] := by
    have hs : args.size = 2 := by simpa [Cond.value, given_1] using g1
    obtain ⟨L⟩ := args
    match L, hs with
    | [w0, w1], _ => exact ⟨w0, w1, rfl⟩
  have hw := fun d (hd : d ∈ tables_1) => atoms_spec (ws := Jvm.Cond.code x code maxLocals ret :: tables_1) hat d (List.mem_cons_of_mem _ hd)
  have hfit : Fit s := fun {y c} hc i hi => by
    obtain ⟨ha, rfl⟩ := Array.getElem?_eq_some_iff.mp hc
    have q := List.all_eq_true.mp ((Array.all_eq_true_iff_forall_mem.mp hF) _ (Array.getElem_mem ha)) i (List.mem_range.mpr hi)
    simpa [Array.getElem?_eq_getElem hi] using q
  obtain ⟨i0, ei0⟩ := is_v g3
  obtain rfl : w0 = (.int i0) := Option.some.inj ei0
  obtain ⟨i1, ei1⟩ := is_v g4
  obtain rfl : w1 = (.int i1) := Option.some.inj ei1
  obtain ⟨n, o, h1, h2, h3, _, L, rfl, ⟨rfl, N⟩, hq⟩ := rm0 l s _ hw tables_1 i0 i1  s.heap s.heap.size (Nat.le_refl _)  p e ha hc hk s m _ below hf ((Spec.applies_iff_loose hf).mp happ).1 ⟨rfl, State.Warmed39.refl s, rfl⟩ trivial
  refine ⟨n, _, h1, h2, h3, hpost _ _ _ _ _ _ ⟨Cond.after_iff.mpr rfl, Cond.after_iff.mpr (eq_i res_at (Term.int_eval (1)) rfl), trivial⟩ ⟨hq.1, hq.2.1, (hq.2.2.sift fun y hy => Or.inr (N y hy)).mono (by decide) (by decide)⟩⟩
theorem main_1_1 : Claimed_1_1 := comes_1 fun _ _ _ _ _ _ h hF => ⟨h.1, hF⟩
theorem main_1_2 : Claimed_1_2 := comes_1 fun _ _ _ _ _ _ h hF => ⟨h.2.1, hF⟩
end Jvm.Pilot.@@N@@
namespace Jvm.Pilot.@@N@@
open Jvm Jvm.ClassFile Sem Op Lib Jvm.Free Jvm.Stand Jvm.Pilot.@@N@@.Jvm.D
/-! MADE BY PROGRAM (witnessworld.py) out of the Statement's table words and the real class files: 9 classes; the members and pool entries that the words name. The judged class is class 1, her method 1. -/
namespace start1
open Jvm.ClassFile
def u (s : String) : CpInfo := .utf8 (stringToUtf16 s)
/-- a pool by its gaps: so many unusable entries, then the entry; so many at the end -/
def gap : Nat → List CpInfo → List CpInfo
  | 0, r => r
  | n + 1, r => .unusable :: gap n r
def poolList (es : List (Nat × CpInfo)) (last : Nat) : List CpInfo := es.foldr (fun e r => gap e.1 (e.2 :: r)) (gap last [])
def pool (es : List (Nat × CpInfo)) (last : Nat) : Array CpInfo := ⟨poolList es last⟩
def fileOf (pool : Array CpInfo) (this : Nat) (attrs : Array Attribute := #[]) (ms : Array MethodInfo := #[]) (fl : Nat := 33) (sup : Nat := 0) (ifs : Array Nat := #[]) (fds : Array FieldInfo := #[]) : ClassFile where
  minorVersion := 0
  majorVersion := 65
  constantPool := pool
  accessFlags := fl
  thisClass := this
  superClass := sup
  interfaces := ifs
  fields := fds
  methods := ms
  attributes := attrs
def plain (name : String) (sup : Option ClassId) : Class where
  name := name
  kind := .ordinary
  loader := none
  accessFlags := 33
  super := sup
  interfaces := #[]
  cf := none
  fields := #[]
  methods := #[]
  instanceTypes := #[]
  staticTypes := #[]
  resolved := #[]
  callSites := []
  init := .initialized
  statics := none
  mirror := none

def pool0 : Array CpInfo := pool [(5, u "<init>"), (0, u "()V"), (1, .class_ 10), (1, u "java/lang/Object")] 113

def k0m0 : Method := { name := "<init>", desc := "()V", sig := { parameters := [], returnType := none }, accessFlags := 1, code := none }
/-- java/lang/Object -/
def k0 : Class := { plain "java/lang/Object" none with
  accessFlags := 33
  interfaces := #[]
  cf := some (fileOf pool0 8 #[] #[{ accessFlags := 1, nameIndex := 5, descriptorIndex := 6, attributes := #[] }] 33 0 #[] #[])
  fields := #[]
  methods := #[k0m0]
  instanceTypes := #[]
  staticTypes := #[]
  resolved := Array.replicate 124 none
  statics := none }

def pool1 : Array CpInfo := pool [(2, .class_ 4), (1, u "java/lang/Object"), (0, u "<init>"), (0, u "()V"), (0, .double 4636737291354636288), (1, .methodref 10 11), (0, .class_ 12), (0, .nameAndType 13 14), (0, u "com/example/tenon/bench/FormRoundTrip"), (0, u "status"), (0, u "(DD)I"), (0, .class_ 16), (0, u "com/example/tenon/bench/FormRoundTripStatusPinLaw"), (2, u "law"), (0, u "(II)Z")] 3

def k1m0 : Method := { name := "<init>", desc := "()V", sig := { parameters := [], returnType := none }, accessFlags := 2, code := none }
def k1c1 : Code := { maxStack := 4, maxLocals := 9, code := code, exceptionTable := #[], attributes := #[] }
def k1m1 : Method := { name := "law", desc := "(II)Z", sig := { parameters := [.int, .int], returnType := some .boolean }, accessFlags := 9, code := some k1c1 }
/-- com/example/tenon/bench/FormRoundTripStatusPinLaw -/
def k1 : Class := { plain "com/example/tenon/bench/FormRoundTripStatusPinLaw" (some 0) with
  accessFlags := 49
  interfaces := #[]
  cf := some (fileOf pool1 15 #[] #[{ accessFlags := 2, nameIndex := 5, descriptorIndex := 6, attributes := #[] }, { accessFlags := 9, nameIndex := 19, descriptorIndex := 20, attributes := #[] }] 49 2 #[] #[])
  fields := #[]
  methods := #[k1m0, k1m1]
  instanceTypes := #[]
  staticTypes := #[]
  resolved := Array.replicate 24 none
  statics := none }

def pool2 : Array CpInfo := pool [(2, .class_ 4), (1, u "java/lang/Object"), (0, u "<init>"), (0, u "()V"), (10, .class_ 19), (1, u "com/example/tenon/bench/FormRoundTrip"), (50, u "TENON"), (0, u "Lcom/example/tenon/bench/FormRoundTrip$Side;"), (1, .class_ 75), (1, u "com/example/tenon/bench/FormRoundTrip$Side"), (3, u "SERVER_JVM_OPTIONS"), (0, u "Ljava/util/List;"), (8, u "SPRING"), (35, .class_ 127), (1, u "com/example/tenon/bench/FormRoundTrip$Measured"), (27, u "status"), (0, u "(DD)I"), (53, .double 4605380978949069210), (8, .double 4608308318706860032), (1, .class_ 222), (0, u "com/example/tenon/bench/FormRoundTrip$Endpoint"), (22, u "SHOWN"), (152, u "FIELDS"), (0, u "Ljava/lang/String;"), (3, u "NOT_VALID"), (0, u "WARM_UP_REQUESTS"), (0, u "I"), (1, u "RUNS"), (1, u "CONCURRENT_CLIENTS"), (1, u "SINGLE_CLIENT_REQUESTS"), (1, u "CONCURRENT_REQUESTS"), (0, u "LATENCY_TARGET"), (0, u "D"), (0, u "THROUGHPUT_TARGET"), (0, u "NOISY_SPREAD"), (0, u "EXIT_MET"), (1, u "EXIT_NOT_MET")] 54

def k2m0 : Method := { name := "<init>", desc := "()V", sig := { parameters := [], returnType := none }, accessFlags := 2, code := none }
def k2c1 : Code := { maxStack := 4, maxLocals := 4, code := prog_5_method_7_code, exceptionTable := #[], attributes := #[] }
def k2m1 : Method := { name := "status", desc := "(DD)I", sig := { parameters := [.double, .double], returnType := some .int }, accessFlags := 8, code := some k2c1 }
/-- com/example/tenon/bench/FormRoundTrip -/
def k2 : Class := { plain "com/example/tenon/bench/FormRoundTrip" (some 0) with
  accessFlags := 49
  interfaces := #[]
  cf := some (fileOf pool2 17 #[.nestMembers #[125, 221, 73]] #[{ accessFlags := 2, nameIndex := 5, descriptorIndex := 6, attributes := #[] }, { accessFlags := 8, nameIndex := 155, descriptorIndex := 156, attributes := #[] }] 49 2 #[] #[{ accessFlags := 24, nameIndex := 398, descriptorIndex := 399, attributes := #[] }, { accessFlags := 26, nameIndex := 245, descriptorIndex := 80, attributes := #[] }, { accessFlags := 24, nameIndex := 403, descriptorIndex := 399, attributes := #[] }, { accessFlags := 26, nameIndex := 79, descriptorIndex := 80, attributes := #[] }, { accessFlags := 26, nameIndex := 404, descriptorIndex := 405, attributes := #[] }, { accessFlags := 26, nameIndex := 407, descriptorIndex := 405, attributes := #[] }, { accessFlags := 26, nameIndex := 409, descriptorIndex := 405, attributes := #[] }, { accessFlags := 26, nameIndex := 411, descriptorIndex := 405, attributes := #[] }, { accessFlags := 26, nameIndex := 413, descriptorIndex := 405, attributes := #[] }, { accessFlags := 26, nameIndex := 414, descriptorIndex := 415, attributes := #[] }, { accessFlags := 26, nameIndex := 416, descriptorIndex := 415, attributes := #[] }, { accessFlags := 26, nameIndex := 417, descriptorIndex := 415, attributes := #[] }, { accessFlags := 26, nameIndex := 418, descriptorIndex := 405, attributes := #[] }, { accessFlags := 26, nameIndex := 420, descriptorIndex := 405, attributes := #[] }, { accessFlags := 24, nameIndex := 70, descriptorIndex := 71, attributes := #[] }, { accessFlags := 26, nameIndex := 89, descriptorIndex := 71, attributes := #[] }])
  fields := #[{ name := "FIELDS", type := (.object "java/lang/String"), accessFlags := 24, slot := 0, constantValue := 0 }, { name := "SHOWN", type := (.object "java/util/List"), accessFlags := 26, slot := 1, constantValue := 0 }, { name := "NOT_VALID", type := (.object "java/lang/String"), accessFlags := 24, slot := 2, constantValue := 0 }, { name := "SERVER_JVM_OPTIONS", type := (.object "java/util/List"), accessFlags := 26, slot := 3, constantValue := 0 }, { name := "WARM_UP_REQUESTS", type := .int, accessFlags := 26, slot := 4, constantValue := 0 }, { name := "RUNS", type := .int, accessFlags := 26, slot := 5, constantValue := 0 }, { name := "CONCURRENT_CLIENTS", type := .int, accessFlags := 26, slot := 6, constantValue := 0 }, { name := "SINGLE_CLIENT_REQUESTS", type := .int, accessFlags := 26, slot := 7, constantValue := 0 }, { name := "CONCURRENT_REQUESTS", type := .int, accessFlags := 26, slot := 8, constantValue := 0 }, { name := "LATENCY_TARGET", type := .double, accessFlags := 26, slot := 9, constantValue := 0 }, { name := "THROUGHPUT_TARGET", type := .double, accessFlags := 26, slot := 10, constantValue := 0 }, { name := "NOISY_SPREAD", type := .double, accessFlags := 26, slot := 11, constantValue := 0 }, { name := "EXIT_MET", type := .int, accessFlags := 26, slot := 12, constantValue := 0 }, { name := "EXIT_NOT_MET", type := .int, accessFlags := 26, slot := 13, constantValue := 0 }, { name := "TENON", type := (.object "com/example/tenon/bench/FormRoundTrip$Side"), accessFlags := 24, slot := 14, constantValue := 0 }, { name := "SPRING", type := (.object "com/example/tenon/bench/FormRoundTrip$Side"), accessFlags := 26, slot := 15, constantValue := 0 }]
  methods := #[k2m0, k2m1]
  instanceTypes := #[]
  staticTypes := #[(.object "java/lang/String"), (.object "java/util/List"), (.object "java/lang/String"), (.object "java/util/List"), .int, .int, .int, .int, .int, .double, .double, .double, .int, .int, (.object "com/example/tenon/bench/FormRoundTrip$Side"), (.object "com/example/tenon/bench/FormRoundTrip$Side")]
  resolved := Array.replicate 475 none
  statics := none }

def pool3 : Array CpInfo := pool [(1, u "java/lang/Cloneable"), (0, .class_ 1), (0, u "java/lang/Object"), (0, .class_ 3)] 3

/-- java/lang/Cloneable -/
def k3 : Class := { plain "java/lang/Cloneable" (some 0) with
  accessFlags := 1537
  interfaces := #[]
  cf := some (fileOf pool3 2 #[] #[] 1537 4 #[] #[])
  fields := #[]
  methods := #[]
  instanceTypes := #[]
  staticTypes := #[]
  resolved := Array.replicate 8 none
  statics := none }

def pool4 : Array CpInfo := pool [(1, u "java/io/Serializable"), (0, .class_ 1), (0, u "java/lang/Object"), (0, .class_ 3)] 3

/-- java/io/Serializable -/
def k4 : Class := { plain "java/io/Serializable" (some 0) with
  accessFlags := 1537
  interfaces := #[]
  cf := some (fileOf pool4 2 #[] #[] 1537 4 #[] #[])
  fields := #[]
  methods := #[]
  instanceTypes := #[]
  staticTypes := #[]
  resolved := Array.replicate 8 none
  statics := none }

/-- the primitive byte -/
def k5 : Class := { plain "byte" none with kind := .primitive 'B', accessFlags := 0x411 }
/-- [B -/
def k6 : Class := { plain "[B" (some 0) with kind := .array 5 .byte, interfaces := #[3, 4], accessFlags := 1041 }

/-- the primitive int -/
def k7 : Class := { plain "int" none with kind := .primitive 'I', accessFlags := 0x411 }
/-- [I -/
def k8 : Class := { plain "[I" (some 0) with kind := .array 7 .int, interfaces := #[3, 4], accessFlags := 1041 }

def heap : Heap := #[]
def classes : Array Class := #[k0, k1, k2, k3, k4, k5, k6, k7, k8]
def interned : List (Array UInt16 × Addr) := []
def slotsUsed : Nat := 0
def theMethod : MethodId := ⟨1, 1⟩
def args0 : Array Value := #[.int 2, .int 5]
def aboutOver (below : List Frame) : State where
  vm := { classes := classes, interned := interned.toArray }
  heap := heap
  slotsUsed := slotsUsed
  threads := #[{ frames := .invoking theMethod args0 :: below }]
def below0 : List Frame := [.native { method := ⟨0, 0⟩, args := #[] }]
def about1 : State := aboutOver below0
def p0 : Program := .bare "" "" ""
def e0 : Env := launch0.env 0 0 0
theorem w_frames : about1.frames = Frame.invoking theMethod args0 :: below0 := rfl
set_option maxRecDepth 65536 in
theorem w_args : argsFit about1.vm theMethod args0 = true := by decide +kernel
set_option maxRecDepth 65536 in
theorem w_heap : heapFits about1 = true := by decide +kernel
set_option maxRecDepth 65536 in
theorem w_runnable : about1.curStatus? = some .runnable := by decide +kernel
set_option maxRecDepth 65536 in
theorem w_alone : about1.alone = true := by decide +kernel
set_option maxRecDepth 65536 in
theorem w_named : about1.methodNamed? x = some theMethod := by decide +kernel
set_option maxRecDepth 65536 in
theorem w_hears : about1.hears theMethod below0 = true := by decide +kernel
set_option maxRecDepth 65536 in
theorem w_ripe : about1.ripe theMethod args0 below0 = true := by decide +kernel
theorem w_running : about1.status = .running := rfl
set_option maxRecDepth 65536 in
theorem w_room : about1.hasRoom e0.platform room_1 = true :=
  launch0.hasRoom_least _ room_1 (by decide +kernel) (by decide +kernel) (by decide +kernel) (by decide +kernel) (by decide +kernel) (by decide +kernel)
theorem allAtoms_all (ts : List Jvm.Cond) (a : Array Jvm.Value) (st : Jvm.State) : (allAtoms ts).before a st = ts.all (fun c => c.before a st) := by
  induction ts with
  | nil => rfl
  | cons c t ih =>
    show (Jvm.Cond.and c (allAtoms t)).before a st = _
    rw [Jvm.Cond.before_and, ih, List.all_cons]
def words1 : List Jvm.Cond := Jvm.Cond.code x code maxLocals ret :: tables_1
/-- a 'code' word, met by the world's own term for the bytes: nothing is compared byte by byte -/
theorem code_word {y : MethodName} {bytes : ByteArray} {mx : Nat} {rt : Option FieldType} {a : Array Value} {s : State} {m : MethodId} {meth : Method} {c : Code} (h1 : s.methodNamed? y = some m) (h2 : s.vm.method? m = some meth) (h3 : meth.code = some c) (h4 : c.code = bytes)
    (h5 : (c.maxLocals == mx && c.exceptionTable.isEmpty && decide (c.maxStack ≤ mostOperands) && decide (meth.sig.returnType = rt) && !meth.locks && decide (parseMethodDescriptor y.desc = some meth.sig)) = true) : (Jvm.Cond.code y bytes mx rt).before a s = true := by
  simp only [Bool.and_eq_true, beq_iff_eq, Bool.not_eq_true', decide_eq_true_eq] at h5
  obtain ⟨⟨⟨⟨⟨g1, g2⟩, g3⟩, g4⟩, g5⟩, g6⟩ := h5
  simp [Cond.before, Cond.holds, Cond.value, h1, h2, h3, h4, g1, g2, g3, g4, g5, g6]
def isCode : Jvm.Cond → Bool
  | .code _ _ _ _ => true
  | _ => false
theorem all_split {L : List Jvm.Cond} {P : Jvm.Cond → Bool} (h1 : L.all (fun c => isCode c || P c) = true) (h2 : ∀ c ∈ L.filter isCode, P c = true) : L.all P = true := by
  refine List.all_eq_true.mpr fun c hc => ?_
  have h := List.all_eq_true.mp h1 c hc
  rcases Bool.eq_false_or_eq_true (isCode c) with hi | hi
  · exact h2 c (List.mem_filter.mpr ⟨hc, hi⟩)
  · simpa [hi] using h
set_option maxRecDepth 65536 in
theorem w_c0 : (Jvm.Cond.code x code maxLocals ret).before args0 about1 = true := code_word (m := ⟨1, 1⟩) (meth := k1m1) (c := k1c1) (by decide +kernel) rfl rfl rfl (by decide +kernel)
set_option maxRecDepth 65536 in
theorem w_c1 : (Jvm.Cond.code ({ cls := "com/example/tenon/bench/FormRoundTrip", name := "status", desc := "(DD)I" } : Jvm.MethodName) prog_5_method_7_code (4 : Nat) (Option.some Jvm.ClassFile.FieldType.int)).before args0 about1 = true := code_word (m := ⟨2, 1⟩) (meth := k2m1) (c := k2c1) (by decide +kernel) rfl rfl rfl (by decide +kernel)
def codes1 : List Jvm.Cond := [Jvm.Cond.code x code maxLocals ret, Jvm.Cond.code ({ cls := "com/example/tenon/bench/FormRoundTrip", name := "status", desc := "(DD)I" } : Jvm.MethodName) prog_5_method_7_code (4 : Nat) (Option.some Jvm.ClassFile.FieldType.int)]
set_option maxRecDepth 65536 in
theorem codes_eq : words1.filter isCode = codes1 := rfl
theorem w_codes : ∀ c ∈ words1.filter isCode, c.before args0 about1 = true := by
  rw [codes_eq]
  intro c hc
  simp only [codes1, List.mem_cons, List.not_mem_nil, or_false] at hc
  rcases hc with rfl | rfl
  · exact w_c0
  · exact w_c1
set_option maxRecDepth 65536 in
theorem w_t1 : words1.all (fun c => isCode c || c.before args0 about1) = true := by decide +kernel
theorem w_tables : (allAtoms (Jvm.Cond.code x code maxLocals ret :: tables_1)).before args0 about1 = true := by
  rw [allAtoms_all]
  show words1.all (fun c => c.before args0 about1) = true
  refine all_split ?_ w_codes
  rw [w_t1]
set_option maxRecDepth 65536 in
theorem w_case : (Jvm.Cond.and given_1 narrow_1).before args0 about1 = true := by decide +kernel
theorem w_applies : (headSpec (Jvm.Cond.code x code maxLocals ret :: tables_1) room_1).applies x e0.platform about1 = true :=
  (Spec.applies_iff w_frames).mpr ⟨w_running, w_runnable, w_alone, w_named, w_hears, w_ripe, w_room, w_tables⟩
theorem atStart : AtStart classFile x code maxLocals ret World_1 tables_1 room_1 Calls_1 rest_1 Pre_1 launch0 p0 e0 about1 theMethod args0 below0 :=
  ⟨lists_1, trivial, launch0.admits_env _ _ _, launch0.least_env, fairChoices_fair.cas, fairChoices_fair.clock, w_frames, w_args, w_heap, w_applies, trivial, trivial, w_case⟩
end start1
theorem witness_1 : WitnessClaimed_1 := ⟨start1.p0, start1.e0, start1.about1, start1.theMethod, start1.args0, start1.below0, start1.atStart⟩
end Jvm.Pilot.@@N@@
