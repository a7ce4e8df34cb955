import JvmDerived
import JvmDerived.Pilot.@@N@@Statement
import JvmDerived.Pilot.@@N@@Code
set_option linter.unusedVariables false
set_option linter.unusedSimpArgs false
namespace Jvm.Pilot.@@N@@
open Jvm Jvm.ClassFile Sem Op Lib Jvm.Free Jvm.Stand Jvm.LawKit Jvm.RoadKit Bundle Jvm.Pilot.@@N@@.Jvm.D
section Own
variable {p : Program} {l : Launch} {e : Env} {R : Room} {s : State} {m : MethodId} {args : Array Value} {below : List Frame} {meth : Method} {c : Code} {T T' : State} {locs : List Loc} {cells slots : Nat} {Φ : State → Outcome → Prop} {g g' : JFrame}
/-- from (T, g) the run comes to an end that Φ takes -/
def Go (p : Program) (e : Env) (below : List Frame) (Φ : State → Outcome → Prop) (T : State) (g : JFrame) : Prop := ∃ t o, Steps p.tables e below (T.setTop g) t ∧ Φ t o
theorem Go.of (h : ∀ t, Steps p.tables e below (T'.setTop g') t → Steps p.tables e below (T.setTop g) t) (k : Go p e below Φ T' g') : Go p e below Φ T g := by
  obtain ⟨t, o, h1, h2⟩ := k
  exact ⟨t, o, h t h1, h2⟩
theorem Go.tr (h : Steps p.tables e below (T.setTop g) (T'.setTop g')) (k : Go p e below Φ T' g') : Go p e below Φ T g := by
  obtain ⟨t, o, h1, h2⟩ := k
  exact ⟨t, o, h.trans h1, h2⟩
/-- what a body owes at its end -/
def EndQ (s : State) (below : List Frame) (Q : Option Value → Heap → List Loc → Prop) (C S : Nat) (t : State) (o : Outcome) : Prop := t.status = .running ∧ Ended t below o ∧ ∃ v L, o = .returned v ∧ Q v t.heap L ∧ FrameEnd s o t L C S
theorem Go.ret (X : Stand p l e R s m args below meth c T locs cells slots) (hx : p.tables.exec = Jvm.exec) (hlocks : meth.locks = false) {pc : Nat} {Ls : Array Slot} {w : Value} {t : FieldType} {i : Instr} {rest : List Value} (hret : meth.sig.returnType = some t) (hn : narrow t w = w)
    (hi : (i = .ireturn ∧ (t = .int ∨ t = .boolean ∨ t = .byte ∨ t = .char ∨ t = .short) ∧ ∃ z, w = .int z) ∨ (i = .lreturn ∧ t = .long ∧ ∃ z, w = .long z) ∨ (i = .dreturn ∧ t = .double ∧ ∃ z, w = .double z) ∨ (i = .freturn ∧ t = .float ∧ ∃ z, w = .float z) ∨ (i = .areturn ∧ t.isReference = true ∧ w.isRef = true))
    (hd : decode c.code pc = .ok (i, 1)) {Q : Option Value → Heap → List Loc → Prop} {C S : Nat} (hC : cells ≤ C) (hS : slots ≤ S) (hQ : Q (some w) T.heap locs) : Go p e below (EndQ s below Q C S) T (mkF m pc Ls (w :: rest)) := by
  obtain ⟨fs, hr, hrun, hended, hW, hsame⟩ := X.leave (v := some w) (fun h => by rw [hret] at h; cases h) hlocks
  exact ⟨_, _, retOut X hx hret hn hi hd hr, hrun, hended, _, _, rfl, hQ, ⟨_, rfl⟩, hW, hsame.mono hC hS⟩
theorem Go.retV (X : Stand p l e R s m args below meth c T locs cells slots) (hx : p.tables.exec = Jvm.exec) (hlocks : meth.locks = false) {pc : Nat} {Ls : Array Slot} (hret : meth.sig.returnType = none)
    (hd : decode c.code pc = .ok (.return_, 1)) {Q : Option Value → Heap → List Loc → Prop} {C S : Nat} (hC : cells ≤ C) (hS : slots ≤ S) (hQ : Q none T.heap locs) : Go p e below (EndQ s below Q C S) T (mkF m pc Ls []) := by
  obtain ⟨fs, hr, hrun, hended, hW, hsame⟩ := X.leave (v := none) (fun _ => rfl) hlocks
  exact ⟨_, _, X.returnOut hx hret hd hr, hrun, hended, _, _, rfl, hQ, ⟨_, rfl⟩, hW, hsame.mono hC hS⟩
def own_ushr (x y : Int32) : Int32 := (x.toUInt32 >>> (y &&& 31).toUInt32).toInt32
def own_ushrL (x : Int64) (y : Int32) : Int64 := (x.toUInt64 >>> (y &&& 0x3f).toInt64.toUInt64).toInt64
theorem own_one {v : Int32} (h : v = 1) : narrow .boolean (.int v) = .int v := by rw [h]; rfl
theorem own_nar_ref {t : FieldType} {v : Value} (h : v.isRef = true) (ht : t.isReference = true := by rfl) : narrow t v = v := by cases v <;> simp [Value.isRef] at h <;> cases t <;> first | rfl | cases ht
theorem own_fits_ref {t : FieldType} {v : Value} (h : v.isRef = true) (ht : t.isReference = true := by rfl) : fits t v = true := by cases v <;> simp [Value.isRef] at h <;> cases t <;> first | rfl | cases ht
end Own
theorem own_d1_0 : decode prog_65_method_8_code 0 = .ok (.iload_n 0, 1) := by decide +kernel
theorem own_d1_1 : decode prog_65_method_8_code 1 = .ok (.bipush 97, 2) := by decide +kernel
theorem own_d1_3 : decode prog_65_method_8_code 3 = .ok (.if_icmp .lt 9, 3) := by decide +kernel
theorem own_d1_6 : decode prog_65_method_8_code 6 = .ok (.iload_n 0, 1) := by decide +kernel
theorem own_d1_7 : decode prog_65_method_8_code 7 = .ok (.bipush 122, 2) := by decide +kernel
theorem own_d1_9 : decode prog_65_method_8_code 9 = .ok (.if_icmp .le 21, 3) := by decide +kernel
theorem own_d1_12 : decode prog_65_method_8_code 12 = .ok (.iload_n 0, 1) := by decide +kernel
theorem own_d1_13 : decode prog_65_method_8_code 13 = .ok (.bipush 65, 2) := by decide +kernel
theorem own_d1_15 : decode prog_65_method_8_code 15 = .ok (.if_icmp .lt 9, 3) := by decide +kernel
theorem own_d1_18 : decode prog_65_method_8_code 18 = .ok (.iload_n 0, 1) := by decide +kernel
theorem own_d1_19 : decode prog_65_method_8_code 19 = .ok (.bipush 90, 2) := by decide +kernel
theorem own_d1_21 : decode prog_65_method_8_code 21 = .ok (.if_icmp .le 9, 3) := by decide +kernel
theorem own_d1_24 : decode prog_65_method_8_code 24 = .ok (.iload_n 0, 1) := by decide +kernel
theorem own_d1_25 : decode prog_65_method_8_code 25 = .ok (.bipush 95, 2) := by decide +kernel
theorem own_d1_27 : decode prog_65_method_8_code 27 = .ok (.if_icmp .ne 7, 3) := by decide +kernel
theorem own_d1_30 : decode prog_65_method_8_code 30 = .ok (.iconst 1, 1) := by decide +kernel
theorem own_d1_31 : decode prog_65_method_8_code 31 = .ok (.goto 4, 3) := by decide +kernel
theorem own_d1_34 : decode prog_65_method_8_code 34 = .ok (.iconst 0, 1) := by decide +kernel
theorem own_d1_35 : decode prog_65_method_8_code 35 = .ok (.ireturn, 1) := by decide +kernel
theorem own_pn0 : plainName site_45.cls = true := by first | (simp [plainName, overriddenIn]; done) | decide +kernel
theorem own_pn1 : plainName x.cls = true := by first | (simp [plainName, overriddenIn]; done) | decide +kernel
theorem own_pd0 : parseMethodDescriptor "(C)Z" = some ⟨[.char], some .boolean⟩ := by decide +kernel
def own_starts (ch : Int32) : Int32 := (if ch < (97 : Int32) then (if ch < (65 : Int32) then (if ch = (95 : Int32) then (1 : Int32) else (0 : Int32)) else (if (90 : Int32) < ch then (if ch = (95 : Int32) then (1 : Int32) else (0 : Int32)) else (1 : Int32))) else (if (122 : Int32) < ch then (if ch < (65 : Int32) then (if ch = (95 : Int32) then (1 : Int32) else (0 : Int32)) else (if (90 : Int32) < ch then (if ch = (95 : Int32) then (1 : Int32) else (0 : Int32)) else (1 : Int32))) else (1 : Int32)))
theorem own_ef1 (m : MethodId) (ch : Int32) : entryFrame m #[(.int ch)] 1 = mkF m 0 #[.val (.int ch)] [] := by first | (simp [entryFrame, mkF, argsToLocals, Value.category]; done) | rfl
def Q1 (Z : State) (ch : Int32) (h0 : Heap) (n0 : Nat) (vr : Option Value) (hr : Heap) (Lr : List Loc) : Prop := vr = some (.int (own_starts ch)) ∧ Fr n0 Lr ∧ hr = h0
set_option maxRecDepth 65536 in
set_option maxHeartbeats 40000000 in
theorem rm1 (l : Launch) (Z : State) (a0 : Array Value) (hw : ∀ d ∈ tables_1, d.before a0 Z = true) (ws : List Jvm.Cond) (ch : Int32) (h0 : Heap) (n0 : Nat) (Z0 : n0 ≤ h0.size) :
    MetFree l (⟨site_45.cls, "startsName", "(C)Z"⟩ : MethodName) (head1 (Jvm.Cond.code (⟨site_45.cls, "startsName", "(C)Z"⟩ : MethodName) prog_65_method_8_code 1 (some .boolean) :: ws) ({ frames := 0, cells := 0, slots := 0, locals := 0 } : Room)) (fun aQ UQ => aQ = #[(.int ch)] ∧ Z.Warmed39 UQ.vm ∧ UQ.heap = h0) (fun _ _ _ _ _ => True) (fun _ UQ oQ VQ => ∃ vQ LQ, oQ = .returned vQ ∧ Q1 Z ch h0 n0 vQ VQ.heap LQ ∧ FrameEnd UQ oQ VQ LQ ({ frames := 0, cells := 0, slots := 0, locals := 0 } : Room).cells ({ frames := 0, cells := 0, slots := 0, locals := 0 } : Room).slots) := by
  refine MetFree.of_bodySF (plainFor_of_name own_pn0) hisR ?_
  intro p e s m args below meth c s₁ Bd hml0 hP hK
  obtain ⟨rfl, hZ, hh⟩ := hP
  have hx := Bd.exec
  have hby := Bd.bytes
  have hml : c.maxLocals = 1 := hml0
  have hown : s.vm.findClass site_45.cls = some m.cls := findClass_of_methodNamed Bd.named
  have hnm := (name_of_methodNamed Bd.named Bd.method).1
  have X0 : Stand p l e ({ frames := 0, cells := 0, slots := 0, locals := 0 } : Room) s m #[(.int ch)] below meth c s₁ [] 0 0 := Stand.of_body Bd
  have e0 : s₁.heap = h0 := by rw [← hh, Bd.state]; rfl
  have N0 := Fr.nil n0
  show Go p e below (EndQ s below (Q1 Z ch h0 n0) ({ frames := 0, cells := 0, slots := 0, locals := 0 } : Room).cells ({ frames := 0, cells := 0, slots := 0, locals := 0 } : Room).slots) s₁ (entryFrame m #[(.int ch)] 1)
  obtain ⟨Φ, hΦ⟩ : ∃ Φ, Φ = EndQ s below (Q1 Z ch h0 n0) ({ frames := 0, cells := 0, slots := 0, locals := 0 } : Room).cells ({ frames := 0, cells := 0, slots := 0, locals := 0 } : Room).slots := ⟨_, rfl⟩
  rw [← hΦ, own_ef1]
  show Go p e below Φ s₁ (mkF m 0 #[.val (.int ch)] [])
  refine Go.of (fun t k => XS.iloadN X0.here hx rfl (hb hby own_d1_0) rfl  k) ?_
  show Go p e below Φ s₁ (mkF m 1 #[.val (.int ch)] [(.int ch)])
  refine Go.of (fun t k => XS.bipush X0.here hx rfl (hb hby own_d1_1) k) ?_
  show Go p e below Φ s₁ (mkF m 3 #[.val (.int ch)] [(.int (97 : Int32)), (.int ch)])
  by_cases hc3 : ch < (97 : Int32)
  · refine Go.of (fun t k => XS.icmpYes X0.here hx rfl (pc0 := 3) (pc' := 12) rfl (hb hby own_d1_3) rfl (XT.ii_lt_t hc3) (by decide) (by decide) k) ?_
    show Go p e below Φ s₁ (mkF m 12 #[.val (.int ch)] [])
    refine Go.of (fun t k => XS.iloadN X0.here hx rfl (hb hby own_d1_12) rfl  k) ?_
    show Go p e below Φ s₁ (mkF m 13 #[.val (.int ch)] [(.int ch)])
    refine Go.of (fun t k => XS.bipush X0.here hx rfl (hb hby own_d1_13) k) ?_
    show Go p e below Φ s₁ (mkF m 15 #[.val (.int ch)] [(.int (65 : Int32)), (.int ch)])
    by_cases hc15 : ch < (65 : Int32)
    · refine Go.of (fun t k => XS.icmpYes X0.here hx rfl (pc0 := 15) (pc' := 24) rfl (hb hby own_d1_15) rfl (XT.ii_lt_t hc15) (by decide) (by decide) k) ?_
      show Go p e below Φ s₁ (mkF m 24 #[.val (.int ch)] [])
      refine Go.of (fun t k => XS.iloadN X0.here hx rfl (hb hby own_d1_24) rfl  k) ?_
      show Go p e below Φ s₁ (mkF m 25 #[.val (.int ch)] [(.int ch)])
      refine Go.of (fun t k => XS.bipush X0.here hx rfl (hb hby own_d1_25) k) ?_
      show Go p e below Φ s₁ (mkF m 27 #[.val (.int ch)] [(.int (95 : Int32)), (.int ch)])
      by_cases hc27 : ch = (95 : Int32)
      · refine Go.of (fun t k => XS.icmpNo X0.here hx rfl (hb hby own_d1_27) rfl (XT.ii_ne_f hc27) k) ?_
        show Go p e below Φ s₁ (mkF m 30 #[.val (.int ch)] [])
        refine Go.of (fun t k => XS.iconst X0.here hx rfl (hb hby own_d1_30) k) ?_
        show Go p e below Φ s₁ (mkF m 31 #[.val (.int ch)] [(.int (1 : Int32))])
        refine Go.of (fun t k => XS.goto X0.here hx rfl (pc0 := 31) (pc' := 35) rfl (hb hby own_d1_31) (by decide) (by decide) k) ?_
        show Go p e below Φ s₁ (mkF m 35 #[.val (.int ch)] [(.int (1 : Int32))])
        rw [hΦ]
        refine Go.ret X0 hx Bd.notSynchronized Bd.returns rfl (Or.inl ⟨rfl, Or.inr (Or.inl rfl), _, rfl⟩) (hb hby own_d1_35) (by decide) (by decide) ?_
        rw [e0]
        exact ⟨by rw [own_starts, if_pos hc3, if_pos hc15, if_pos hc27], N0, rfl⟩
      · refine Go.of (fun t k => XS.icmpYes X0.here hx rfl (pc0 := 27) (pc' := 34) rfl (hb hby own_d1_27) rfl (XT.ii_ne_t hc27) (by decide) (by decide) k) ?_
        show Go p e below Φ s₁ (mkF m 34 #[.val (.int ch)] [])
        refine Go.of (fun t k => XS.iconst X0.here hx rfl (hb hby own_d1_34) k) ?_
        show Go p e below Φ s₁ (mkF m 35 #[.val (.int ch)] [(.int (0 : Int32))])
        rw [hΦ]
        refine Go.ret X0 hx Bd.notSynchronized Bd.returns rfl (Or.inl ⟨rfl, Or.inr (Or.inl rfl), _, rfl⟩) (hb hby own_d1_35) (by decide) (by decide) ?_
        rw [e0]
        exact ⟨by rw [own_starts, if_pos hc3, if_pos hc15, if_neg hc27], N0, rfl⟩
    · refine Go.of (fun t k => XS.icmpNo X0.here hx rfl (hb hby own_d1_15) rfl (XT.ii_lt_f hc15) k) ?_
      show Go p e below Φ s₁ (mkF m 18 #[.val (.int ch)] [])
      refine Go.of (fun t k => XS.iloadN X0.here hx rfl (hb hby own_d1_18) rfl  k) ?_
      show Go p e below Φ s₁ (mkF m 19 #[.val (.int ch)] [(.int ch)])
      refine Go.of (fun t k => XS.bipush X0.here hx rfl (hb hby own_d1_19) k) ?_
      show Go p e below Φ s₁ (mkF m 21 #[.val (.int ch)] [(.int (90 : Int32)), (.int ch)])
      by_cases hc21 : (90 : Int32) < ch
      · refine Go.of (fun t k => XS.icmpNo X0.here hx rfl (hb hby own_d1_21) rfl (XT.ii_le_f hc21) k) ?_
        show Go p e below Φ s₁ (mkF m 24 #[.val (.int ch)] [])
        refine Go.of (fun t k => XS.iloadN X0.here hx rfl (hb hby own_d1_24) rfl  k) ?_
        show Go p e below Φ s₁ (mkF m 25 #[.val (.int ch)] [(.int ch)])
        refine Go.of (fun t k => XS.bipush X0.here hx rfl (hb hby own_d1_25) k) ?_
        show Go p e below Φ s₁ (mkF m 27 #[.val (.int ch)] [(.int (95 : Int32)), (.int ch)])
        by_cases hc27 : ch = (95 : Int32)
        · refine Go.of (fun t k => XS.icmpNo X0.here hx rfl (hb hby own_d1_27) rfl (XT.ii_ne_f hc27) k) ?_
          show Go p e below Φ s₁ (mkF m 30 #[.val (.int ch)] [])
          refine Go.of (fun t k => XS.iconst X0.here hx rfl (hb hby own_d1_30) k) ?_
          show Go p e below Φ s₁ (mkF m 31 #[.val (.int ch)] [(.int (1 : Int32))])
          refine Go.of (fun t k => XS.goto X0.here hx rfl (pc0 := 31) (pc' := 35) rfl (hb hby own_d1_31) (by decide) (by decide) k) ?_
          show Go p e below Φ s₁ (mkF m 35 #[.val (.int ch)] [(.int (1 : Int32))])
          rw [hΦ]
          refine Go.ret X0 hx Bd.notSynchronized Bd.returns rfl (Or.inl ⟨rfl, Or.inr (Or.inl rfl), _, rfl⟩) (hb hby own_d1_35) (by decide) (by decide) ?_
          rw [e0]
          exact ⟨by rw [own_starts, if_pos hc3, if_neg hc15, if_pos hc21, if_pos hc27], N0, rfl⟩
        · refine Go.of (fun t k => XS.icmpYes X0.here hx rfl (pc0 := 27) (pc' := 34) rfl (hb hby own_d1_27) rfl (XT.ii_ne_t hc27) (by decide) (by decide) k) ?_
          show Go p e below Φ s₁ (mkF m 34 #[.val (.int ch)] [])
          refine Go.of (fun t k => XS.iconst X0.here hx rfl (hb hby own_d1_34) k) ?_
          show Go p e below Φ s₁ (mkF m 35 #[.val (.int ch)] [(.int (0 : Int32))])
          rw [hΦ]
          refine Go.ret X0 hx Bd.notSynchronized Bd.returns rfl (Or.inl ⟨rfl, Or.inr (Or.inl rfl), _, rfl⟩) (hb hby own_d1_35) (by decide) (by decide) ?_
          rw [e0]
          exact ⟨by rw [own_starts, if_pos hc3, if_neg hc15, if_pos hc21, if_neg hc27], N0, rfl⟩
      · refine Go.of (fun t k => XS.icmpYes X0.here hx rfl (pc0 := 21) (pc' := 30) rfl (hb hby own_d1_21) rfl (XT.ii_le_t hc21) (by decide) (by decide) k) ?_
        show Go p e below Φ s₁ (mkF m 30 #[.val (.int ch)] [])
        refine Go.of (fun t k => XS.iconst X0.here hx rfl (hb hby own_d1_30) k) ?_
        show Go p e below Φ s₁ (mkF m 31 #[.val (.int ch)] [(.int (1 : Int32))])
        refine Go.of (fun t k => XS.goto X0.here hx rfl (pc0 := 31) (pc' := 35) rfl (hb hby own_d1_31) (by decide) (by decide) k) ?_
        show Go p e below Φ s₁ (mkF m 35 #[.val (.int ch)] [(.int (1 : Int32))])
        rw [hΦ]
        refine Go.ret X0 hx Bd.notSynchronized Bd.returns rfl (Or.inl ⟨rfl, Or.inr (Or.inl rfl), _, rfl⟩) (hb hby own_d1_35) (by decide) (by decide) ?_
        rw [e0]
        exact ⟨by rw [own_starts, if_pos hc3, if_neg hc15, if_neg hc21], N0, rfl⟩
  · refine Go.of (fun t k => XS.icmpNo X0.here hx rfl (hb hby own_d1_3) rfl (XT.ii_lt_f hc3) k) ?_
    show Go p e below Φ s₁ (mkF m 6 #[.val (.int ch)] [])
    refine Go.of (fun t k => XS.iloadN X0.here hx rfl (hb hby own_d1_6) rfl  k) ?_
    show Go p e below Φ s₁ (mkF m 7 #[.val (.int ch)] [(.int ch)])
    refine Go.of (fun t k => XS.bipush X0.here hx rfl (hb hby own_d1_7) k) ?_
    show Go p e below Φ s₁ (mkF m 9 #[.val (.int ch)] [(.int (122 : Int32)), (.int ch)])
    by_cases hc9 : (122 : Int32) < ch
    · refine Go.of (fun t k => XS.icmpNo X0.here hx rfl (hb hby own_d1_9) rfl (XT.ii_le_f hc9) k) ?_
      show Go p e below Φ s₁ (mkF m 12 #[.val (.int ch)] [])
      refine Go.of (fun t k => XS.iloadN X0.here hx rfl (hb hby own_d1_12) rfl  k) ?_
      show Go p e below Φ s₁ (mkF m 13 #[.val (.int ch)] [(.int ch)])
      refine Go.of (fun t k => XS.bipush X0.here hx rfl (hb hby own_d1_13) k) ?_
      show Go p e below Φ s₁ (mkF m 15 #[.val (.int ch)] [(.int (65 : Int32)), (.int ch)])
      by_cases hc15 : ch < (65 : Int32)
      · refine Go.of (fun t k => XS.icmpYes X0.here hx rfl (pc0 := 15) (pc' := 24) rfl (hb hby own_d1_15) rfl (XT.ii_lt_t hc15) (by decide) (by decide) k) ?_
        show Go p e below Φ s₁ (mkF m 24 #[.val (.int ch)] [])
        refine Go.of (fun t k => XS.iloadN X0.here hx rfl (hb hby own_d1_24) rfl  k) ?_
        show Go p e below Φ s₁ (mkF m 25 #[.val (.int ch)] [(.int ch)])
        refine Go.of (fun t k => XS.bipush X0.here hx rfl (hb hby own_d1_25) k) ?_
        show Go p e below Φ s₁ (mkF m 27 #[.val (.int ch)] [(.int (95 : Int32)), (.int ch)])
        by_cases hc27 : ch = (95 : Int32)
        · refine Go.of (fun t k => XS.icmpNo X0.here hx rfl (hb hby own_d1_27) rfl (XT.ii_ne_f hc27) k) ?_
          show Go p e below Φ s₁ (mkF m 30 #[.val (.int ch)] [])
          refine Go.of (fun t k => XS.iconst X0.here hx rfl (hb hby own_d1_30) k) ?_
          show Go p e below Φ s₁ (mkF m 31 #[.val (.int ch)] [(.int (1 : Int32))])
          refine Go.of (fun t k => XS.goto X0.here hx rfl (pc0 := 31) (pc' := 35) rfl (hb hby own_d1_31) (by decide) (by decide) k) ?_
          show Go p e below Φ s₁ (mkF m 35 #[.val (.int ch)] [(.int (1 : Int32))])
          rw [hΦ]
          refine Go.ret X0 hx Bd.notSynchronized Bd.returns rfl (Or.inl ⟨rfl, Or.inr (Or.inl rfl), _, rfl⟩) (hb hby own_d1_35) (by decide) (by decide) ?_
          rw [e0]
          exact ⟨by rw [own_starts, if_neg hc3, if_pos hc9, if_pos hc15, if_pos hc27], N0, rfl⟩
        · refine Go.of (fun t k => XS.icmpYes X0.here hx rfl (pc0 := 27) (pc' := 34) rfl (hb hby own_d1_27) rfl (XT.ii_ne_t hc27) (by decide) (by decide) k) ?_
          show Go p e below Φ s₁ (mkF m 34 #[.val (.int ch)] [])
          refine Go.of (fun t k => XS.iconst X0.here hx rfl (hb hby own_d1_34) k) ?_
          show Go p e below Φ s₁ (mkF m 35 #[.val (.int ch)] [(.int (0 : Int32))])
          rw [hΦ]
          refine Go.ret X0 hx Bd.notSynchronized Bd.returns rfl (Or.inl ⟨rfl, Or.inr (Or.inl rfl), _, rfl⟩) (hb hby own_d1_35) (by decide) (by decide) ?_
          rw [e0]
          exact ⟨by rw [own_starts, if_neg hc3, if_pos hc9, if_pos hc15, if_neg hc27], N0, rfl⟩
      · refine Go.of (fun t k => XS.icmpNo X0.here hx rfl (hb hby own_d1_15) rfl (XT.ii_lt_f hc15) k) ?_
        show Go p e below Φ s₁ (mkF m 18 #[.val (.int ch)] [])
        refine Go.of (fun t k => XS.iloadN X0.here hx rfl (hb hby own_d1_18) rfl  k) ?_
        show Go p e below Φ s₁ (mkF m 19 #[.val (.int ch)] [(.int ch)])
        refine Go.of (fun t k => XS.bipush X0.here hx rfl (hb hby own_d1_19) k) ?_
        show Go p e below Φ s₁ (mkF m 21 #[.val (.int ch)] [(.int (90 : Int32)), (.int ch)])
        by_cases hc21 : (90 : Int32) < ch
        · refine Go.of (fun t k => XS.icmpNo X0.here hx rfl (hb hby own_d1_21) rfl (XT.ii_le_f hc21) k) ?_
          show Go p e below Φ s₁ (mkF m 24 #[.val (.int ch)] [])
          refine Go.of (fun t k => XS.iloadN X0.here hx rfl (hb hby own_d1_24) rfl  k) ?_
          show Go p e below Φ s₁ (mkF m 25 #[.val (.int ch)] [(.int ch)])
          refine Go.of (fun t k => XS.bipush X0.here hx rfl (hb hby own_d1_25) k) ?_
          show Go p e below Φ s₁ (mkF m 27 #[.val (.int ch)] [(.int (95 : Int32)), (.int ch)])
          by_cases hc27 : ch = (95 : Int32)
          · refine Go.of (fun t k => XS.icmpNo X0.here hx rfl (hb hby own_d1_27) rfl (XT.ii_ne_f hc27) k) ?_
            show Go p e below Φ s₁ (mkF m 30 #[.val (.int ch)] [])
            refine Go.of (fun t k => XS.iconst X0.here hx rfl (hb hby own_d1_30) k) ?_
            show Go p e below Φ s₁ (mkF m 31 #[.val (.int ch)] [(.int (1 : Int32))])
            refine Go.of (fun t k => XS.goto X0.here hx rfl (pc0 := 31) (pc' := 35) rfl (hb hby own_d1_31) (by decide) (by decide) k) ?_
            show Go p e below Φ s₁ (mkF m 35 #[.val (.int ch)] [(.int (1 : Int32))])
            rw [hΦ]
            refine Go.ret X0 hx Bd.notSynchronized Bd.returns rfl (Or.inl ⟨rfl, Or.inr (Or.inl rfl), _, rfl⟩) (hb hby own_d1_35) (by decide) (by decide) ?_
            rw [e0]
            exact ⟨by rw [own_starts, if_neg hc3, if_pos hc9, if_neg hc15, if_pos hc21, if_pos hc27], N0, rfl⟩
          · refine Go.of (fun t k => XS.icmpYes X0.here hx rfl (pc0 := 27) (pc' := 34) rfl (hb hby own_d1_27) rfl (XT.ii_ne_t hc27) (by decide) (by decide) k) ?_
            show Go p e below Φ s₁ (mkF m 34 #[.val (.int ch)] [])
            refine Go.of (fun t k => XS.iconst X0.here hx rfl (hb hby own_d1_34) k) ?_
            show Go p e below Φ s₁ (mkF m 35 #[.val (.int ch)] [(.int (0 : Int32))])
            rw [hΦ]
            refine Go.ret X0 hx Bd.notSynchronized Bd.returns rfl (Or.inl ⟨rfl, Or.inr (Or.inl rfl), _, rfl⟩) (hb hby own_d1_35) (by decide) (by decide) ?_
            rw [e0]
            exact ⟨by rw [own_starts, if_neg hc3, if_pos hc9, if_neg hc15, if_pos hc21, if_neg hc27], N0, rfl⟩
        · refine Go.of (fun t k => XS.icmpYes X0.here hx rfl (pc0 := 21) (pc' := 30) rfl (hb hby own_d1_21) rfl (XT.ii_le_t hc21) (by decide) (by decide) k) ?_
          show Go p e below Φ s₁ (mkF m 30 #[.val (.int ch)] [])
          refine Go.of (fun t k => XS.iconst X0.here hx rfl (hb hby own_d1_30) k) ?_
          show Go p e below Φ s₁ (mkF m 31 #[.val (.int ch)] [(.int (1 : Int32))])
          refine Go.of (fun t k => XS.goto X0.here hx rfl (pc0 := 31) (pc' := 35) rfl (hb hby own_d1_31) (by decide) (by decide) k) ?_
          show Go p e below Φ s₁ (mkF m 35 #[.val (.int ch)] [(.int (1 : Int32))])
          rw [hΦ]
          refine Go.ret X0 hx Bd.notSynchronized Bd.returns rfl (Or.inl ⟨rfl, Or.inr (Or.inl rfl), _, rfl⟩) (hb hby own_d1_35) (by decide) (by decide) ?_
          rw [e0]
          exact ⟨by rw [own_starts, if_neg hc3, if_pos hc9, if_neg hc15, if_neg hc21], N0, rfl⟩
    · refine Go.of (fun t k => XS.icmpYes X0.here hx rfl (pc0 := 9) (pc' := 30) rfl (hb hby own_d1_9) rfl (XT.ii_le_t hc9) (by decide) (by decide) k) ?_
      show Go p e below Φ s₁ (mkF m 30 #[.val (.int ch)] [])
      refine Go.of (fun t k => XS.iconst X0.here hx rfl (hb hby own_d1_30) k) ?_
      show Go p e below Φ s₁ (mkF m 31 #[.val (.int ch)] [(.int (1 : Int32))])
      refine Go.of (fun t k => XS.goto X0.here hx rfl (pc0 := 31) (pc' := 35) rfl (hb hby own_d1_31) (by decide) (by decide) k) ?_
      show Go p e below Φ s₁ (mkF m 35 #[.val (.int ch)] [(.int (1 : Int32))])
      rw [hΦ]
      refine Go.ret X0 hx Bd.notSynchronized Bd.returns rfl (Or.inl ⟨rfl, Or.inr (Or.inl rfl), _, rfl⟩) (hb hby own_d1_35) (by decide) (by decide) ?_
      rw [e0]
      exact ⟨by rw [own_starts, if_neg hc3, if_neg hc9], N0, rfl⟩
theorem own_char (x : Int32) : ∃ n : Nat, n < 65536 ∧ x.toUInt32.toUInt16.toUInt32.toInt32 = Int32.ofInt (n : Int) := by
  obtain ⟨-, h0, h1⟩ := c_i2c x
  refine ⟨(x.toUInt32.toUInt16.toUInt32.toInt32).toInt.toNat, by omega, ?_⟩
  rw [Int.toNat_of_nonneg h0, Int32.ofInt_toInt]
theorem own_or_ge (a b : Int32) (ha : 0 ≤ a.toInt) (hb : 0 ≤ b.toInt) : a.toInt ≤ (a ||| b).toInt := by
  have m1 : a.toBitVec.msb = false := by rw [BitVec.msb_eq_toInt]; exact decide_eq_false (Int.not_lt.mpr ha)
  have m2 : b.toBitVec.msb = false := by rw [BitVec.msb_eq_toInt]; exact decide_eq_false (Int.not_lt.mpr hb)
  have m : (a.toBitVec ||| b.toBitVec).msb = false := by rw [BitVec.msb_or, m1, m2]; rfl
  have t : (a ||| b).toInt = ((a.toBitVec ||| b.toBitVec).toNat : Int) := BitVec.toInt_eq_toNat_of_msb m
  have t2 : a.toInt = (a.toBitVec.toNat : Int) := BitVec.toInt_eq_toNat_of_msb m1
  rw [t, t2, BitVec.toNat_or]
  exact Int.ofNat_le.mpr Nat.left_le_or
def own_all (c : Int32) : Bool := decide (own_starts c = (if (if ((c ||| (32 : Int32)) - (97 : Int32)) < (0 : Int32) then (0 : Int32) else (if ((c ||| (32 : Int32)) - (97 : Int32)) < (26 : Int32) then (1 : Int32) else (0 : Int32))) = (0 : Int32) then (if c = (95 : Int32) then (1 : Int32) else (0 : Int32)) else (1 : Int32)))
theorem own_small : ∀ n : Fin 128, own_all (Int32.ofInt (n.val : Int)) = true := by decide +kernel
theorem own_plain (i0 : Int32) (x2 : Int32) (hx2 : x2 = (i0.toUInt32.toUInt16.toUInt32.toInt32)) (x10 : Int32) (hx10 : x10 = ((x2 ||| (32 : Int32)) - (97 : Int32))) (v26 : Int32) (hv26 : v26 = (if x10 < (0 : Int32) then (0 : Int32) else (if x10 < (26 : Int32) then (1 : Int32) else (0 : Int32)))) (v42 : Int32) (hv42 : v42 = (if v26 = (0 : Int32) then (if x2 = (95 : Int32) then (1 : Int32) else (0 : Int32)) else (1 : Int32))) (v58 : Int32) (hv58 : v58 = (if (own_starts x2) = v42 then (1 : Int32) else (0 : Int32)))  : v58 = (1 : Int32) := by
  by_cases h : x2.toInt < 128
  · obtain ⟨n, hn, e⟩ := own_char i0
    have h0 := (c_i2c i0).2.1
    have e2 : n < 128 := by
      have q : x2 = Int32.ofInt (n : Int) := hx2.trans e
      have : x2.toInt = (n : Int) := by rw [q, Int32.toInt_ofInt]; exact Int.bmod_eq_of_le (by show -(4294967296 / 2) ≤ _; omega) (by show _ < (4294967296 + 1) / 2; omega)
      omega
    have k := of_decide_eq_true (own_small ⟨n, e2⟩)
    subst hx10 hv26 hv42 hv58
    rw [hx2, e, if_pos k]
  · have h2 := (c_i2c i0).2.2
    rw [← hx2] at h2
    have o := own_or_ge x2 32 (by omega) (by decide)
    have s1 := c_isub (x2 ||| 32) 97
    have s2 := rng32 (x2 ||| 32)
    have s3 := rng32 x10
    rw [← hx10] at s1
    have k97 : (97 : Int32).toInt = 97 := by decide
    have k0 : (0 : Int32).toInt = 0 := by decide
    have k26 : (26 : Int32).toInt = 26 := by decide
    have k65 : (65 : Int32).toInt = 65 := by decide
    have k90 : (90 : Int32).toInt = 90 := by decide
    have k122 : (122 : Int32).toInt = 122 := by decide
    have k95 : (95 : Int32).toInt = 95 := by decide
    have n1 : ¬ x10 < (0 : Int32) := by rw [Int32.lt_iff_toInt_lt]; omega
    have n2 : ¬ x10 < (26 : Int32) := by rw [Int32.lt_iff_toInt_lt]; omega
    have n3 : ¬ x2 = (95 : Int32) := fun q => by rw [q] at h; omega
    have n4 : ¬ x2 < (97 : Int32) := by rw [Int32.lt_iff_toInt_lt]; omega
    have n5 : (122 : Int32) < x2 := by rw [Int32.lt_iff_toInt_lt]; omega
    have n6 : ¬ x2 < (65 : Int32) := by rw [Int32.lt_iff_toInt_lt]; omega
    have n7 : (90 : Int32) < x2 := by rw [Int32.lt_iff_toInt_lt]; omega
    have s : own_starts x2 = 0 := by rw [own_starts, if_neg n4, if_pos n5, if_neg n6, if_pos n7, if_neg n3]
    rw [if_neg n1, if_neg n2] at hv26
    rw [hv26, if_pos rfl, if_neg n3] at hv42
    rw [hv58, s, hv42, if_pos rfl]
theorem own_ef0 (m : MethodId) (i0 : Int32) : entryFrame m #[(.int i0)] maxLocals = mkF m 0 #[.val (.int i0), .unset, .unset, .unset, .unset] [] := by first | (simp [entryFrame, mkF, argsToLocals, Value.category, maxLocals]; done) | rfl
def Q0 (Z : State) (i0 : Int32) (h0 : Heap) (n0 : Nat) (vr : Option Value) (hr : Heap) (Lr : List Loc) : Prop := vr = some (.int 1) ∧ Fr n0 Lr
set_option maxRecDepth 65536 in
set_option maxHeartbeats 40000000 in
theorem rm0 (l : Launch) (Z : State) (a0 : Array Value) (hw : ∀ d ∈ tables_1, d.before a0 Z = true) (ws : List Jvm.Cond) (i0 : Int32) (h0 : Heap) (n0 : Nat) (Z0 : n0 ≤ h0.size) :
    MetFree l x (head1 (Jvm.Cond.code x code maxLocals ret :: ws) room_1) (fun aQ UQ => aQ = #[(.int i0)] ∧ Z.Warmed39 UQ.vm ∧ UQ.heap = h0) (fun _ _ _ _ _ => True) (fun _ UQ oQ VQ => ∃ vQ LQ, oQ = .returned vQ ∧ Q0 Z i0 h0 n0 vQ VQ.heap LQ ∧ FrameEnd UQ oQ VQ LQ 0 0) := by
  refine MetFree.of_bodySF (plainFor_of_name own_pn1) hisR ?_
  intro p e s m args below meth c s₁ Bd hml0 hP hK
  obtain ⟨rfl, hZ, hh⟩ := hP
  have hx := Bd.exec
  have hby := Bd.bytes
  have hml : c.maxLocals = 5 := hml0
  have hown : s.vm.findClass x.cls = some m.cls := findClass_of_methodNamed Bd.named
  have hnm := (name_of_methodNamed Bd.named Bd.method).1
  have X0 : Stand p l e room_1 s m #[(.int i0)] below meth c s₁ [] 0 0 := Stand.of_body Bd
  have e0 : s₁.heap = h0 := by rw [← hh, Bd.state]; rfl
  have N0 := Fr.nil n0
  show Go p e below (EndQ s below (Q0 Z i0 h0 n0) 0 0) s₁ (entryFrame m #[(.int i0)] maxLocals)
  obtain ⟨Φ, hΦ⟩ : ∃ Φ, Φ = EndQ s below (Q0 Z i0 h0 n0) 0 0 := ⟨_, rfl⟩
  rw [← hΦ, own_ef0]
  show Go p e below Φ s₁ (mkF m 0 #[.val (.int i0), .unset, .unset, .unset, .unset] [])
  refine Go.of (fun t k => XS.iloadN X0.here hx rfl (hb hby at_0) rfl  k) ?_
  show Go p e below Φ s₁ (mkF m 1 #[.val (.int i0), .unset, .unset, .unset, .unset] [(.int i0)])
  refine Go.of (fun t k => XS.i2c X0.here hx rfl (hb hby at_1) rfl k) ?_
  show Go p e below Φ s₁ (mkF m 2 #[.val (.int i0), .unset, .unset, .unset, .unset] [(.int (i0.toUInt32.toUInt16.toUInt32.toInt32))])
  obtain ⟨x2, hx2⟩ : ∃ z : Int32, z = (i0.toUInt32.toUInt16.toUInt32.toInt32) := ⟨_, rfl⟩
  rw [← hx2]
  refine Go.of (fun t k => XS.istoreN X0.here hx rfl (hb hby at_2) rfl (l' := #[.val (.int i0), .val (.int x2), .unset, .unset, .unset]) rfl k) ?_
  show Go p e below Φ s₁ (mkF m 3 #[.val (.int i0), .val (.int x2), .unset, .unset, .unset] [])
  refine Go.of (fun t k => XS.iloadN X0.here hx rfl (hb hby at_3) rfl  k) ?_
  show Go p e below Φ s₁ (mkF m 4 #[.val (.int i0), .val (.int x2), .unset, .unset, .unset] [(.int x2)])
  refine Go.of (fun t k => XS.bipush X0.here hx rfl (hb hby at_4) k) ?_
  show Go p e below Φ s₁ (mkF m 6 #[.val (.int i0), .val (.int x2), .unset, .unset, .unset] [(.int (32 : Int32)), (.int x2)])
  refine Go.of (fun t k => XS.ior X0.here hx rfl (hb hby at_6) rfl k) ?_
  show Go p e below Φ s₁ (mkF m 7 #[.val (.int i0), .val (.int x2), .unset, .unset, .unset] [(.int (x2 ||| (32 : Int32)))])
  refine Go.of (fun t k => XS.bipush X0.here hx rfl (hb hby at_7) k) ?_
  show Go p e below Φ s₁ (mkF m 9 #[.val (.int i0), .val (.int x2), .unset, .unset, .unset] [(.int (97 : Int32)), (.int (x2 ||| (32 : Int32)))])
  refine Go.of (fun t k => XS.isub X0.here hx rfl (hb hby at_9) rfl k) ?_
  show Go p e below Φ s₁ (mkF m 10 #[.val (.int i0), .val (.int x2), .unset, .unset, .unset] [(.int ((x2 ||| (32 : Int32)) - (97 : Int32)))])
  obtain ⟨x10, hx10⟩ : ∃ z : Int32, z = ((x2 ||| (32 : Int32)) - (97 : Int32)) := ⟨_, rfl⟩
  rw [← hx10]
  refine Go.of (fun t k => XS.istoreN X0.here hx rfl (hb hby at_10) rfl (l' := #[.val (.int i0), .val (.int x2), .val (.int x10), .unset, .unset]) rfl k) ?_
  show Go p e below Φ s₁ (mkF m 11 #[.val (.int i0), .val (.int x2), .val (.int x10), .unset, .unset] [])
  refine Go.of (fun t k => XS.iloadN X0.here hx rfl (hb hby at_11) rfl  k) ?_
  show Go p e below Φ s₁ (mkF m 12 #[.val (.int i0), .val (.int x2), .val (.int x10), .unset, .unset] [(.int x10)])
  suffices j26_1 :  ∀ v26 : Int32, v26 = (if x10 < (0 : Int32) then (0 : Int32) else (if x10 < (26 : Int32) then (1 : Int32) else (0 : Int32))) → Go p e below Φ s₁ (mkF m 26 #[.val (.int i0), .val (.int x2), .val (.int x10), .unset, .unset] [(.int v26)]) by
    by_cases hc12 : x10 < (0 : Int32)
    · refine Go.of (fun t k => XS.ifYes X0.here hx rfl (pc0 := 12) (pc' := 25) rfl (hb hby at_12) rfl (XT.i0_lt_t hc12) (by decide) (by decide) k) ?_
      show Go p e below Φ s₁ (mkF m 25 #[.val (.int i0), .val (.int x2), .val (.int x10), .unset, .unset] [])
      refine Go.of (fun t k => XS.iconst X0.here hx rfl (hb hby at_25) k) ?_
      show Go p e below Φ s₁ (mkF m 26 #[.val (.int i0), .val (.int x2), .val (.int x10), .unset, .unset] [(.int (0 : Int32))])
      exact j26_1 _ (by rw [if_pos hc12])
    · refine Go.of (fun t k => XS.ifNo X0.here hx rfl (hb hby at_12) rfl (XT.i0_lt_f hc12) k) ?_
      show Go p e below Φ s₁ (mkF m 15 #[.val (.int i0), .val (.int x2), .val (.int x10), .unset, .unset] [])
      refine Go.of (fun t k => XS.iloadN X0.here hx rfl (hb hby at_15) rfl  k) ?_
      show Go p e below Φ s₁ (mkF m 16 #[.val (.int i0), .val (.int x2), .val (.int x10), .unset, .unset] [(.int x10)])
      refine Go.of (fun t k => XS.bipush X0.here hx rfl (hb hby at_16) k) ?_
      show Go p e below Φ s₁ (mkF m 18 #[.val (.int i0), .val (.int x2), .val (.int x10), .unset, .unset] [(.int (26 : Int32)), (.int x10)])
      by_cases hc18 : x10 < (26 : Int32)
      · refine Go.of (fun t k => XS.icmpNo X0.here hx rfl (hb hby at_18) rfl (XT.ii_ge_f hc18) k) ?_
        show Go p e below Φ s₁ (mkF m 21 #[.val (.int i0), .val (.int x2), .val (.int x10), .unset, .unset] [])
        refine Go.of (fun t k => XS.iconst X0.here hx rfl (hb hby at_21) k) ?_
        show Go p e below Φ s₁ (mkF m 22 #[.val (.int i0), .val (.int x2), .val (.int x10), .unset, .unset] [(.int (1 : Int32))])
        refine Go.of (fun t k => XS.goto X0.here hx rfl (pc0 := 22) (pc' := 26) rfl (hb hby at_22) (by decide) (by decide) k) ?_
        show Go p e below Φ s₁ (mkF m 26 #[.val (.int i0), .val (.int x2), .val (.int x10), .unset, .unset] [(.int (1 : Int32))])
        exact j26_1 _ (by rw [if_neg hc12, if_pos hc18])
      · refine Go.of (fun t k => XS.icmpYes X0.here hx rfl (pc0 := 18) (pc' := 25) rfl (hb hby at_18) rfl (XT.ii_ge_t hc18) (by decide) (by decide) k) ?_
        show Go p e below Φ s₁ (mkF m 25 #[.val (.int i0), .val (.int x2), .val (.int x10), .unset, .unset] [])
        refine Go.of (fun t k => XS.iconst X0.here hx rfl (hb hby at_25) k) ?_
        show Go p e below Φ s₁ (mkF m 26 #[.val (.int i0), .val (.int x2), .val (.int x10), .unset, .unset] [(.int (0 : Int32))])
        exact j26_1 _ (by rw [if_neg hc12, if_neg hc18])
  intro v26 hv26
  show Go p e below Φ s₁ (mkF m 26 #[.val (.int i0), .val (.int x2), .val (.int x10), .unset, .unset] [(.int v26)])
  refine Go.of (fun t k => XS.istoreN X0.here hx rfl (hb hby at_26) rfl (l' := #[.val (.int i0), .val (.int x2), .val (.int x10), .val (.int v26), .unset]) rfl k) ?_
  show Go p e below Φ s₁ (mkF m 27 #[.val (.int i0), .val (.int x2), .val (.int x10), .val (.int v26), .unset] [])
  refine Go.of (fun t k => XS.iloadN X0.here hx rfl (hb hby at_27) rfl  k) ?_
  show Go p e below Φ s₁ (mkF m 28 #[.val (.int i0), .val (.int x2), .val (.int x10), .val (.int v26), .unset] [(.int v26)])
  suffices j42_2 :  ∀ v42 : Int32, v42 = (if v26 = (0 : Int32) then (if x2 = (95 : Int32) then (1 : Int32) else (0 : Int32)) else (1 : Int32)) → Go p e below Φ s₁ (mkF m 42 #[.val (.int i0), .val (.int x2), .val (.int x10), .val (.int v26), .unset] [(.int v42)]) by
    by_cases hc28 : v26 = (0 : Int32)
    · refine Go.of (fun t k => XS.ifNo X0.here hx rfl (hb hby at_28) rfl (XT.i0_ne_f hc28) k) ?_
      show Go p e below Φ s₁ (mkF m 31 #[.val (.int i0), .val (.int x2), .val (.int x10), .val (.int v26), .unset] [])
      refine Go.of (fun t k => XS.iloadN X0.here hx rfl (hb hby at_31) rfl  k) ?_
      show Go p e below Φ s₁ (mkF m 32 #[.val (.int i0), .val (.int x2), .val (.int x10), .val (.int v26), .unset] [(.int x2)])
      refine Go.of (fun t k => XS.bipush X0.here hx rfl (hb hby at_32) k) ?_
      show Go p e below Φ s₁ (mkF m 34 #[.val (.int i0), .val (.int x2), .val (.int x10), .val (.int v26), .unset] [(.int (95 : Int32)), (.int x2)])
      by_cases hc34 : x2 = (95 : Int32)
      · refine Go.of (fun t k => XS.icmpNo X0.here hx rfl (hb hby at_34) rfl (XT.ii_ne_f hc34) k) ?_
        show Go p e below Φ s₁ (mkF m 37 #[.val (.int i0), .val (.int x2), .val (.int x10), .val (.int v26), .unset] [])
        refine Go.of (fun t k => XS.iconst X0.here hx rfl (hb hby at_37) k) ?_
        show Go p e below Φ s₁ (mkF m 38 #[.val (.int i0), .val (.int x2), .val (.int x10), .val (.int v26), .unset] [(.int (1 : Int32))])
        refine Go.of (fun t k => XS.goto X0.here hx rfl (pc0 := 38) (pc' := 42) rfl (hb hby at_38) (by decide) (by decide) k) ?_
        show Go p e below Φ s₁ (mkF m 42 #[.val (.int i0), .val (.int x2), .val (.int x10), .val (.int v26), .unset] [(.int (1 : Int32))])
        exact j42_2 _ (by rw [if_pos hc28, if_pos hc34])
      · refine Go.of (fun t k => XS.icmpYes X0.here hx rfl (pc0 := 34) (pc' := 41) rfl (hb hby at_34) rfl (XT.ii_ne_t hc34) (by decide) (by decide) k) ?_
        show Go p e below Φ s₁ (mkF m 41 #[.val (.int i0), .val (.int x2), .val (.int x10), .val (.int v26), .unset] [])
        refine Go.of (fun t k => XS.iconst X0.here hx rfl (hb hby at_41) k) ?_
        show Go p e below Φ s₁ (mkF m 42 #[.val (.int i0), .val (.int x2), .val (.int x10), .val (.int v26), .unset] [(.int (0 : Int32))])
        exact j42_2 _ (by rw [if_pos hc28, if_neg hc34])
    · refine Go.of (fun t k => XS.ifYes X0.here hx rfl (pc0 := 28) (pc' := 37) rfl (hb hby at_28) rfl (XT.i0_ne_t hc28) (by decide) (by decide) k) ?_
      show Go p e below Φ s₁ (mkF m 37 #[.val (.int i0), .val (.int x2), .val (.int x10), .val (.int v26), .unset] [])
      refine Go.of (fun t k => XS.iconst X0.here hx rfl (hb hby at_37) k) ?_
      show Go p e below Φ s₁ (mkF m 38 #[.val (.int i0), .val (.int x2), .val (.int x10), .val (.int v26), .unset] [(.int (1 : Int32))])
      refine Go.of (fun t k => XS.goto X0.here hx rfl (pc0 := 38) (pc' := 42) rfl (hb hby at_38) (by decide) (by decide) k) ?_
      show Go p e below Φ s₁ (mkF m 42 #[.val (.int i0), .val (.int x2), .val (.int x10), .val (.int v26), .unset] [(.int (1 : Int32))])
      exact j42_2 _ (by rw [if_neg hc28])
  intro v42 hv42
  show Go p e below Φ s₁ (mkF m 42 #[.val (.int i0), .val (.int x2), .val (.int x10), .val (.int v26), .unset] [(.int v42)])
  refine Go.of (fun t k => XS.istore X0.here hx rfl (hb hby at_42) rfl (l' := #[.val (.int i0), .val (.int x2), .val (.int x10), .val (.int v26), .val (.int v42)]) rfl k) ?_
  show Go p e below Φ s₁ (mkF m 44 #[.val (.int i0), .val (.int x2), .val (.int x10), .val (.int v26), .val (.int v42)] [])
  refine Go.of (fun t k => XS.iloadN X0.here hx rfl (hb hby at_44) rfl  k) ?_
  show Go p e below Φ s₁ (mkF m 45 #[.val (.int i0), .val (.int x2), .val (.int x10), .val (.int v26), .val (.int v42)] [(.int x2)])
  obtain ⟨_, _, ⟨T3, L3, k3, n3⟩, -, X3, ⟨Lc3, hQ3, l3, y3, z3⟩, st3⟩ := Jvm.LawKit.callS X0 hx (y := (⟨site_45.cls, "startsName", "(C)Z"⟩ : MethodName)) hown (mvT hZ (hw _ (List.mem_of_getElem? (i := 0) rfl))) (mvT hZ (hw _ (List.mem_of_getElem? (i := 1) rfl))) (mvT hZ (hw _ (List.mem_of_getElem? (i := 2) rfl))) (mvT hZ (hw _ (List.mem_of_getElem? (i := 3) rfl))) (by decide) (backOf (W := 0) (rm1 l Z a0 hw [] x2 h0 n0 Z0) hZ (hw _ (List.mem_of_getElem? (i := 3) rfl)) (hw _ (List.mem_of_getElem? (i := 2) rfl)) (by decide) (by decide)) (g := (mkF m 45 #[.val (.int i0), .val (.int x2), .val (.int x10), .val (.int v26), .val (.int v42)] [(.int x2)])) rfl (by rw [hml]; rfl) (argsL := [(.int x2)]) (rest := []) (lenOf own_pd0 rfl) rfl (by show 2 * 0 + _ ≤ _; exact Nat.le_of_eq rfl) (hb hby at_45) (fun _ _ => ⟨rfl, e0, (by decide : 0 + 0 ≤ _), (by decide : 0 + 0 ≤ _)⟩)
  dsimp only [Pt.U, Pt.locs, Pt.cells, Pt.slots] at X3 l3 y3 z3 st3 hQ3
  subst l3 y3 z3
  obtain ⟨rfl, N3q, e3q⟩ := hQ3
  have N3 := Fr.app N0 N3q
  obtain ⟨lc3, X3, N3⟩ : ∃ lc, Stand p l e room_1 s m #[(.int i0)] below meth c T3 lc 0 0 ∧ Fr n0 lc := ⟨_, X3, N3⟩
  refine Go.of st3 ?_
  show Go p e below Φ T3 (mkF m 48 #[.val (.int i0), .val (.int x2), .val (.int x10), .val (.int v26), .val (.int v42)] [(.int (own_starts x2))])
  refine Go.of (fun t k => XS.iload X3.here hx rfl (hb hby at_48) rfl  k) ?_
  show Go p e below Φ T3 (mkF m 50 #[.val (.int i0), .val (.int x2), .val (.int x10), .val (.int v26), .val (.int v42)] [(.int v42), (.int (own_starts x2))])
  suffices j58_4 :  ∀ v58 : Int32, v58 = (if (own_starts x2) = v42 then (1 : Int32) else (0 : Int32)) → Go p e below Φ T3 (mkF m 58 #[.val (.int i0), .val (.int x2), .val (.int x10), .val (.int v26), .val (.int v42)] [(.int v58)]) by
    by_cases hc50 : (own_starts x2) = v42
    · refine Go.of (fun t k => XS.icmpNo X3.here hx rfl (hb hby at_50) rfl (XT.ii_ne_f hc50) k) ?_
      show Go p e below Φ T3 (mkF m 53 #[.val (.int i0), .val (.int x2), .val (.int x10), .val (.int v26), .val (.int v42)] [])
      refine Go.of (fun t k => XS.iconst X3.here hx rfl (hb hby at_53) k) ?_
      show Go p e below Φ T3 (mkF m 54 #[.val (.int i0), .val (.int x2), .val (.int x10), .val (.int v26), .val (.int v42)] [(.int (1 : Int32))])
      refine Go.of (fun t k => XS.goto X3.here hx rfl (pc0 := 54) (pc' := 58) rfl (hb hby at_54) (by decide) (by decide) k) ?_
      show Go p e below Φ T3 (mkF m 58 #[.val (.int i0), .val (.int x2), .val (.int x10), .val (.int v26), .val (.int v42)] [(.int (1 : Int32))])
      exact j58_4 _ (by rw [if_pos hc50])
    · refine Go.of (fun t k => XS.icmpYes X3.here hx rfl (pc0 := 50) (pc' := 57) rfl (hb hby at_50) rfl (XT.ii_ne_t hc50) (by decide) (by decide) k) ?_
      show Go p e below Φ T3 (mkF m 57 #[.val (.int i0), .val (.int x2), .val (.int x10), .val (.int v26), .val (.int v42)] [])
      refine Go.of (fun t k => XS.iconst X3.here hx rfl (hb hby at_57) k) ?_
      show Go p e below Φ T3 (mkF m 58 #[.val (.int i0), .val (.int x2), .val (.int x10), .val (.int v26), .val (.int v42)] [(.int (0 : Int32))])
      exact j58_4 _ (by rw [if_neg hc50])
  intro v58 hv58
  show Go p e below Φ T3 (mkF m 58 #[.val (.int i0), .val (.int x2), .val (.int x10), .val (.int v26), .val (.int v42)] [(.int v58)])
  rw [hΦ]
  refine Go.ret X3 hx Bd.notSynchronized Bd.returns (own_one (own_plain i0 x2 hx2 x10 hx10 v26 hv26 v42 hv42 v58 hv58 )) (Or.inl ⟨rfl, Or.inr (Or.inl rfl), _, rfl⟩) (hb hby at_58) (by decide) (by decide) ?_
  rw [(e3q)]
  exact ⟨congrArg (fun z => some (Value.int z)) (own_plain i0 x2 hx2 x10 hx10 v26 hv26 v42 hv42 v58 hv58 ), N3⟩
set_option maxRecDepth 65536 in
set_option maxHeartbeats 40000000 in
theorem comes_1 {Post : Tables → Env → Array Value → State → Outcome → State → Prop} (hpost : ∀ tb e args s v u, (limb_1_1.after args s (.returned v) u = true ∧ limb_1_2.after args s (.returned v) u = true ∧ True) → FrameEnd s (.returned v) u (Jvm.fieldLocs frame_1_writes args s ++ Jvm.arrayLocs frame_1_arrays args s ++ Jvm.staticLocs frame_1_statics s) 0 0 → Post tb e args s (.returned v) u) :
    ArmFor flags0 classFile x code maxLocals ret World_1 tables_1 room_1 Calls_1 rest_1 Pre_1 Post := by
  intro l hfl _ _ p e ha hc hk s m args below hf hA hF happ hP
  obtain ⟨hcalls, hrest, hpre⟩ := hP
  obtain ⟨-, -, -, hnamed, -, -, -, hat⟩ := (Spec.applies_iff hf).mp happ
  obtain ⟨hg, hn⟩ := and_e (Cond.before_iff.mp (show (Jvm.Cond.and given_1 narrow_1).before args s = true from hpre))
  obtain ⟨g1, g2⟩ := and_e hg
  obtain ⟨w0, rfl⟩ : ∃ w0 : Value, args = #[w0] := by
    have hs : args.size = 1 := by simpa [Cond.value, given_1] using g1
    obtain ⟨L⟩ := args
    match L, hs with
    | [w0], _ => exact ⟨w0, rfl⟩
  have hw := fun d (hd : d ∈ tables_1) => atoms_spec (ws := Jvm.Cond.code x code maxLocals ret :: tables_1) hat d (List.mem_cons_of_mem _ hd)
  have hfit : Fit s := fun {y c} hc i hi => by
    obtain ⟨ha, rfl⟩ := Array.getElem?_eq_some_iff.mp hc
    have q := List.all_eq_true.mp ((Array.all_eq_true_iff_forall_mem.mp hF) _ (Array.getElem_mem ha)) i (List.mem_range.mpr hi)
    simpa [Array.getElem?_eq_getElem hi] using q
  obtain ⟨i0, ei0⟩ := is_v g2
  obtain rfl : w0 = (.int i0) := Option.some.inj ei0
  obtain ⟨n, o, h1, h2, h3, _, L, rfl, ⟨rfl, N⟩, hq⟩ := rm0 l s _ hw tables_1 i0  s.heap s.heap.size (Nat.le_refl _)  p e ha hc hk s m _ below hf ((Spec.applies_iff_loose hf).mp happ).1 ⟨rfl, State.Warmed39.refl s, rfl⟩ trivial
  refine ⟨n, _, h1, h2, h3, hpost _ _ _ _ _ _ ⟨Cond.after_iff.mpr rfl, Cond.after_iff.mpr (eq_i res_at (Term.int_eval (1)) rfl), trivial⟩ ⟨hq.1, hq.2.1, (hq.2.2.sift fun y hy => Or.inr (N y hy)).mono (by decide) (by decide)⟩⟩
theorem main_1_1 : Claimed_1_1 := comes_1 fun _ _ _ _ _ _ h hF => ⟨h.1, hF⟩
theorem main_1_2 : Claimed_1_2 := comes_1 fun _ _ _ _ _ _ h hF => ⟨h.2.1, hF⟩
end Jvm.Pilot.@@N@@
namespace Jvm.Pilot.@@N@@
open Jvm Jvm.ClassFile Sem Op Lib Jvm.Free Jvm.Stand Jvm.Pilot.@@N@@.Jvm.D
/-! MADE BY PROGRAM (witnessworld.py) out of the Statement's table words and the real class files: 9 classes; the members and pool entries that the words name. The judged class is class 1, her method 1. -/
namespace start1
open Jvm.ClassFile
def u (s : String) : CpInfo := .utf8 (stringToUtf16 s)
/-- a pool by its gaps: so many unusable entries, then the entry; so many at the end -/
def gap : Nat → List CpInfo → List CpInfo
  | 0, r => r
  | n + 1, r => .unusable :: gap n r
def poolList (es : List (Nat × CpInfo)) (last : Nat) : List CpInfo := es.foldr (fun e r => gap e.1 (e.2 :: r)) (gap last [])
def pool (es : List (Nat × CpInfo)) (last : Nat) : Array CpInfo := ⟨poolList es last⟩
def fileOf (pool : Array CpInfo) (this : Nat) (attrs : Array Attribute := #[]) (ms : Array MethodInfo := #[]) (fl : Nat := 33) (sup : Nat := 0) (ifs : Array Nat := #[]) (fds : Array FieldInfo := #[]) : ClassFile where
  minorVersion := 0
  majorVersion := 65
  constantPool := pool
  accessFlags := fl
  thisClass := this
  superClass := sup
  interfaces := ifs
  fields := fds
  methods := ms
  attributes := attrs
def plain (name : String) (sup : Option ClassId) : Class where
  name := name
  kind := .ordinary
  loader := none
  accessFlags := 33
  super := sup
  interfaces := #[]
  cf := none
  fields := #[]
  methods := #[]
  instanceTypes := #[]
  staticTypes := #[]
  resolved := #[]
  callSites := []
  init := .initialized
  statics := none
  mirror := none

def pool0 : Array CpInfo := pool [(5, u "<init>"), (0, u "()V"), (1, .class_ 10), (1, u "java/lang/Object")] 113

def k0m0 : Method := { name := "<init>", desc := "()V", sig := { parameters := [], returnType := none }, accessFlags := 1, code := none }
/-- java/lang/Object -/
def k0 : Class := { plain "java/lang/Object" none with
  accessFlags := 33
  interfaces := #[]
  cf := some (fileOf pool0 8 #[] #[{ accessFlags := 1, nameIndex := 5, descriptorIndex := 6, attributes := #[] }] 33 0 #[] #[])
  fields := #[]
  methods := #[k0m0]
  instanceTypes := #[]
  staticTypes := #[]
  resolved := Array.replicate 124 none
  statics := none }

def pool1 : Array CpInfo := pool [(2, .class_ 4), (1, u "java/lang/Object"), (0, u "<init>"), (0, u "()V"), (0, .methodref 8 9), (0, .class_ 10), (0, .nameAndType 11 12), (0, u site_45.cls), (0, u "startsName"), (0, u "(C)Z"), (0, .class_ 14), (0, u x.cls), (2, u "law"), (0, u "(I)Z")] 3

def k1m0 : Method := { name := "<init>", desc := "()V", sig := { parameters := [], returnType := none }, accessFlags := 2, code := none }
def k1c1 : Code := { maxStack := 2, maxLocals := 5, code := code, exceptionTable := #[], attributes := #[] }
def k1m1 : Method := { name := "law", desc := "(I)Z", sig := { parameters := [.int], returnType := some .boolean }, accessFlags := 9, code := some k1c1 }
def k1 : Class := { plain x.cls (some 0) with
  accessFlags := 49
  interfaces := #[]
  cf := some (fileOf pool1 13 #[] #[{ accessFlags := 2, nameIndex := 5, descriptorIndex := 6, attributes := #[] }, { accessFlags := 9, nameIndex := 17, descriptorIndex := 18, attributes := #[] }] 49 2 #[] #[])
  fields := #[]
  methods := #[k1m0, k1m1]
  instanceTypes := #[]
  staticTypes := #[]
  resolved := Array.replicate 22 none
  statics := none }

def pool2 : Array CpInfo := pool [(2, .class_ 4), (1, u "java/lang/Object"), (3, .class_ 10), (1, u site_45.cls), (0, u "line"), (0, u "I"), (2, u "column"), (5, u "Ljava/lang/Object;"), (2, u "end"), (2, u "text"), (0, u "Ljava/lang/String;"), (5, u "offset"), (58, u "(C)Z"), (9, u "startsName"), (9, u "WORDS"), (0, u "Ljava/util/Map;")] 120

def k2c0 : Code := { maxStack := 2, maxLocals := 1, code := prog_65_method_8_code, exceptionTable := #[], attributes := #[] }
def k2m0 : Method := { name := "startsName", desc := "(C)Z", sig := { parameters := [.char], returnType := some .boolean }, accessFlags := 8, code := some k2c0 }
def k2 : Class := { plain site_45.cls (some 0) with
  accessFlags := 48
  interfaces := #[]
  cf := some (fileOf pool2 8 #[] #[{ accessFlags := 8, nameIndex := 103, descriptorIndex := 93, attributes := #[] }] 48 2 #[] #[{ accessFlags := 26, nameIndex := 113, descriptorIndex := 114, attributes := #[] }, { accessFlags := 18, nameIndex := 27, descriptorIndex := 28, attributes := #[] }, { accessFlags := 2, nameIndex := 34, descriptorIndex := 12, attributes := #[] }, { accessFlags := 2, nameIndex := 11, descriptorIndex := 12, attributes := #[] }, { accessFlags := 2, nameIndex := 15, descriptorIndex := 12, attributes := #[] }, { accessFlags := 2, nameIndex := 24, descriptorIndex := 21, attributes := #[] }])
  fields := #[{ name := "WORDS", type := (.object "java/util/Map"), accessFlags := 26, slot := 0, constantValue := 0 }, { name := "text", type := (.object "java/lang/String"), accessFlags := 18, slot := 0, constantValue := 0 }, { name := "offset", type := .int, accessFlags := 2, slot := 1, constantValue := 0 }, { name := "line", type := .int, accessFlags := 2, slot := 2, constantValue := 0 }, { name := "column", type := .int, accessFlags := 2, slot := 3, constantValue := 0 }, { name := "end", type := (.object "java/lang/Object"), accessFlags := 2, slot := 4, constantValue := 0 }]
  methods := #[k2m0]
  instanceTypes := #[(.object "java/lang/String"), .int, .int, .int, (.object "java/lang/Object")]
  staticTypes := #[(.object "java/util/Map")]
  resolved := Array.replicate 235 none
  statics := none }

def pool3 : Array CpInfo := pool [(1, u "java/lang/Cloneable"), (0, .class_ 1), (0, u "java/lang/Object"), (0, .class_ 3)] 3

/-- java/lang/Cloneable -/
def k3 : Class := { plain "java/lang/Cloneable" (some 0) with
  accessFlags := 1537
  interfaces := #[]
  cf := some (fileOf pool3 2 #[] #[] 1537 4 #[] #[])
  fields := #[]
  methods := #[]
  instanceTypes := #[]
  staticTypes := #[]
  resolved := Array.replicate 8 none
  statics := none }

def pool4 : Array CpInfo := pool [(1, u "java/io/Serializable"), (0, .class_ 1), (0, u "java/lang/Object"), (0, .class_ 3)] 3

/-- java/io/Serializable -/
def k4 : Class := { plain "java/io/Serializable" (some 0) with
  accessFlags := 1537
  interfaces := #[]
  cf := some (fileOf pool4 2 #[] #[] 1537 4 #[] #[])
  fields := #[]
  methods := #[]
  instanceTypes := #[]
  staticTypes := #[]
  resolved := Array.replicate 8 none
  statics := none }

/-- the primitive byte -/
def k5 : Class := { plain "byte" none with kind := .primitive 'B', accessFlags := 0x411 }
/-- [B -/
def k6 : Class := { plain "[B" (some 0) with kind := .array 5 .byte, interfaces := #[3, 4], accessFlags := 1041 }

/-- the primitive int -/
def k7 : Class := { plain "int" none with kind := .primitive 'I', accessFlags := 0x411 }
/-- [I -/
def k8 : Class := { plain "[I" (some 0) with kind := .array 7 .int, interfaces := #[3, 4], accessFlags := 1041 }

def heap : Heap := #[]
def classes : Array Class := #[k0, k1, k2, k3, k4, k5, k6, k7, k8]
def interned : List (Array UInt16 × Addr) := []
def slotsUsed : Nat := 0
def theMethod : MethodId := ⟨1, 1⟩
def args0 : Array Value := #[.int 97]
def aboutOver (below : List Frame) : State where
  vm := { classes := classes, interned := interned.toArray }
  heap := heap
  slotsUsed := slotsUsed
  threads := #[{ frames := .invoking theMethod args0 :: below }]
def below0 : List Frame := [.native { method := ⟨0, 0⟩, args := #[] }]
def about1 : State := aboutOver below0
def p0 : Program := .bare "" "" ""
def e0 : Env := launch0.env 0 0 0
theorem w_frames : about1.frames = Frame.invoking theMethod args0 :: below0 := rfl
set_option maxRecDepth 65536 in
theorem w_args : argsFit about1.vm theMethod args0 = true := by decide +kernel
set_option maxRecDepth 65536 in
theorem w_heap : heapFits about1 = true := by decide +kernel
set_option maxRecDepth 65536 in
theorem w_runnable : about1.curStatus? = some .runnable := by decide +kernel
set_option maxRecDepth 65536 in
theorem w_alone : about1.alone = true := by decide +kernel
set_option maxRecDepth 65536 in
theorem w_named : about1.methodNamed? x = some theMethod := by decide +kernel
set_option maxRecDepth 65536 in
theorem w_hears : about1.hears theMethod below0 = true := by decide +kernel
set_option maxRecDepth 65536 in
theorem w_ripe : about1.ripe theMethod args0 below0 = true := by decide +kernel
theorem w_running : about1.status = .running := rfl
set_option maxRecDepth 65536 in
theorem w_room : about1.hasRoom e0.platform room_1 = true :=
  launch0.hasRoom_least _ room_1 (by decide +kernel) (by decide +kernel) (by decide +kernel) (by decide +kernel) (by decide +kernel) (by decide +kernel)
theorem allAtoms_all (ts : List Jvm.Cond) (a : Array Jvm.Value) (st : Jvm.State) : (allAtoms ts).before a st = ts.all (fun c => c.before a st) := by
  induction ts with
  | nil => rfl
  | cons c t ih =>
    show (Jvm.Cond.and c (allAtoms t)).before a st = _
    rw [Jvm.Cond.before_and, ih, List.all_cons]
def words1 : List Jvm.Cond := Jvm.Cond.code x code maxLocals ret :: tables_1
/-- a 'code' word, met by the world's own term for the bytes: nothing is compared byte by byte -/
theorem code_word {y : MethodName} {bytes : ByteArray} {mx : Nat} {rt : Option FieldType} {a : Array Value} {s : State} {m : MethodId} {meth : Method} {c : Code} (h1 : s.methodNamed? y = some m) (h2 : s.vm.method? m = some meth) (h3 : meth.code = some c) (h4 : c.code = bytes)
    (h5 : (c.maxLocals == mx && c.exceptionTable.isEmpty && decide (c.maxStack ≤ mostOperands) && decide (meth.sig.returnType = rt) && !meth.locks && decide (parseMethodDescriptor y.desc = some meth.sig)) = true) : (Jvm.Cond.code y bytes mx rt).before a s = true := by
  simp only [Bool.and_eq_true, beq_iff_eq, Bool.not_eq_true', decide_eq_true_eq] at h5
  obtain ⟨⟨⟨⟨⟨g1, g2⟩, g3⟩, g4⟩, g5⟩, g6⟩ := h5
  simp [Cond.before, Cond.holds, Cond.value, h1, h2, h3, h4, g1, g2, g3, g4, g5, g6]
def isCode : Jvm.Cond → Bool
  | .code _ _ _ _ => true
  | _ => false
theorem all_split {L : List Jvm.Cond} {P : Jvm.Cond → Bool} (h1 : L.all (fun c => isCode c || P c) = true) (h2 : ∀ c ∈ L.filter isCode, P c = true) : L.all P = true := by
  refine List.all_eq_true.mpr fun c hc => ?_
  have h := List.all_eq_true.mp h1 c hc
  rcases Bool.eq_false_or_eq_true (isCode c) with hi | hi
  · exact h2 c (List.mem_filter.mpr ⟨hc, hi⟩)
  · simpa [hi] using h
set_option maxRecDepth 65536 in
theorem w_c0 : (Jvm.Cond.code x code maxLocals ret).before args0 about1 = true := code_word (m := ⟨1, 1⟩) (meth := k1m1) (c := k1c1) (by decide +kernel) rfl rfl rfl (by decide +kernel)
set_option maxRecDepth 65536 in
theorem w_c1 : (Jvm.Cond.code ({ cls := site_45.cls, name := "startsName", desc := "(C)Z" } : Jvm.MethodName) prog_65_method_8_code (1 : Nat) (Option.some Jvm.ClassFile.FieldType.boolean)).before args0 about1 = true := code_word (m := ⟨2, 0⟩) (meth := k2m0) (c := k2c0) (by decide +kernel) rfl rfl rfl (by decide +kernel)
def codes1 : List Jvm.Cond := [Jvm.Cond.code x code maxLocals ret, Jvm.Cond.code ({ cls := site_45.cls, name := "startsName", desc := "(C)Z" } : Jvm.MethodName) prog_65_method_8_code (1 : Nat) (Option.some Jvm.ClassFile.FieldType.boolean)]
set_option maxRecDepth 65536 in
theorem codes_eq : words1.filter isCode = codes1 := rfl
theorem w_codes : ∀ c ∈ words1.filter isCode, c.before args0 about1 = true := by
  rw [codes_eq]
  intro c hc
  simp only [codes1, List.mem_cons, List.not_mem_nil, or_false] at hc
  rcases hc with rfl | rfl
  · exact w_c0
  · exact w_c1
set_option maxRecDepth 65536 in
theorem w_t1 : words1.all (fun c => isCode c || c.before args0 about1) = true := by decide +kernel
theorem w_tables : (allAtoms (Jvm.Cond.code x code maxLocals ret :: tables_1)).before args0 about1 = true := by
  rw [allAtoms_all]
  show words1.all (fun c => c.before args0 about1) = true
  refine all_split ?_ w_codes
  rw [w_t1]
set_option maxRecDepth 65536 in
theorem w_case : (Jvm.Cond.and given_1 narrow_1).before args0 about1 = true := by decide +kernel
theorem w_applies : (headSpec (Jvm.Cond.code x code maxLocals ret :: tables_1) room_1).applies x e0.platform about1 = true :=
  (Spec.applies_iff w_frames).mpr ⟨w_running, w_runnable, w_alone, w_named, w_hears, w_ripe, w_room, w_tables⟩
theorem atStart : AtStart classFile x code maxLocals ret World_1 tables_1 room_1 Calls_1 rest_1 Pre_1 launch0 p0 e0 about1 theMethod args0 below0 :=
  ⟨lists_1, trivial, launch0.admits_env _ _ _, launch0.least_env, fairChoices_fair.cas, fairChoices_fair.clock, w_frames, w_args, w_heap, w_applies, trivial, trivial, w_case⟩
end start1
theorem witness_1 : WitnessClaimed_1 := ⟨start1.p0, start1.e0, start1.about1, start1.theMethod, start1.args0, start1.below0, start1.atStart⟩
end Jvm.Pilot.@@N@@
