import JvmDerived
import JvmDerived.Pilot.@@N@@Statement
import JvmDerived.Pilot.@@N@@Code
set_option linter.unusedVariables false
set_option linter.unusedSimpArgs false
namespace Jvm.Pilot.@@N@@
open Jvm Jvm.ClassFile Sem Op Lib Jvm.Free Jvm.Stand Jvm.LawKit Jvm.RoadKit Bundle Jvm.Pilot.@@N@@.Jvm.D
section Own
variable {p : Program} {l : Launch} {e : Env} {R : Room} {s : State} {m : MethodId} {args : Array Value} {below : List Frame} {meth : Method} {c : Code} {T T' : State} {locs : List Loc} {cells slots : Nat} {Φ : State → Outcome → Prop} {g g' : JFrame}
/-- from (T, g) the run comes to an end that Φ takes -/
def Go (p : Program) (e : Env) (below : List Frame) (Φ : State → Outcome → Prop) (T : State) (g : JFrame) : Prop := ∃ t o, Steps p.tables e below (T.setTop g) t ∧ Φ t o
theorem Go.of (h : ∀ t, Steps p.tables e below (T'.setTop g') t → Steps p.tables e below (T.setTop g) t) (k : Go p e below Φ T' g') : Go p e below Φ T g := by
  obtain ⟨t, o, h1, h2⟩ := k
  exact ⟨t, o, h t h1, h2⟩
theorem Go.tr (h : Steps p.tables e below (T.setTop g) (T'.setTop g')) (k : Go p e below Φ T' g') : Go p e below Φ T g := by
  obtain ⟨t, o, h1, h2⟩ := k
  exact ⟨t, o, h.trans h1, h2⟩
/-- what a body owes at its end -/
def EndQ (s : State) (below : List Frame) (Q : Option Value → Heap → List Loc → Prop) (C S : Nat) (t : State) (o : Outcome) : Prop := t.status = .running ∧ Ended t below o ∧ ∃ v L, o = .returned v ∧ Q v t.heap L ∧ FrameEnd s o t L C S
theorem Go.ret (X : Stand p l e R s m args below meth c T locs cells slots) (hx : p.tables.exec = Jvm.exec) (hlocks : meth.locks = false) {pc : Nat} {Ls : Array Slot} {w : Value} {t : FieldType} {i : Instr} {rest : List Value} (hret : meth.sig.returnType = some t) (hn : narrow t w = w)
    (hi : (i = .ireturn ∧ (t = .int ∨ t = .boolean ∨ t = .byte ∨ t = .char ∨ t = .short) ∧ ∃ z, w = .int z) ∨ (i = .lreturn ∧ t = .long ∧ ∃ z, w = .long z) ∨ (i = .dreturn ∧ t = .double ∧ ∃ z, w = .double z) ∨ (i = .freturn ∧ t = .float ∧ ∃ z, w = .float z) ∨ (i = .areturn ∧ t.isReference = true ∧ w.isRef = true))
    (hd : decode c.code pc = .ok (i, 1)) {Q : Option Value → Heap → List Loc → Prop} {C S : Nat} (hC : cells ≤ C) (hS : slots ≤ S) (hQ : Q (some w) T.heap locs) : Go p e below (EndQ s below Q C S) T (mkF m pc Ls (w :: rest)) := by
  obtain ⟨fs, hr, hrun, hended, hW, hsame⟩ := X.leave (v := some w) (fun h => by rw [hret] at h; cases h) hlocks
  exact ⟨_, _, retOut X hx hret hn hi hd hr, hrun, hended, _, _, rfl, hQ, ⟨_, rfl⟩, hW, hsame.mono hC hS⟩
theorem Go.retV (X : Stand p l e R s m args below meth c T locs cells slots) (hx : p.tables.exec = Jvm.exec) (hlocks : meth.locks = false) {pc : Nat} {Ls : Array Slot} (hret : meth.sig.returnType = none)
    (hd : decode c.code pc = .ok (.return_, 1)) {Q : Option Value → Heap → List Loc → Prop} {C S : Nat} (hC : cells ≤ C) (hS : slots ≤ S) (hQ : Q none T.heap locs) : Go p e below (EndQ s below Q C S) T (mkF m pc Ls []) := by
  obtain ⟨fs, hr, hrun, hended, hW, hsame⟩ := X.leave (v := none) (fun _ => rfl) hlocks
  exact ⟨_, _, X.returnOut hx hret hd hr, hrun, hended, _, _, rfl, hQ, ⟨_, rfl⟩, hW, hsame.mono hC hS⟩
def own_ushr (x y : Int32) : Int32 := (x.toUInt32 >>> (y &&& 31).toUInt32).toInt32
def own_ushrL (x : Int64) (y : Int32) : Int64 := (x.toUInt64 >>> (y &&& 0x3f).toInt64.toUInt64).toInt64
theorem own_one {v : Int32} (h : v = 1) : narrow .boolean (.int v) = .int v := by rw [h]; rfl
theorem own_nar_ref {t : FieldType} {v : Value} (h : v.isRef = true) (ht : t.isReference = true := by rfl) : narrow t v = v := by cases v <;> simp [Value.isRef] at h <;> cases t <;> first | rfl | cases ht
theorem own_fits_ref {t : FieldType} {v : Value} (h : v.isRef = true) (ht : t.isReference = true := by rfl) : fits t v = true := by cases v <;> simp [Value.isRef] at h <;> cases t <;> first | rfl | cases ht
end Own
theorem own_d1_0 : decode method_2_code 0 = .ok (.iload_n 2, 1) := by decide +kernel
theorem own_d1_1 : decode method_2_code 1 = .ok (.iconst 3, 1) := by decide +kernel
theorem own_d1_2 : decode method_2_code 2 = .ok (.iand, 1) := by decide +kernel
theorem own_d1_3 : decode method_2_code 3 = .ok (.istore_n 3, 1) := by decide +kernel
theorem own_d1_4 : decode method_2_code 4 = .ok (.iload_n 3, 1) := by decide +kernel
theorem own_d1_5 : decode method_2_code 5 = .ok (.ifCond .ne 9, 3) := by decide +kernel
theorem own_d1_8 : decode method_2_code 8 = .ok (.lload_n 0, 1) := by decide +kernel
theorem own_d1_9 : decode method_2_code 9 = .ok (.lstore 4, 2) := by decide +kernel
theorem own_d1_11 : decode method_2_code 11 = .ok (.goto 47, 3) := by decide +kernel
theorem own_d1_14 : decode method_2_code 14 = .ok (.iload_n 3, 1) := by decide +kernel
theorem own_d1_15 : decode method_2_code 15 = .ok (.iconst 1, 1) := by decide +kernel
theorem own_d1_16 : decode method_2_code 16 = .ok (.if_icmp .ne 17, 3) := by decide +kernel
theorem own_d1_19 : decode method_2_code 19 = .ok (.ldc2_w 9, 3) := by decide +kernel
theorem own_d1_22 : decode method_2_code 22 = .ok (.lload_n 0, 1) := by decide +kernel
theorem own_d1_23 : decode method_2_code 23 = .ok (.ldc2_w 11, 3) := by decide +kernel
theorem own_d1_26 : decode method_2_code 26 = .ok (.lrem, 1) := by decide +kernel
theorem own_d1_27 : decode method_2_code 27 = .ok (.ladd, 1) := by decide +kernel
theorem own_d1_28 : decode method_2_code 28 = .ok (.lstore 4, 2) := by decide +kernel
theorem own_d1_30 : decode method_2_code 30 = .ok (.goto 28, 3) := by decide +kernel
theorem own_d1_33 : decode method_2_code 33 = .ok (.iload_n 3, 1) := by decide +kernel
theorem own_d1_34 : decode method_2_code 34 = .ok (.iconst 2, 1) := by decide +kernel
theorem own_d1_35 : decode method_2_code 35 = .ok (.if_icmp .ne 13, 3) := by decide +kernel
theorem own_d1_38 : decode method_2_code 38 = .ok (.lload_n 0, 1) := by decide +kernel
theorem own_d1_39 : decode method_2_code 39 = .ok (.ldc2_w 11, 3) := by decide +kernel
theorem own_d1_42 : decode method_2_code 42 = .ok (.lrem, 1) := by decide +kernel
theorem own_d1_43 : decode method_2_code 43 = .ok (.lstore 4, 2) := by decide +kernel
theorem own_d1_45 : decode method_2_code 45 = .ok (.goto 13, 3) := by decide +kernel
theorem own_d1_48 : decode method_2_code 48 = .ok (.lload_n 0, 1) := by decide +kernel
theorem own_d1_49 : decode method_2_code 49 = .ok (.iload_n 2, 1) := by decide +kernel
theorem own_d1_50 : decode method_2_code 50 = .ok (.iconst 2, 1) := by decide +kernel
theorem own_d1_51 : decode method_2_code 51 = .ok (.iushr, 1) := by decide +kernel
theorem own_d1_52 : decode method_2_code 52 = .ok (.bipush 63, 2) := by decide +kernel
theorem own_d1_54 : decode method_2_code 54 = .ok (.iand, 1) := by decide +kernel
theorem own_d1_55 : decode method_2_code 55 = .ok (.lushr, 1) := by decide +kernel
theorem own_d1_56 : decode method_2_code 56 = .ok (.lstore 4, 2) := by decide +kernel
theorem own_d1_58 : decode method_2_code 58 = .ok (.lload 4, 2) := by decide +kernel
theorem own_d1_60 : decode method_2_code 60 = .ok (.lreturn, 1) := by decide +kernel
theorem own_d2_0 : decode prog_50_method_9_code 0 = .ok (.lload_n 0, 1) := by decide +kernel
theorem own_d2_1 : decode prog_50_method_9_code 1 = .ok (.lconst 0, 1) := by decide +kernel
theorem own_d2_2 : decode prog_50_method_9_code 2 = .ok (.lcmp, 1) := by decide +kernel
theorem own_d2_3 : decode prog_50_method_9_code 3 = .ok (.ifCond .lt 19, 3) := by decide +kernel
theorem own_d2_6 : decode prog_50_method_9_code 6 = .ok (.lload_n 0, 1) := by decide +kernel
theorem own_d2_7 : decode prog_50_method_9_code 7 = .ok (.ldc2_w 33, 3) := by decide +kernel
theorem own_d2_10 : decode prog_50_method_9_code 10 = .ok (.ldiv, 1) := by decide +kernel
theorem own_d2_11 : decode prog_50_method_9_code 11 = .ok (.ldc2_w 69, 3) := by decide +kernel
theorem own_d2_14 : decode prog_50_method_9_code 14 = .ok (.lcmp, 1) := by decide +kernel
theorem own_d2_15 : decode prog_50_method_9_code 15 = .ok (.ifCond .gt 7, 3) := by decide +kernel
theorem own_d2_18 : decode prog_50_method_9_code 18 = .ok (.iconst 1, 1) := by decide +kernel
theorem own_d2_19 : decode prog_50_method_9_code 19 = .ok (.goto 4, 3) := by decide +kernel
theorem own_d2_22 : decode prog_50_method_9_code 22 = .ok (.iconst 0, 1) := by decide +kernel
theorem own_d2_23 : decode prog_50_method_9_code 23 = .ok (.ireturn, 1) := by decide +kernel
theorem own_d3_0 : decode prog_50_method_4_code 0 = .ok (.lload_n 0, 1) := by decide +kernel
theorem own_d3_1 : decode prog_50_method_4_code 1 = .ok (.ldc2_w 31, 3) := by decide +kernel
theorem own_d3_4 : decode prog_50_method_4_code 4 = .ok (.ldiv, 1) := by decide +kernel
theorem own_d3_5 : decode prog_50_method_4_code 5 = .ok (.ldc2_w 33, 3) := by decide +kernel
theorem own_d3_8 : decode prog_50_method_4_code 8 = .ok (.lmul, 1) := by decide +kernel
theorem own_d3_9 : decode prog_50_method_4_code 9 = .ok (.lload_n 0, 1) := by decide +kernel
theorem own_d3_10 : decode prog_50_method_4_code 10 = .ok (.ldc2_w 31, 3) := by decide +kernel
theorem own_d3_13 : decode prog_50_method_4_code 13 = .ok (.lrem, 1) := by decide +kernel
theorem own_d3_14 : decode prog_50_method_4_code 14 = .ok (.ldc2_w 33, 3) := by decide +kernel
theorem own_d3_17 : decode prog_50_method_4_code 17 = .ok (.lrem, 1) := by decide +kernel
theorem own_d3_18 : decode prog_50_method_4_code 18 = .ok (.ladd, 1) := by decide +kernel
theorem own_d3_19 : decode prog_50_method_4_code 19 = .ok (.lreturn, 1) := by decide +kernel
theorem own_pn0 : plainName "com/example/compact_commits/compactcommits/TicketsLayoutHoldsStartsPinLaw" = true := by first | (simp [plainName, overriddenIn]; done) | decide +kernel
theorem own_pn1 : plainName "com/example/compact_commits/compactcommits/TicketsLayout" = true := by first | (simp [plainName, overriddenIn]; done) | decide +kernel
theorem own_pd0 : parseMethodDescriptor "(JI)J" = some ⟨[.long, .int], some .long⟩ := by decide +kernel
theorem own_pd1 : parseMethodDescriptor "(J)Z" = some ⟨[.long], some .boolean⟩ := by decide +kernel
theorem own_pd2 : parseMethodDescriptor "(J)J" = some ⟨[.long], some .long⟩ := by decide +kernel
def own_pick (xx : Int64) (kk : Int32) : Int64 := (if (kk &&& (3 : Int32)) = (0 : Int32) then xx else (if (kk &&& (3 : Int32)) = (1 : Int32) then ((5902958103600 : Int64) + (xx - (xx / (64 : Int64)) * (64 : Int64))) else (if (kk &&& (3 : Int32)) = (2 : Int32) then (xx - (xx / (64 : Int64)) * (64 : Int64)) else (own_ushrL xx ((own_ushr kk (2 : Int32)) &&& (63 : Int32))))))
theorem own_ef1 (m : MethodId) (xx : Int64) (kk : Int32) : entryFrame m #[(.long xx), (.int kk)] 6 = mkF m 0 #[.val (.long xx), .second, .val (.int kk), .unset, .unset, .unset] [] := by first | (simp [entryFrame, mkF, argsToLocals, Value.category]; done) | rfl
def Q1 (Z : State) (xx : Int64) (kk : Int32) (h0 : Heap) (n0 : Nat) (vr : Option Value) (hr : Heap) (Lr : List Loc) : Prop := vr = some (.long (own_pick xx kk)) ∧ Fr n0 Lr ∧ hr = h0
set_option maxRecDepth 65536 in
set_option maxHeartbeats 40000000 in
theorem rm1 (l : Launch) (Z : State) (a0 : Array Value) (hw : ∀ d ∈ tables_1, d.before a0 Z = true) (ws : List Jvm.Cond) (xx : Int64) (kk : Int32) (h0 : Heap) (n0 : Nat) (Z0 : n0 ≤ h0.size) :
    MetFree l (⟨"com/example/compact_commits/compactcommits/TicketsLayoutHoldsStartsPinLaw", "pickRow", "(JI)J"⟩ : MethodName) (head1 (Jvm.Cond.code (⟨"com/example/compact_commits/compactcommits/TicketsLayoutHoldsStartsPinLaw", "pickRow", "(JI)J"⟩ : MethodName) method_2_code 6 (some .long) :: ws) ({ frames := 0, cells := 0, slots := 0, locals := 0 } : Room)) (fun aQ UQ => aQ = #[(.long xx), (.int kk)] ∧ Z.Warmed39 UQ.vm ∧ UQ.heap = h0) (fun _ _ _ _ _ => True) (fun _ UQ oQ VQ => ∃ vQ LQ, oQ = .returned vQ ∧ Q1 Z xx kk h0 n0 vQ VQ.heap LQ ∧ FrameEnd UQ oQ VQ LQ ({ frames := 0, cells := 0, slots := 0, locals := 0 } : Room).cells ({ frames := 0, cells := 0, slots := 0, locals := 0 } : Room).slots) := by
  refine MetFree.of_bodySF (plainFor_of_name own_pn0) hisR ?_
  intro p e s m args below meth c s₁ Bd hml0 hP hK
  obtain ⟨rfl, hZ, hh⟩ := hP
  have hx := Bd.exec
  have hby := Bd.bytes
  have hml : c.maxLocals = 6 := hml0
  have hown : s.vm.findClass "com/example/compact_commits/compactcommits/TicketsLayoutHoldsStartsPinLaw" = some m.cls := findClass_of_methodNamed Bd.named
  have hnm := (name_of_methodNamed Bd.named Bd.method).1
  have X0 : Stand p l e ({ frames := 0, cells := 0, slots := 0, locals := 0 } : Room) s m #[(.long xx), (.int kk)] below meth c s₁ [] 0 0 := Stand.of_body Bd
  have e0 : s₁.heap = h0 := by rw [← hh, Bd.state]; rfl
  have N0 := Fr.nil n0
  show Go p e below (EndQ s below (Q1 Z xx kk h0 n0) ({ frames := 0, cells := 0, slots := 0, locals := 0 } : Room).cells ({ frames := 0, cells := 0, slots := 0, locals := 0 } : Room).slots) s₁ (entryFrame m #[(.long xx), (.int kk)] 6)
  obtain ⟨Φ, hΦ⟩ : ∃ Φ, Φ = EndQ s below (Q1 Z xx kk h0 n0) ({ frames := 0, cells := 0, slots := 0, locals := 0 } : Room).cells ({ frames := 0, cells := 0, slots := 0, locals := 0 } : Room).slots := ⟨_, rfl⟩
  rw [← hΦ, own_ef1]
  show Go p e below Φ s₁ (mkF m 0 #[.val (.long xx), .second, .val (.int kk), .unset, .unset, .unset] [])
  refine Go.of (fun t k => XS.iloadN X0.here hx rfl (hb hby own_d1_0) rfl  k) ?_
  show Go p e below Φ s₁ (mkF m 1 #[.val (.long xx), .second, .val (.int kk), .unset, .unset, .unset] [(.int kk)])
  refine Go.of (fun t k => XS.iconst X0.here hx rfl (hb hby own_d1_1) k) ?_
  show Go p e below Φ s₁ (mkF m 2 #[.val (.long xx), .second, .val (.int kk), .unset, .unset, .unset] [(.int (3 : Int32)), (.int kk)])
  refine Go.of (fun t k => XS.iand X0.here hx rfl (hb hby own_d1_2) rfl k) ?_
  show Go p e below Φ s₁ (mkF m 3 #[.val (.long xx), .second, .val (.int kk), .unset, .unset, .unset] [(.int (kk &&& (3 : Int32)))])
  refine Go.of (fun t k => XS.istoreN X0.here hx rfl (hb hby own_d1_3) rfl (l' := #[.val (.long xx), .second, .val (.int kk), .val (.int (kk &&& (3 : Int32))), .unset, .unset]) rfl k) ?_
  show Go p e below Φ s₁ (mkF m 4 #[.val (.long xx), .second, .val (.int kk), .val (.int (kk &&& (3 : Int32))), .unset, .unset] [])
  refine Go.of (fun t k => XS.iloadN X0.here hx rfl (hb hby own_d1_4) rfl  k) ?_
  show Go p e below Φ s₁ (mkF m 5 #[.val (.long xx), .second, .val (.int kk), .val (.int (kk &&& (3 : Int32))), .unset, .unset] [(.int (kk &&& (3 : Int32)))])
  by_cases hc5 : (kk &&& (3 : Int32)) = (0 : Int32)
  · refine Go.of (fun t k => XS.ifNo X0.here hx rfl (hb hby own_d1_5) rfl (XT.i0_ne_f hc5) k) ?_
    show Go p e below Φ s₁ (mkF m 8 #[.val (.long xx), .second, .val (.int kk), .val (.int (kk &&& (3 : Int32))), .unset, .unset] [])
    refine Go.of (fun t k => XS.lloadN X0.here hx rfl (hb hby own_d1_8) rfl  k) ?_
    show Go p e below Φ s₁ (mkF m 9 #[.val (.long xx), .second, .val (.int kk), .val (.int (kk &&& (3 : Int32))), .unset, .unset] [(.long xx)])
    refine Go.of (fun t k => XS.lstore X0.here hx rfl (hb hby own_d1_9) rfl (l' := #[.val (.long xx), .second, .val (.int kk), .val (.int (kk &&& (3 : Int32))), .val (.long xx), .second]) rfl k) ?_
    show Go p e below Φ s₁ (mkF m 11 #[.val (.long xx), .second, .val (.int kk), .val (.int (kk &&& (3 : Int32))), .val (.long xx), .second] [])
    refine Go.of (fun t k => XS.goto X0.here hx rfl (pc0 := 11) (pc' := 58) rfl (hb hby own_d1_11) (by decide) (by decide) k) ?_
    show Go p e below Φ s₁ (mkF m 58 #[.val (.long xx), .second, .val (.int kk), .val (.int (kk &&& (3 : Int32))), .val (.long xx), .second] [])
    refine Go.of (fun t k => XS.lload X0.here hx rfl (hb hby own_d1_58) rfl  k) ?_
    show Go p e below Φ s₁ (mkF m 60 #[.val (.long xx), .second, .val (.int kk), .val (.int (kk &&& (3 : Int32))), .val (.long xx), .second] [(.long xx)])
    rw [hΦ]
    refine Go.ret X0 hx Bd.notSynchronized Bd.returns rfl (Or.inr (Or.inl ⟨rfl, rfl, _, rfl⟩)) (hb hby own_d1_60) (by decide) (by decide) ?_
    rw [e0]
    exact ⟨by rw [own_pick, if_pos hc5], N0, rfl⟩
  · refine Go.of (fun t k => XS.ifYes X0.here hx rfl (pc0 := 5) (pc' := 14) rfl (hb hby own_d1_5) rfl (XT.i0_ne_t hc5) (by decide) (by decide) k) ?_
    show Go p e below Φ s₁ (mkF m 14 #[.val (.long xx), .second, .val (.int kk), .val (.int (kk &&& (3 : Int32))), .unset, .unset] [])
    refine Go.of (fun t k => XS.iloadN X0.here hx rfl (hb hby own_d1_14) rfl  k) ?_
    show Go p e below Φ s₁ (mkF m 15 #[.val (.long xx), .second, .val (.int kk), .val (.int (kk &&& (3 : Int32))), .unset, .unset] [(.int (kk &&& (3 : Int32)))])
    refine Go.of (fun t k => XS.iconst X0.here hx rfl (hb hby own_d1_15) k) ?_
    show Go p e below Φ s₁ (mkF m 16 #[.val (.long xx), .second, .val (.int kk), .val (.int (kk &&& (3 : Int32))), .unset, .unset] [(.int (1 : Int32)), (.int (kk &&& (3 : Int32)))])
    by_cases hc16 : (kk &&& (3 : Int32)) = (1 : Int32)
    · refine Go.of (fun t k => XS.icmpNo X0.here hx rfl (hb hby own_d1_16) rfl (XT.ii_ne_f hc16) k) ?_
      show Go p e below Φ s₁ (mkF m 19 #[.val (.long xx), .second, .val (.int kk), .val (.int (kk &&& (3 : Int32))), .unset, .unset] [])
      refine Go.of (fun t k => X0.ldc2Long hx hown (mvT hZ (hw _ (List.mem_of_getElem? (i := 5) rfl))) (g := (mkF m 19 #[.val (.long xx), .second, .val (.int kk), .val (.int (kk &&& (3 : Int32))), .unset, .unset] [])) rfl (hb hby own_d1_19) t k) ?_
      show Go p e below Φ s₁ (mkF m 22 #[.val (.long xx), .second, .val (.int kk), .val (.int (kk &&& (3 : Int32))), .unset, .unset] [(.long (5902958103600 : Int64))])
      refine Go.of (fun t k => XS.lloadN X0.here hx rfl (hb hby own_d1_22) rfl  k) ?_
      show Go p e below Φ s₁ (mkF m 23 #[.val (.long xx), .second, .val (.int kk), .val (.int (kk &&& (3 : Int32))), .unset, .unset] [(.long xx), (.long (5902958103600 : Int64))])
      refine Go.of (fun t k => X0.ldc2Long hx hown (mvT hZ (hw _ (List.mem_of_getElem? (i := 4) rfl))) (g := (mkF m 23 #[.val (.long xx), .second, .val (.int kk), .val (.int (kk &&& (3 : Int32))), .unset, .unset] [(.long xx), (.long (5902958103600 : Int64))])) rfl (hb hby own_d1_23) t k) ?_
      show Go p e below Φ s₁ (mkF m 26 #[.val (.long xx), .second, .val (.int kk), .val (.int (kk &&& (3 : Int32))), .unset, .unset] [(.long (64 : Int64)), (.long xx), (.long (5902958103600 : Int64))])
      refine Go.of (fun t k => XS.lrem X0.here hx rfl (hb hby own_d1_26) rfl (by decide) k) ?_
      show Go p e below Φ s₁ (mkF m 27 #[.val (.long xx), .second, .val (.int kk), .val (.int (kk &&& (3 : Int32))), .unset, .unset] [(.long (xx - (xx / (64 : Int64)) * (64 : Int64))), (.long (5902958103600 : Int64))])
      refine Go.of (fun t k => XS.ladd X0.here hx rfl (hb hby own_d1_27) rfl k) ?_
      show Go p e below Φ s₁ (mkF m 28 #[.val (.long xx), .second, .val (.int kk), .val (.int (kk &&& (3 : Int32))), .unset, .unset] [(.long ((5902958103600 : Int64) + (xx - (xx / (64 : Int64)) * (64 : Int64))))])
      refine Go.of (fun t k => XS.lstore X0.here hx rfl (hb hby own_d1_28) rfl (l' := #[.val (.long xx), .second, .val (.int kk), .val (.int (kk &&& (3 : Int32))), .val (.long ((5902958103600 : Int64) + (xx - (xx / (64 : Int64)) * (64 : Int64)))), .second]) rfl k) ?_
      show Go p e below Φ s₁ (mkF m 30 #[.val (.long xx), .second, .val (.int kk), .val (.int (kk &&& (3 : Int32))), .val (.long ((5902958103600 : Int64) + (xx - (xx / (64 : Int64)) * (64 : Int64)))), .second] [])
      refine Go.of (fun t k => XS.goto X0.here hx rfl (pc0 := 30) (pc' := 58) rfl (hb hby own_d1_30) (by decide) (by decide) k) ?_
      show Go p e below Φ s₁ (mkF m 58 #[.val (.long xx), .second, .val (.int kk), .val (.int (kk &&& (3 : Int32))), .val (.long ((5902958103600 : Int64) + (xx - (xx / (64 : Int64)) * (64 : Int64)))), .second] [])
      refine Go.of (fun t k => XS.lload X0.here hx rfl (hb hby own_d1_58) rfl  k) ?_
      show Go p e below Φ s₁ (mkF m 60 #[.val (.long xx), .second, .val (.int kk), .val (.int (kk &&& (3 : Int32))), .val (.long ((5902958103600 : Int64) + (xx - (xx / (64 : Int64)) * (64 : Int64)))), .second] [(.long ((5902958103600 : Int64) + (xx - (xx / (64 : Int64)) * (64 : Int64))))])
      rw [hΦ]
      refine Go.ret X0 hx Bd.notSynchronized Bd.returns rfl (Or.inr (Or.inl ⟨rfl, rfl, _, rfl⟩)) (hb hby own_d1_60) (by decide) (by decide) ?_
      rw [e0]
      exact ⟨by rw [own_pick, if_neg hc5, if_pos hc16], N0, rfl⟩
    · refine Go.of (fun t k => XS.icmpYes X0.here hx rfl (pc0 := 16) (pc' := 33) rfl (hb hby own_d1_16) rfl (XT.ii_ne_t hc16) (by decide) (by decide) k) ?_
      show Go p e below Φ s₁ (mkF m 33 #[.val (.long xx), .second, .val (.int kk), .val (.int (kk &&& (3 : Int32))), .unset, .unset] [])
      refine Go.of (fun t k => XS.iloadN X0.here hx rfl (hb hby own_d1_33) rfl  k) ?_
      show Go p e below Φ s₁ (mkF m 34 #[.val (.long xx), .second, .val (.int kk), .val (.int (kk &&& (3 : Int32))), .unset, .unset] [(.int (kk &&& (3 : Int32)))])
      refine Go.of (fun t k => XS.iconst X0.here hx rfl (hb hby own_d1_34) k) ?_
      show Go p e below Φ s₁ (mkF m 35 #[.val (.long xx), .second, .val (.int kk), .val (.int (kk &&& (3 : Int32))), .unset, .unset] [(.int (2 : Int32)), (.int (kk &&& (3 : Int32)))])
      by_cases hc35 : (kk &&& (3 : Int32)) = (2 : Int32)
      · refine Go.of (fun t k => XS.icmpNo X0.here hx rfl (hb hby own_d1_35) rfl (XT.ii_ne_f hc35) k) ?_
        show Go p e below Φ s₁ (mkF m 38 #[.val (.long xx), .second, .val (.int kk), .val (.int (kk &&& (3 : Int32))), .unset, .unset] [])
        refine Go.of (fun t k => XS.lloadN X0.here hx rfl (hb hby own_d1_38) rfl  k) ?_
        show Go p e below Φ s₁ (mkF m 39 #[.val (.long xx), .second, .val (.int kk), .val (.int (kk &&& (3 : Int32))), .unset, .unset] [(.long xx)])
        refine Go.of (fun t k => X0.ldc2Long hx hown (mvT hZ (hw _ (List.mem_of_getElem? (i := 4) rfl))) (g := (mkF m 39 #[.val (.long xx), .second, .val (.int kk), .val (.int (kk &&& (3 : Int32))), .unset, .unset] [(.long xx)])) rfl (hb hby own_d1_39) t k) ?_
        show Go p e below Φ s₁ (mkF m 42 #[.val (.long xx), .second, .val (.int kk), .val (.int (kk &&& (3 : Int32))), .unset, .unset] [(.long (64 : Int64)), (.long xx)])
        refine Go.of (fun t k => XS.lrem X0.here hx rfl (hb hby own_d1_42) rfl (by decide) k) ?_
        show Go p e below Φ s₁ (mkF m 43 #[.val (.long xx), .second, .val (.int kk), .val (.int (kk &&& (3 : Int32))), .unset, .unset] [(.long (xx - (xx / (64 : Int64)) * (64 : Int64)))])
        refine Go.of (fun t k => XS.lstore X0.here hx rfl (hb hby own_d1_43) rfl (l' := #[.val (.long xx), .second, .val (.int kk), .val (.int (kk &&& (3 : Int32))), .val (.long (xx - (xx / (64 : Int64)) * (64 : Int64))), .second]) rfl k) ?_
        show Go p e below Φ s₁ (mkF m 45 #[.val (.long xx), .second, .val (.int kk), .val (.int (kk &&& (3 : Int32))), .val (.long (xx - (xx / (64 : Int64)) * (64 : Int64))), .second] [])
        refine Go.of (fun t k => XS.goto X0.here hx rfl (pc0 := 45) (pc' := 58) rfl (hb hby own_d1_45) (by decide) (by decide) k) ?_
        show Go p e below Φ s₁ (mkF m 58 #[.val (.long xx), .second, .val (.int kk), .val (.int (kk &&& (3 : Int32))), .val (.long (xx - (xx / (64 : Int64)) * (64 : Int64))), .second] [])
        refine Go.of (fun t k => XS.lload X0.here hx rfl (hb hby own_d1_58) rfl  k) ?_
        show Go p e below Φ s₁ (mkF m 60 #[.val (.long xx), .second, .val (.int kk), .val (.int (kk &&& (3 : Int32))), .val (.long (xx - (xx / (64 : Int64)) * (64 : Int64))), .second] [(.long (xx - (xx / (64 : Int64)) * (64 : Int64)))])
        rw [hΦ]
        refine Go.ret X0 hx Bd.notSynchronized Bd.returns rfl (Or.inr (Or.inl ⟨rfl, rfl, _, rfl⟩)) (hb hby own_d1_60) (by decide) (by decide) ?_
        rw [e0]
        exact ⟨by rw [own_pick, if_neg hc5, if_neg hc16, if_pos hc35], N0, rfl⟩
      · refine Go.of (fun t k => XS.icmpYes X0.here hx rfl (pc0 := 35) (pc' := 48) rfl (hb hby own_d1_35) rfl (XT.ii_ne_t hc35) (by decide) (by decide) k) ?_
        show Go p e below Φ s₁ (mkF m 48 #[.val (.long xx), .second, .val (.int kk), .val (.int (kk &&& (3 : Int32))), .unset, .unset] [])
        refine Go.of (fun t k => XS.lloadN X0.here hx rfl (hb hby own_d1_48) rfl  k) ?_
        show Go p e below Φ s₁ (mkF m 49 #[.val (.long xx), .second, .val (.int kk), .val (.int (kk &&& (3 : Int32))), .unset, .unset] [(.long xx)])
        refine Go.of (fun t k => XS.iloadN X0.here hx rfl (hb hby own_d1_49) rfl  k) ?_
        show Go p e below Φ s₁ (mkF m 50 #[.val (.long xx), .second, .val (.int kk), .val (.int (kk &&& (3 : Int32))), .unset, .unset] [(.int kk), (.long xx)])
        refine Go.of (fun t k => XS.iconst X0.here hx rfl (hb hby own_d1_50) k) ?_
        show Go p e below Φ s₁ (mkF m 51 #[.val (.long xx), .second, .val (.int kk), .val (.int (kk &&& (3 : Int32))), .unset, .unset] [(.int (2 : Int32)), (.int kk), (.long xx)])
        refine Go.of (fun t k => XS.iushr X0.here hx rfl (hb hby own_d1_51) rfl k) ?_
        show Go p e below Φ s₁ (mkF m 52 #[.val (.long xx), .second, .val (.int kk), .val (.int (kk &&& (3 : Int32))), .unset, .unset] [(.int (own_ushr kk (2 : Int32))), (.long xx)])
        refine Go.of (fun t k => XS.bipush X0.here hx rfl (hb hby own_d1_52) k) ?_
        show Go p e below Φ s₁ (mkF m 54 #[.val (.long xx), .second, .val (.int kk), .val (.int (kk &&& (3 : Int32))), .unset, .unset] [(.int (63 : Int32)), (.int (own_ushr kk (2 : Int32))), (.long xx)])
        refine Go.of (fun t k => XS.iand X0.here hx rfl (hb hby own_d1_54) rfl k) ?_
        show Go p e below Φ s₁ (mkF m 55 #[.val (.long xx), .second, .val (.int kk), .val (.int (kk &&& (3 : Int32))), .unset, .unset] [(.int ((own_ushr kk (2 : Int32)) &&& (63 : Int32))), (.long xx)])
        refine Go.of (fun t k => XS.lushr X0.here hx rfl (hb hby own_d1_55) rfl k) ?_
        show Go p e below Φ s₁ (mkF m 56 #[.val (.long xx), .second, .val (.int kk), .val (.int (kk &&& (3 : Int32))), .unset, .unset] [(.long (own_ushrL xx ((own_ushr kk (2 : Int32)) &&& (63 : Int32))))])
        refine Go.of (fun t k => XS.lstore X0.here hx rfl (hb hby own_d1_56) rfl (l' := #[.val (.long xx), .second, .val (.int kk), .val (.int (kk &&& (3 : Int32))), .val (.long (own_ushrL xx ((own_ushr kk (2 : Int32)) &&& (63 : Int32)))), .second]) rfl k) ?_
        show Go p e below Φ s₁ (mkF m 58 #[.val (.long xx), .second, .val (.int kk), .val (.int (kk &&& (3 : Int32))), .val (.long (own_ushrL xx ((own_ushr kk (2 : Int32)) &&& (63 : Int32)))), .second] [])
        refine Go.of (fun t k => XS.lload X0.here hx rfl (hb hby own_d1_58) rfl  k) ?_
        show Go p e below Φ s₁ (mkF m 60 #[.val (.long xx), .second, .val (.int kk), .val (.int (kk &&& (3 : Int32))), .val (.long (own_ushrL xx ((own_ushr kk (2 : Int32)) &&& (63 : Int32)))), .second] [(.long (own_ushrL xx ((own_ushr kk (2 : Int32)) &&& (63 : Int32))))])
        rw [hΦ]
        refine Go.ret X0 hx Bd.notSynchronized Bd.returns rfl (Or.inr (Or.inl ⟨rfl, rfl, _, rfl⟩)) (hb hby own_d1_60) (by decide) (by decide) ?_
        rw [e0]
        exact ⟨by rw [own_pick, if_neg hc5, if_neg hc16, if_neg hc35], N0, rfl⟩
def own_holds (r : Int64) : Int32 := (if r < (0 : Int64) then (0 : Int32) else (if (368934881474 : Int64) < (r / (16 : Int64)) then (0 : Int32) else (1 : Int32)))
theorem own_ef2 (m : MethodId) (r : Int64) : entryFrame m #[(.long r)] 2 = mkF m 0 #[.val (.long r), .second] [] := by first | (simp [entryFrame, mkF, argsToLocals, Value.category]; done) | rfl
def Q2 (Z : State) (r : Int64) (h0 : Heap) (n0 : Nat) (vr : Option Value) (hr : Heap) (Lr : List Loc) : Prop := vr = some (.int (own_holds r)) ∧ Fr n0 Lr ∧ hr = h0
set_option maxRecDepth 65536 in
set_option maxHeartbeats 40000000 in
theorem rm2 (l : Launch) (Z : State) (a0 : Array Value) (hw : ∀ d ∈ tables_1, d.before a0 Z = true) (ws : List Jvm.Cond) (r : Int64) (h0 : Heap) (n0 : Nat) (Z0 : n0 ≤ h0.size) :
    MetFree l (⟨"com/example/compact_commits/compactcommits/TicketsLayout", "holdsStarts", "(J)Z"⟩ : MethodName) (head1 (Jvm.Cond.code (⟨"com/example/compact_commits/compactcommits/TicketsLayout", "holdsStarts", "(J)Z"⟩ : MethodName) prog_50_method_9_code 2 (some .boolean) :: ws) ({ frames := 0, cells := 0, slots := 0, locals := 0 } : Room)) (fun aQ UQ => aQ = #[(.long r)] ∧ Z.Warmed39 UQ.vm ∧ UQ.heap = h0) (fun _ _ _ _ _ => True) (fun _ UQ oQ VQ => ∃ vQ LQ, oQ = .returned vQ ∧ Q2 Z r h0 n0 vQ VQ.heap LQ ∧ FrameEnd UQ oQ VQ LQ ({ frames := 0, cells := 0, slots := 0, locals := 0 } : Room).cells ({ frames := 0, cells := 0, slots := 0, locals := 0 } : Room).slots) := by
  refine MetFree.of_bodySF (plainFor_of_name own_pn1) hisR ?_
  intro p e s m args below meth c s₁ Bd hml0 hP hK
  obtain ⟨rfl, hZ, hh⟩ := hP
  have hx := Bd.exec
  have hby := Bd.bytes
  have hml : c.maxLocals = 2 := hml0
  have hown : s.vm.findClass "com/example/compact_commits/compactcommits/TicketsLayout" = some m.cls := findClass_of_methodNamed Bd.named
  have hnm := (name_of_methodNamed Bd.named Bd.method).1
  have X0 : Stand p l e ({ frames := 0, cells := 0, slots := 0, locals := 0 } : Room) s m #[(.long r)] below meth c s₁ [] 0 0 := Stand.of_body Bd
  have e0 : s₁.heap = h0 := by rw [← hh, Bd.state]; rfl
  have N0 := Fr.nil n0
  show Go p e below (EndQ s below (Q2 Z r h0 n0) ({ frames := 0, cells := 0, slots := 0, locals := 0 } : Room).cells ({ frames := 0, cells := 0, slots := 0, locals := 0 } : Room).slots) s₁ (entryFrame m #[(.long r)] 2)
  obtain ⟨Φ, hΦ⟩ : ∃ Φ, Φ = EndQ s below (Q2 Z r h0 n0) ({ frames := 0, cells := 0, slots := 0, locals := 0 } : Room).cells ({ frames := 0, cells := 0, slots := 0, locals := 0 } : Room).slots := ⟨_, rfl⟩
  rw [← hΦ, own_ef2]
  show Go p e below Φ s₁ (mkF m 0 #[.val (.long r), .second] [])
  refine Go.of (fun t k => XS.lloadN X0.here hx rfl (hb hby own_d2_0) rfl  k) ?_
  show Go p e below Φ s₁ (mkF m 1 #[.val (.long r), .second] [(.long r)])
  refine Go.of (fun t k => XS.lconst X0.here hx rfl (hb hby own_d2_1) k) ?_
  show Go p e below Φ s₁ (mkF m 2 #[.val (.long r), .second] [(.long (0 : Int64)), (.long r)])
  refine Go.of (fun t k => XT.lcmp X0.here hx rfl (hb hby own_d2_2) rfl k) ?_
  show Go p e below Φ s₁ (mkF m 3 #[.val (.long r), .second] [(.int (XT.cmpL r (0 : Int64)))])
  by_cases hc3 : r < (0 : Int64)
  · refine Go.of (fun t k => XS.ifYes X0.here hx rfl (pc0 := 3) (pc' := 22) rfl (hb hby own_d2_3) rfl (XT.ll_lt_t hc3) (by decide) (by decide) k) ?_
    show Go p e below Φ s₁ (mkF m 22 #[.val (.long r), .second] [])
    refine Go.of (fun t k => XS.iconst X0.here hx rfl (hb hby own_d2_22) k) ?_
    show Go p e below Φ s₁ (mkF m 23 #[.val (.long r), .second] [(.int (0 : Int32))])
    rw [hΦ]
    refine Go.ret X0 hx Bd.notSynchronized Bd.returns rfl (Or.inl ⟨rfl, Or.inr (Or.inl rfl), _, rfl⟩) (hb hby own_d2_23) (by decide) (by decide) ?_
    rw [e0]
    exact ⟨by rw [own_holds, if_pos hc3], N0, rfl⟩
  · refine Go.of (fun t k => XS.ifNo X0.here hx rfl (hb hby own_d2_3) rfl (XT.ll_lt_f hc3) k) ?_
    show Go p e below Φ s₁ (mkF m 6 #[.val (.long r), .second] [])
    refine Go.of (fun t k => XS.lloadN X0.here hx rfl (hb hby own_d2_6) rfl  k) ?_
    show Go p e below Φ s₁ (mkF m 7 #[.val (.long r), .second] [(.long r)])
    refine Go.of (fun t k => X0.ldc2Long hx hown (mvT hZ (hw _ (List.mem_of_getElem? (i := 10) rfl))) (g := (mkF m 7 #[.val (.long r), .second] [(.long r)])) rfl (hb hby own_d2_7) t k) ?_
    show Go p e below Φ s₁ (mkF m 10 #[.val (.long r), .second] [(.long (16 : Int64)), (.long r)])
    refine Go.of (fun t k => XS.ldiv X0.here hx rfl (hb hby own_d2_10) rfl (by decide) k) ?_
    show Go p e below Φ s₁ (mkF m 11 #[.val (.long r), .second] [(.long (r / (16 : Int64)))])
    refine Go.of (fun t k => X0.ldc2Long hx hown (mvT hZ (hw _ (List.mem_of_getElem? (i := 11) rfl))) (g := (mkF m 11 #[.val (.long r), .second] [(.long (r / (16 : Int64)))])) rfl (hb hby own_d2_11) t k) ?_
    show Go p e below Φ s₁ (mkF m 14 #[.val (.long r), .second] [(.long (368934881474 : Int64)), (.long (r / (16 : Int64)))])
    refine Go.of (fun t k => XT.lcmp X0.here hx rfl (hb hby own_d2_14) rfl k) ?_
    show Go p e below Φ s₁ (mkF m 15 #[.val (.long r), .second] [(.int (XT.cmpL (r / (16 : Int64)) (368934881474 : Int64)))])
    by_cases hc15 : (368934881474 : Int64) < (r / (16 : Int64))
    · refine Go.of (fun t k => XS.ifYes X0.here hx rfl (pc0 := 15) (pc' := 22) rfl (hb hby own_d2_15) rfl (XT.ll_gt_t hc15) (by decide) (by decide) k) ?_
      show Go p e below Φ s₁ (mkF m 22 #[.val (.long r), .second] [])
      refine Go.of (fun t k => XS.iconst X0.here hx rfl (hb hby own_d2_22) k) ?_
      show Go p e below Φ s₁ (mkF m 23 #[.val (.long r), .second] [(.int (0 : Int32))])
      rw [hΦ]
      refine Go.ret X0 hx Bd.notSynchronized Bd.returns rfl (Or.inl ⟨rfl, Or.inr (Or.inl rfl), _, rfl⟩) (hb hby own_d2_23) (by decide) (by decide) ?_
      rw [e0]
      exact ⟨by rw [own_holds, if_neg hc3, if_pos hc15], N0, rfl⟩
    · refine Go.of (fun t k => XS.ifNo X0.here hx rfl (hb hby own_d2_15) rfl (XT.ll_gt_f hc15) k) ?_
      show Go p e below Φ s₁ (mkF m 18 #[.val (.long r), .second] [])
      refine Go.of (fun t k => XS.iconst X0.here hx rfl (hb hby own_d2_18) k) ?_
      show Go p e below Φ s₁ (mkF m 19 #[.val (.long r), .second] [(.int (1 : Int32))])
      refine Go.of (fun t k => XS.goto X0.here hx rfl (pc0 := 19) (pc' := 23) rfl (hb hby own_d2_19) (by decide) (by decide) k) ?_
      show Go p e below Φ s₁ (mkF m 23 #[.val (.long r), .second] [(.int (1 : Int32))])
      rw [hΦ]
      refine Go.ret X0 hx Bd.notSynchronized Bd.returns rfl (Or.inl ⟨rfl, Or.inr (Or.inl rfl), _, rfl⟩) (hb hby own_d2_23) (by decide) (by decide) ?_
      rw [e0]
      exact ⟨by rw [own_holds, if_neg hc3, if_neg hc15], N0, rfl⟩
def own_row (ts : Int64) : Int64 := (((ts / (25000000 : Int64)) * (16 : Int64)) + ((ts - (ts / (25000000 : Int64)) * (25000000 : Int64)) - ((ts - (ts / (25000000 : Int64)) * (25000000 : Int64)) / (16 : Int64)) * (16 : Int64)))
theorem own_ef3 (m : MethodId) (ts : Int64) : entryFrame m #[(.long ts)] 2 = mkF m 0 #[.val (.long ts), .second] [] := by first | (simp [entryFrame, mkF, argsToLocals, Value.category]; done) | rfl
def Q3 (Z : State) (ts : Int64) (h0 : Heap) (n0 : Nat) (vr : Option Value) (hr : Heap) (Lr : List Loc) : Prop := vr = some (.long (own_row ts)) ∧ Fr n0 Lr ∧ hr = h0
set_option maxRecDepth 65536 in
set_option maxHeartbeats 40000000 in
theorem rm3 (l : Launch) (Z : State) (a0 : Array Value) (hw : ∀ d ∈ tables_1, d.before a0 Z = true) (ws : List Jvm.Cond) (ts : Int64) (h0 : Heap) (n0 : Nat) (Z0 : n0 ≤ h0.size) :
    MetFree l (⟨"com/example/compact_commits/compactcommits/TicketsLayout", "row", "(J)J"⟩ : MethodName) (head1 (Jvm.Cond.code (⟨"com/example/compact_commits/compactcommits/TicketsLayout", "row", "(J)J"⟩ : MethodName) prog_50_method_4_code 2 (some .long) :: ws) ({ frames := 0, cells := 0, slots := 0, locals := 0 } : Room)) (fun aQ UQ => aQ = #[(.long ts)] ∧ Z.Warmed39 UQ.vm ∧ UQ.heap = h0) (fun _ _ _ _ _ => True) (fun _ UQ oQ VQ => ∃ vQ LQ, oQ = .returned vQ ∧ Q3 Z ts h0 n0 vQ VQ.heap LQ ∧ FrameEnd UQ oQ VQ LQ ({ frames := 0, cells := 0, slots := 0, locals := 0 } : Room).cells ({ frames := 0, cells := 0, slots := 0, locals := 0 } : Room).slots) := by
  refine MetFree.of_bodySF (plainFor_of_name own_pn1) hisR ?_
  intro p e s m args below meth c s₁ Bd hml0 hP hK
  obtain ⟨rfl, hZ, hh⟩ := hP
  have hx := Bd.exec
  have hby := Bd.bytes
  have hml : c.maxLocals = 2 := hml0
  have hown : s.vm.findClass "com/example/compact_commits/compactcommits/TicketsLayout" = some m.cls := findClass_of_methodNamed Bd.named
  have hnm := (name_of_methodNamed Bd.named Bd.method).1
  have X0 : Stand p l e ({ frames := 0, cells := 0, slots := 0, locals := 0 } : Room) s m #[(.long ts)] below meth c s₁ [] 0 0 := Stand.of_body Bd
  have e0 : s₁.heap = h0 := by rw [← hh, Bd.state]; rfl
  have N0 := Fr.nil n0
  show Go p e below (EndQ s below (Q3 Z ts h0 n0) ({ frames := 0, cells := 0, slots := 0, locals := 0 } : Room).cells ({ frames := 0, cells := 0, slots := 0, locals := 0 } : Room).slots) s₁ (entryFrame m #[(.long ts)] 2)
  obtain ⟨Φ, hΦ⟩ : ∃ Φ, Φ = EndQ s below (Q3 Z ts h0 n0) ({ frames := 0, cells := 0, slots := 0, locals := 0 } : Room).cells ({ frames := 0, cells := 0, slots := 0, locals := 0 } : Room).slots := ⟨_, rfl⟩
  rw [← hΦ, own_ef3]
  show Go p e below Φ s₁ (mkF m 0 #[.val (.long ts), .second] [])
  refine Go.of (fun t k => XS.lloadN X0.here hx rfl (hb hby own_d3_0) rfl  k) ?_
  show Go p e below Φ s₁ (mkF m 1 #[.val (.long ts), .second] [(.long ts)])
  refine Go.of (fun t k => X0.ldc2Long hx hown (mvT hZ (hw _ (List.mem_of_getElem? (i := 17) rfl))) (g := (mkF m 1 #[.val (.long ts), .second] [(.long ts)])) rfl (hb hby own_d3_1) t k) ?_
  show Go p e below Φ s₁ (mkF m 4 #[.val (.long ts), .second] [(.long (25000000 : Int64)), (.long ts)])
  refine Go.of (fun t k => XS.ldiv X0.here hx rfl (hb hby own_d3_4) rfl (by decide) k) ?_
  show Go p e below Φ s₁ (mkF m 5 #[.val (.long ts), .second] [(.long (ts / (25000000 : Int64)))])
  refine Go.of (fun t k => X0.ldc2Long hx hown (mvT hZ (hw _ (List.mem_of_getElem? (i := 10) rfl))) (g := (mkF m 5 #[.val (.long ts), .second] [(.long (ts / (25000000 : Int64)))])) rfl (hb hby own_d3_5) t k) ?_
  show Go p e below Φ s₁ (mkF m 8 #[.val (.long ts), .second] [(.long (16 : Int64)), (.long (ts / (25000000 : Int64)))])
  refine Go.of (fun t k => XS.lmul X0.here hx rfl (hb hby own_d3_8) rfl k) ?_
  show Go p e below Φ s₁ (mkF m 9 #[.val (.long ts), .second] [(.long ((ts / (25000000 : Int64)) * (16 : Int64)))])
  refine Go.of (fun t k => XS.lloadN X0.here hx rfl (hb hby own_d3_9) rfl  k) ?_
  show Go p e below Φ s₁ (mkF m 10 #[.val (.long ts), .second] [(.long ts), (.long ((ts / (25000000 : Int64)) * (16 : Int64)))])
  refine Go.of (fun t k => X0.ldc2Long hx hown (mvT hZ (hw _ (List.mem_of_getElem? (i := 17) rfl))) (g := (mkF m 10 #[.val (.long ts), .second] [(.long ts), (.long ((ts / (25000000 : Int64)) * (16 : Int64)))])) rfl (hb hby own_d3_10) t k) ?_
  show Go p e below Φ s₁ (mkF m 13 #[.val (.long ts), .second] [(.long (25000000 : Int64)), (.long ts), (.long ((ts / (25000000 : Int64)) * (16 : Int64)))])
  refine Go.of (fun t k => XS.lrem X0.here hx rfl (hb hby own_d3_13) rfl (by decide) k) ?_
  show Go p e below Φ s₁ (mkF m 14 #[.val (.long ts), .second] [(.long (ts - (ts / (25000000 : Int64)) * (25000000 : Int64))), (.long ((ts / (25000000 : Int64)) * (16 : Int64)))])
  refine Go.of (fun t k => X0.ldc2Long hx hown (mvT hZ (hw _ (List.mem_of_getElem? (i := 10) rfl))) (g := (mkF m 14 #[.val (.long ts), .second] [(.long (ts - (ts / (25000000 : Int64)) * (25000000 : Int64))), (.long ((ts / (25000000 : Int64)) * (16 : Int64)))])) rfl (hb hby own_d3_14) t k) ?_
  show Go p e below Φ s₁ (mkF m 17 #[.val (.long ts), .second] [(.long (16 : Int64)), (.long (ts - (ts / (25000000 : Int64)) * (25000000 : Int64))), (.long ((ts / (25000000 : Int64)) * (16 : Int64)))])
  refine Go.of (fun t k => XS.lrem X0.here hx rfl (hb hby own_d3_17) rfl (by decide) k) ?_
  show Go p e below Φ s₁ (mkF m 18 #[.val (.long ts), .second] [(.long ((ts - (ts / (25000000 : Int64)) * (25000000 : Int64)) - ((ts - (ts / (25000000 : Int64)) * (25000000 : Int64)) / (16 : Int64)) * (16 : Int64))), (.long ((ts / (25000000 : Int64)) * (16 : Int64)))])
  refine Go.of (fun t k => XS.ladd X0.here hx rfl (hb hby own_d3_18) rfl k) ?_
  show Go p e below Φ s₁ (mkF m 19 #[.val (.long ts), .second] [(.long (((ts / (25000000 : Int64)) * (16 : Int64)) + ((ts - (ts / (25000000 : Int64)) * (25000000 : Int64)) - ((ts - (ts / (25000000 : Int64)) * (25000000 : Int64)) / (16 : Int64)) * (16 : Int64))))])
  rw [hΦ]
  refine Go.ret X0 hx Bd.notSynchronized Bd.returns rfl (Or.inr (Or.inl ⟨rfl, rfl, _, rfl⟩)) (hb hby own_d3_19) (by decide) (by decide) ?_
  rw [e0]
  exact ⟨by rw [own_row], N0, rfl⟩
theorem own_k : (16 : Int64).toInt = 16 ∧ (25000000 : Int64).toInt = 25000000 ∧ (0 : Int64).toInt = 0 ∧ (5902958103600 : Int64).toInt = 5902958103600 ∧ (368934881474 : Int64).toInt = 368934881474 := by decide
theorem own_same (r : Int64) : own_holds r = (if r < (0 : Int64) then (0 : Int32) else (if r < (5902958103600 : Int64) then (1 : Int32) else (0 : Int32))) := by
  obtain ⟨k1, k2, k3, k4, k5⟩ := own_k
  rw [own_holds]
  by_cases h : r < (0 : Int64)
  · rw [if_pos h, if_pos h]
  · rw [if_neg h, if_neg h]
    rw [Int64.lt_iff_toInt_lt] at h
    have d := (c_ldiv r 16 16 k1 (by decide)).1 (by omega)
    by_cases q : r < (5902958103600 : Int64)
    · rw [if_pos q, if_neg]
      rw [Int64.lt_iff_toInt_lt] at q ⊢
      omega
    · rw [if_neg q, if_pos]
      rw [Int64.lt_iff_toInt_lt] at q ⊢
      omega
theorem own_start (r : Int64) (h0 : 0 ≤ r.toInt) (h1 : r.toInt < 5902958103600) : (((r / (16 : Int64)) * (25000000 : Int64)) + (r - (r / (16 : Int64)) * (16 : Int64))).toInt = r.toInt / 16 * 25000000 + r.toInt % 16 := by
  obtain ⟨k1, k2, k3, k4, k5⟩ := own_k
  have d := (c_ldiv r 16 16 k1 (by decide)).1 h0
  have e := (c_lrem r 16 16 k1).1 h0
  have m : ((r / (16 : Int64)) * (25000000 : Int64)).toInt = r.toInt / 16 * 25000000 := by
    rw [XT.mul64 (by rw [d, k2]; constructor <;> omega), d, k2]
  rw [XT.add64 (by rw [m, e]; constructor <;> omega), m, e]
theorem own_dm (S q t : Int) (h : S = q * 25000000 + t) (h0 : 0 ≤ t) (h1 : t < 25000000) : S / 25000000 = q ∧ S % 25000000 = t := by
  subst h
  constructor
  · rw [Int.add_comm, Int.add_mul_ediv_right _ _ (by decide), Int.ediv_eq_zero_of_lt h0 h1, Int.zero_add]
  · rw [Int.add_comm, Int.add_mul_emod_self_right, Int.emod_eq_of_lt h0 h1]
theorem own_back (u r : Int64) (h0 : 0 ≤ r.toInt) (h1 : r.toInt < 5902958103600) (hu : u.toInt = r.toInt / 16 * 25000000 + r.toInt % 16) : own_row u = r := by
  obtain ⟨k1, k2, -, -, -⟩ := own_k
  obtain ⟨q1, q2⟩ := own_dm u.toInt (r.toInt / 16) (r.toInt % 16) hu (by omega) (by omega)
  have hp : 0 ≤ u.toInt := by omega
  have d := (c_ldiv u 25000000 25000000 k2 (by decide)).1 hp
  have e := (c_lrem u 25000000 25000000 k2).1 hp
  rw [q1] at d
  rw [q2] at e
  have e0 : 0 ≤ (u - (u / (25000000 : Int64)) * (25000000 : Int64)).toInt := by rw [e]; omega
  have f := (c_lrem (u - (u / (25000000 : Int64)) * (25000000 : Int64)) 16 16 k1).1 e0
  rw [e] at f
  have m : ((u / (25000000 : Int64)) * (16 : Int64)).toInt = r.toInt / 16 * 16 := by
    rw [XT.mul64 (by rw [d, k1]; constructor <;> omega), d, k1]
  rw [own_row]
  apply Int64.toInt_inj.mp
  rw [XT.add64 (by rw [m, f]; constructor <;> omega), m, f]
  omega
theorem own_in (r : Int64) (v25 : Int32) (hv25 : v25 = (if r < (0 : Int64) then (0 : Int32) else (if r < (5902958103600 : Int64) then (1 : Int32) else (0 : Int32)))) (hc : ¬ (v25 = (0 : Int32))) : 0 ≤ r.toInt ∧ r.toInt < 5902958103600 := by
  obtain ⟨k1, k2, k3, k4, k5⟩ := own_k
  by_cases h : r < (0 : Int64)
  · rw [if_pos h] at hv25; exact absurd hv25 hc
  · rw [if_neg h] at hv25
    by_cases q : r < (5902958103600 : Int64)
    · rw [Int64.lt_iff_toInt_lt] at h q; omega
    · rw [if_neg q] at hv25; exact absurd hv25 hc
theorem own_plain5 (i0 : Int64) (i1 : Int32) (x5 : Int64) (hx5 : x5 = (own_pick i0 i1)) (v25 : Int32) (hv25 : v25 = (if x5 < (0 : Int64) then (0 : Int32) else (if x5 < (5902958103600 : Int64) then (1 : Int32) else (0 : Int32)))) (x31 : Int32) (hx31 : x31 = (own_holds x5)) (hc37 : ¬ (x31 = v25)) : (0 : Int32) = (1 : Int32) := by
  exfalso; apply hc37
  rw [hx31, hv25]; exact own_same x5
theorem own_plain2 (i0 : Int64) (i1 : Int32) (x5 : Int64) (hx5 : x5 = (own_pick i0 i1)) (v25 : Int32) (hv25 : v25 = (if x5 < (0 : Int64) then (0 : Int32) else (if x5 < (5902958103600 : Int64) then (1 : Int32) else (0 : Int32)))) (x31 : Int32) (hx31 : x31 = (own_holds x5)) (x64 : Int64) (hx64 : x64 = (((x5 / (16 : Int64)) * (25000000 : Int64)) + (x5 - (x5 / (16 : Int64)) * (16 : Int64)))) (hc37 : x31 = v25) (hc44 : ¬ (v25 = (0 : Int32))) (hc70 : x64 < (0 : Int64)) : (0 : Int32) = (1 : Int32) := by
  exfalso
  obtain ⟨k1, k2, k3, k4, k5⟩ := own_k
  obtain ⟨a, b⟩ := own_in x5 v25 hv25 hc44
  have q := own_start x5 a b
  rw [← hx64] at q
  rw [Int64.lt_iff_toInt_lt] at hc70
  omega
theorem own_plain4 (i0 : Int64) (i1 : Int32) (x5 : Int64) (hx5 : x5 = (own_pick i0 i1)) (v25 : Int32) (hv25 : v25 = (if x5 < (0 : Int64) then (0 : Int32) else (if x5 < (5902958103600 : Int64) then (1 : Int32) else (0 : Int32)))) (x31 : Int32) (hx31 : x31 = (own_holds x5)) (x64 : Int64) (hx64 : x64 = (((x5 / (16 : Int64)) * (25000000 : Int64)) + (x5 - (x5 / (16 : Int64)) * (16 : Int64)))) (hc37 : x31 = v25) (hc44 : ¬ (v25 = (0 : Int32))) (hc70 : ¬ (x64 < (0 : Int64))) (hc80 : ¬ ((own_row x64) = x5)) : (0 : Int32) = (1 : Int32) := by
  exfalso; apply hc80
  obtain ⟨a, b⟩ := own_in x5 v25 hv25 hc44
  have q := own_start x5 a b
  rw [← hx64] at q
  exact own_back _ _ a b q
theorem own_ef0 (m : MethodId) (i0 : Int64) (i1 : Int32) : entryFrame m #[(.long i0), (.int i1)] maxLocals = mkF m 0 #[.val (.long i0), .second, .val (.int i1), .unset, .unset, .unset, .unset, .unset, .unset] [] := by first | (simp [entryFrame, mkF, argsToLocals, Value.category, maxLocals]; done) | rfl
def Q0 (Z : State) (i0 : Int64) (i1 : Int32) (h0 : Heap) (n0 : Nat) (vr : Option Value) (hr : Heap) (Lr : List Loc) : Prop := vr = some (.int 1) ∧ Fr n0 Lr
set_option maxRecDepth 65536 in
set_option maxHeartbeats 40000000 in
theorem rm0 (l : Launch) (Z : State) (a0 : Array Value) (hw : ∀ d ∈ tables_1, d.before a0 Z = true) (ws : List Jvm.Cond) (i0 : Int64) (i1 : Int32) (h0 : Heap) (n0 : Nat) (Z0 : n0 ≤ h0.size) :
    MetFree l x (head1 (Jvm.Cond.code x code maxLocals ret :: ws) room_1) (fun aQ UQ => aQ = #[(.long i0), (.int i1)] ∧ Z.Warmed39 UQ.vm ∧ UQ.heap = h0) (fun _ _ _ _ _ => True) (fun _ UQ oQ VQ => ∃ vQ LQ, oQ = .returned vQ ∧ Q0 Z i0 i1 h0 n0 vQ VQ.heap LQ ∧ FrameEnd UQ oQ VQ LQ 0 0) := by
  refine MetFree.of_bodySF (plainFor_of_name own_pn0) hisR ?_
  intro p e s m args below meth c s₁ Bd hml0 hP hK
  obtain ⟨rfl, hZ, hh⟩ := hP
  have hx := Bd.exec
  have hby := Bd.bytes
  have hml : c.maxLocals = 9 := hml0
  have hown : s.vm.findClass "com/example/compact_commits/compactcommits/TicketsLayoutHoldsStartsPinLaw" = some m.cls := findClass_of_methodNamed Bd.named
  have hnm := (name_of_methodNamed Bd.named Bd.method).1
  have X0 : Stand p l e room_1 s m #[(.long i0), (.int i1)] below meth c s₁ [] 0 0 := Stand.of_body Bd
  have e0 : s₁.heap = h0 := by rw [← hh, Bd.state]; rfl
  have N0 := Fr.nil n0
  show Go p e below (EndQ s below (Q0 Z i0 i1 h0 n0) 0 0) s₁ (entryFrame m #[(.long i0), (.int i1)] maxLocals)
  obtain ⟨Φ, hΦ⟩ : ∃ Φ, Φ = EndQ s below (Q0 Z i0 i1 h0 n0) 0 0 := ⟨_, rfl⟩
  rw [← hΦ, own_ef0]
  show Go p e below Φ s₁ (mkF m 0 #[.val (.long i0), .second, .val (.int i1), .unset, .unset, .unset, .unset, .unset, .unset] [])
  refine Go.of (fun t k => XS.lloadN X0.here hx rfl (hb hby at_0) rfl  k) ?_
  show Go p e below Φ s₁ (mkF m 1 #[.val (.long i0), .second, .val (.int i1), .unset, .unset, .unset, .unset, .unset, .unset] [(.long i0)])
  refine Go.of (fun t k => XS.iloadN X0.here hx rfl (hb hby at_1) rfl  k) ?_
  show Go p e below Φ s₁ (mkF m 2 #[.val (.long i0), .second, .val (.int i1), .unset, .unset, .unset, .unset, .unset, .unset] [(.int i1), (.long i0)])
  obtain ⟨_, _, ⟨T1, L1, k1, n1⟩, -, X1, ⟨Lc1, hQ1, l1, y1, z1⟩, st1⟩ := Jvm.LawKit.callS X0 hx (y := (⟨"com/example/compact_commits/compactcommits/TicketsLayoutHoldsStartsPinLaw", "pickRow", "(JI)J"⟩ : MethodName)) hown (mvT hZ (hw _ (List.mem_of_getElem? (i := 0) rfl))) (mvT hZ (hw _ (List.mem_of_getElem? (i := 1) rfl))) (mvT hZ (hw _ (List.mem_of_getElem? (i := 2) rfl))) (mvT hZ (hw _ (List.mem_of_getElem? (i := 3) rfl))) (by decide) (backOf (W := 0) (rm1 l Z a0 hw [] i0 i1 h0 n0 Z0) hZ (hw _ (List.mem_of_getElem? (i := 3) rfl)) (hw _ (List.mem_of_getElem? (i := 2) rfl)) (by decide) (by decide)) (g := (mkF m 2 #[.val (.long i0), .second, .val (.int i1), .unset, .unset, .unset, .unset, .unset, .unset] [(.int i1), (.long i0)])) rfl (by rw [hml]; rfl) (argsL := [(.long i0), (.int i1)]) (rest := []) (lenOf own_pd0 rfl) rfl (by show 2 * 0 + _ ≤ _; exact Nat.le_of_eq rfl) (hb hby at_2) (fun _ _ => ⟨rfl, e0, (by decide : 0 + 0 ≤ _), (by decide : 0 + 0 ≤ _)⟩)
  dsimp only [Pt.U, Pt.locs, Pt.cells, Pt.slots] at X1 l1 y1 z1 st1 hQ1
  subst l1 y1 z1
  obtain ⟨rfl, N1q, e1q⟩ := hQ1
  have N1 := Fr.app N0 N1q
  obtain ⟨lc1, X1, N1⟩ : ∃ lc, Stand p l e room_1 s m #[(.long i0), (.int i1)] below meth c T1 lc 0 0 ∧ Fr n0 lc := ⟨_, X1, N1⟩
  refine Go.of st1 ?_
  show Go p e below Φ T1 (mkF m 5 #[.val (.long i0), .second, .val (.int i1), .unset, .unset, .unset, .unset, .unset, .unset] [(.long (own_pick i0 i1))])
  obtain ⟨x5, hx5⟩ : ∃ z : Int64, z = (own_pick i0 i1) := ⟨_, rfl⟩
  rw [← hx5]
  refine Go.of (fun t k => XS.lstoreN X1.here hx rfl (hb hby at_5) rfl (l' := #[.val (.long i0), .second, .val (.int i1), .val (.long x5), .second, .unset, .unset, .unset, .unset]) rfl k) ?_
  show Go p e below Φ T1 (mkF m 6 #[.val (.long i0), .second, .val (.int i1), .val (.long x5), .second, .unset, .unset, .unset, .unset] [])
  refine Go.of (fun t k => XS.lloadN X1.here hx rfl (hb hby at_6) rfl  k) ?_
  show Go p e below Φ T1 (mkF m 7 #[.val (.long i0), .second, .val (.int i1), .val (.long x5), .second, .unset, .unset, .unset, .unset] [(.long x5)])
  refine Go.of (fun t k => XS.lconst X1.here hx rfl (hb hby at_7) k) ?_
  show Go p e below Φ T1 (mkF m 8 #[.val (.long i0), .second, .val (.int i1), .val (.long x5), .second, .unset, .unset, .unset, .unset] [(.long (0 : Int64)), (.long x5)])
  refine Go.of (fun t k => XT.lcmp X1.here hx rfl (hb hby at_8) rfl k) ?_
  show Go p e below Φ T1 (mkF m 9 #[.val (.long i0), .second, .val (.int i1), .val (.long x5), .second, .unset, .unset, .unset, .unset] [(.int (XT.cmpL x5 (0 : Int64)))])
  suffices j25_2 :  ∀ v25 : Int32, v25 = (if x5 < (0 : Int64) then (0 : Int32) else (if x5 < (5902958103600 : Int64) then (1 : Int32) else (0 : Int32))) → Go p e below Φ T1 (mkF m 25 #[.val (.long i0), .second, .val (.int i1), .val (.long x5), .second, .unset, .unset, .unset, .unset] [(.int v25)]) by
    by_cases hc9 : x5 < (0 : Int64)
    · refine Go.of (fun t k => XS.ifYes X1.here hx rfl (pc0 := 9) (pc' := 24) rfl (hb hby at_9) rfl (XT.ll_lt_t hc9) (by decide) (by decide) k) ?_
      show Go p e below Φ T1 (mkF m 24 #[.val (.long i0), .second, .val (.int i1), .val (.long x5), .second, .unset, .unset, .unset, .unset] [])
      refine Go.of (fun t k => XS.iconst X1.here hx rfl (hb hby at_24) k) ?_
      show Go p e below Φ T1 (mkF m 25 #[.val (.long i0), .second, .val (.int i1), .val (.long x5), .second, .unset, .unset, .unset, .unset] [(.int (0 : Int32))])
      exact j25_2 _ (by rw [if_pos hc9])
    · refine Go.of (fun t k => XS.ifNo X1.here hx rfl (hb hby at_9) rfl (XT.ll_lt_f hc9) k) ?_
      show Go p e below Φ T1 (mkF m 12 #[.val (.long i0), .second, .val (.int i1), .val (.long x5), .second, .unset, .unset, .unset, .unset] [])
      refine Go.of (fun t k => XS.lloadN X1.here hx rfl (hb hby at_12) rfl  k) ?_
      show Go p e below Φ T1 (mkF m 13 #[.val (.long i0), .second, .val (.int i1), .val (.long x5), .second, .unset, .unset, .unset, .unset] [(.long x5)])
      refine Go.of (fun t k => X1.ldc2Long hx hown (mvT hZ (hw _ (List.mem_of_getElem? (i := 5) rfl))) (g := (mkF m 13 #[.val (.long i0), .second, .val (.int i1), .val (.long x5), .second, .unset, .unset, .unset, .unset] [(.long x5)])) rfl (hb hby at_13) t k) ?_
      show Go p e below Φ T1 (mkF m 16 #[.val (.long i0), .second, .val (.int i1), .val (.long x5), .second, .unset, .unset, .unset, .unset] [(.long (5902958103600 : Int64)), (.long x5)])
      refine Go.of (fun t k => XT.lcmp X1.here hx rfl (hb hby at_16) rfl k) ?_
      show Go p e below Φ T1 (mkF m 17 #[.val (.long i0), .second, .val (.int i1), .val (.long x5), .second, .unset, .unset, .unset, .unset] [(.int (XT.cmpL x5 (5902958103600 : Int64)))])
      by_cases hc17 : x5 < (5902958103600 : Int64)
      · refine Go.of (fun t k => XS.ifNo X1.here hx rfl (hb hby at_17) rfl (XT.ll_ge_f hc17) k) ?_
        show Go p e below Φ T1 (mkF m 20 #[.val (.long i0), .second, .val (.int i1), .val (.long x5), .second, .unset, .unset, .unset, .unset] [])
        refine Go.of (fun t k => XS.iconst X1.here hx rfl (hb hby at_20) k) ?_
        show Go p e below Φ T1 (mkF m 21 #[.val (.long i0), .second, .val (.int i1), .val (.long x5), .second, .unset, .unset, .unset, .unset] [(.int (1 : Int32))])
        refine Go.of (fun t k => XS.goto X1.here hx rfl (pc0 := 21) (pc' := 25) rfl (hb hby at_21) (by decide) (by decide) k) ?_
        show Go p e below Φ T1 (mkF m 25 #[.val (.long i0), .second, .val (.int i1), .val (.long x5), .second, .unset, .unset, .unset, .unset] [(.int (1 : Int32))])
        exact j25_2 _ (by rw [if_neg hc9, if_pos hc17])
      · refine Go.of (fun t k => XS.ifYes X1.here hx rfl (pc0 := 17) (pc' := 24) rfl (hb hby at_17) rfl (XT.ll_ge_t hc17) (by decide) (by decide) k) ?_
        show Go p e below Φ T1 (mkF m 24 #[.val (.long i0), .second, .val (.int i1), .val (.long x5), .second, .unset, .unset, .unset, .unset] [])
        refine Go.of (fun t k => XS.iconst X1.here hx rfl (hb hby at_24) k) ?_
        show Go p e below Φ T1 (mkF m 25 #[.val (.long i0), .second, .val (.int i1), .val (.long x5), .second, .unset, .unset, .unset, .unset] [(.int (0 : Int32))])
        exact j25_2 _ (by rw [if_neg hc9, if_neg hc17])
  intro v25 hv25
  show Go p e below Φ T1 (mkF m 25 #[.val (.long i0), .second, .val (.int i1), .val (.long x5), .second, .unset, .unset, .unset, .unset] [(.int v25)])
  refine Go.of (fun t k => XS.istore X1.here hx rfl (hb hby at_25) rfl (l' := #[.val (.long i0), .second, .val (.int i1), .val (.long x5), .second, .val (.int v25), .unset, .unset, .unset]) rfl k) ?_
  show Go p e below Φ T1 (mkF m 27 #[.val (.long i0), .second, .val (.int i1), .val (.long x5), .second, .val (.int v25), .unset, .unset, .unset] [])
  refine Go.of (fun t k => XS.lloadN X1.here hx rfl (hb hby at_27) rfl  k) ?_
  show Go p e below Φ T1 (mkF m 28 #[.val (.long i0), .second, .val (.int i1), .val (.long x5), .second, .val (.int v25), .unset, .unset, .unset] [(.long x5)])
  obtain ⟨_, _, ⟨T3, L3, k3, n3⟩, -, X3, ⟨Lc3, hQ3, l3, y3, z3⟩, st3⟩ := Jvm.LawKit.callS X1 hx (y := (⟨"com/example/compact_commits/compactcommits/TicketsLayout", "holdsStarts", "(J)Z"⟩ : MethodName)) hown (mvT hZ (hw _ (List.mem_of_getElem? (i := 6) rfl))) (mvT hZ (hw _ (List.mem_of_getElem? (i := 7) rfl))) (mvT hZ (hw _ (List.mem_of_getElem? (i := 8) rfl))) (mvT hZ (hw _ (List.mem_of_getElem? (i := 9) rfl))) (by decide) (backOf (W := 0) (rm2 l Z a0 hw [] x5 h0 n0 Z0) hZ (hw _ (List.mem_of_getElem? (i := 9) rfl)) (hw _ (List.mem_of_getElem? (i := 8) rfl)) (by decide) (by decide)) (g := (mkF m 28 #[.val (.long i0), .second, .val (.int i1), .val (.long x5), .second, .val (.int v25), .unset, .unset, .unset] [(.long x5)])) rfl (by rw [hml]; rfl) (argsL := [(.long x5)]) (rest := []) (lenOf own_pd1 rfl) rfl (by show 2 * 0 + _ ≤ _; exact Nat.le_of_eq rfl) (hb hby at_28) (fun _ _ => ⟨rfl, (e1q), (by decide : 0 + 0 ≤ _), (by decide : 0 + 0 ≤ _)⟩)
  dsimp only [Pt.U, Pt.locs, Pt.cells, Pt.slots] at X3 l3 y3 z3 st3 hQ3
  subst l3 y3 z3
  obtain ⟨rfl, N3q, e3q⟩ := hQ3
  have N3 := Fr.app N1 N3q
  obtain ⟨lc3, X3, N3⟩ : ∃ lc, Stand p l e room_1 s m #[(.long i0), (.int i1)] below meth c T3 lc 0 0 ∧ Fr n0 lc := ⟨_, X3, N3⟩
  refine Go.of st3 ?_
  show Go p e below Φ T3 (mkF m 31 #[.val (.long i0), .second, .val (.int i1), .val (.long x5), .second, .val (.int v25), .unset, .unset, .unset] [(.int (own_holds x5))])
  obtain ⟨x31, hx31⟩ : ∃ z : Int32, z = (own_holds x5) := ⟨_, rfl⟩
  rw [← hx31]
  refine Go.of (fun t k => XS.istore X3.here hx rfl (hb hby at_31) rfl (l' := #[.val (.long i0), .second, .val (.int i1), .val (.long x5), .second, .val (.int v25), .val (.int x31), .unset, .unset]) rfl k) ?_
  show Go p e below Φ T3 (mkF m 33 #[.val (.long i0), .second, .val (.int i1), .val (.long x5), .second, .val (.int v25), .val (.int x31), .unset, .unset] [])
  refine Go.of (fun t k => XS.iload X3.here hx rfl (hb hby at_33) rfl  k) ?_
  show Go p e below Φ T3 (mkF m 35 #[.val (.long i0), .second, .val (.int i1), .val (.long x5), .second, .val (.int v25), .val (.int x31), .unset, .unset] [(.int x31)])
  refine Go.of (fun t k => XS.iload X3.here hx rfl (hb hby at_35) rfl  k) ?_
  show Go p e below Φ T3 (mkF m 37 #[.val (.long i0), .second, .val (.int i1), .val (.long x5), .second, .val (.int v25), .val (.int x31), .unset, .unset] [(.int v25), (.int x31)])
  by_cases hc37 : x31 = v25
  · refine Go.of (fun t k => XS.icmpYes X3.here hx rfl (pc0 := 37) (pc' := 42) rfl (hb hby at_37) rfl (XT.ii_eq_t hc37) (by decide) (by decide) k) ?_
    show Go p e below Φ T3 (mkF m 42 #[.val (.long i0), .second, .val (.int i1), .val (.long x5), .second, .val (.int v25), .val (.int x31), .unset, .unset] [])
    refine Go.of (fun t k => XS.iload X3.here hx rfl (hb hby at_42) rfl  k) ?_
    show Go p e below Φ T3 (mkF m 44 #[.val (.long i0), .second, .val (.int i1), .val (.long x5), .second, .val (.int v25), .val (.int x31), .unset, .unset] [(.int v25)])
    by_cases hc44 : v25 = (0 : Int32)
    · refine Go.of (fun t k => XS.ifNo X3.here hx rfl (hb hby at_44) rfl (XT.i0_ne_f hc44) k) ?_
      show Go p e below Φ T3 (mkF m 47 #[.val (.long i0), .second, .val (.int i1), .val (.long x5), .second, .val (.int v25), .val (.int x31), .unset, .unset] [])
      refine Go.of (fun t k => XS.iconst X3.here hx rfl (hb hby at_47) k) ?_
      show Go p e below Φ T3 (mkF m 48 #[.val (.long i0), .second, .val (.int i1), .val (.long x5), .second, .val (.int v25), .val (.int x31), .unset, .unset] [(.int (1 : Int32))])
      rw [hΦ]
      refine Go.ret X3 hx Bd.notSynchronized Bd.returns rfl (Or.inl ⟨rfl, Or.inr (Or.inl rfl), _, rfl⟩) (hb hby at_48) (by decide) (by decide) ?_
      rw [(e3q)]
      exact ⟨rfl, N3⟩
    · refine Go.of (fun t k => XS.ifYes X3.here hx rfl (pc0 := 44) (pc' := 49) rfl (hb hby at_44) rfl (XT.i0_ne_t hc44) (by decide) (by decide) k) ?_
      show Go p e below Φ T3 (mkF m 49 #[.val (.long i0), .second, .val (.int i1), .val (.long x5), .second, .val (.int v25), .val (.int x31), .unset, .unset] [])
      refine Go.of (fun t k => XS.lloadN X3.here hx rfl (hb hby at_49) rfl  k) ?_
      show Go p e below Φ T3 (mkF m 50 #[.val (.long i0), .second, .val (.int i1), .val (.long x5), .second, .val (.int v25), .val (.int x31), .unset, .unset] [(.long x5)])
      refine Go.of (fun t k => X3.ldc2Long hx hown (mvT hZ (hw _ (List.mem_of_getElem? (i := 12) rfl))) (g := (mkF m 50 #[.val (.long i0), .second, .val (.int i1), .val (.long x5), .second, .val (.int v25), .val (.int x31), .unset, .unset] [(.long x5)])) rfl (hb hby at_50) t k) ?_
      show Go p e below Φ T3 (mkF m 53 #[.val (.long i0), .second, .val (.int i1), .val (.long x5), .second, .val (.int v25), .val (.int x31), .unset, .unset] [(.long (16 : Int64)), (.long x5)])
      refine Go.of (fun t k => XS.ldiv X3.here hx rfl (hb hby at_53) rfl (by decide) k) ?_
      show Go p e below Φ T3 (mkF m 54 #[.val (.long i0), .second, .val (.int i1), .val (.long x5), .second, .val (.int v25), .val (.int x31), .unset, .unset] [(.long (x5 / (16 : Int64)))])
      refine Go.of (fun t k => X3.ldc2Long hx hown (mvT hZ (hw _ (List.mem_of_getElem? (i := 13) rfl))) (g := (mkF m 54 #[.val (.long i0), .second, .val (.int i1), .val (.long x5), .second, .val (.int v25), .val (.int x31), .unset, .unset] [(.long (x5 / (16 : Int64)))])) rfl (hb hby at_54) t k) ?_
      show Go p e below Φ T3 (mkF m 57 #[.val (.long i0), .second, .val (.int i1), .val (.long x5), .second, .val (.int v25), .val (.int x31), .unset, .unset] [(.long (25000000 : Int64)), (.long (x5 / (16 : Int64)))])
      refine Go.of (fun t k => XS.lmul X3.here hx rfl (hb hby at_57) rfl k) ?_
      show Go p e below Φ T3 (mkF m 58 #[.val (.long i0), .second, .val (.int i1), .val (.long x5), .second, .val (.int v25), .val (.int x31), .unset, .unset] [(.long ((x5 / (16 : Int64)) * (25000000 : Int64)))])
      refine Go.of (fun t k => XS.lloadN X3.here hx rfl (hb hby at_58) rfl  k) ?_
      show Go p e below Φ T3 (mkF m 59 #[.val (.long i0), .second, .val (.int i1), .val (.long x5), .second, .val (.int v25), .val (.int x31), .unset, .unset] [(.long x5), (.long ((x5 / (16 : Int64)) * (25000000 : Int64)))])
      refine Go.of (fun t k => X3.ldc2Long hx hown (mvT hZ (hw _ (List.mem_of_getElem? (i := 12) rfl))) (g := (mkF m 59 #[.val (.long i0), .second, .val (.int i1), .val (.long x5), .second, .val (.int v25), .val (.int x31), .unset, .unset] [(.long x5), (.long ((x5 / (16 : Int64)) * (25000000 : Int64)))])) rfl (hb hby at_59) t k) ?_
      show Go p e below Φ T3 (mkF m 62 #[.val (.long i0), .second, .val (.int i1), .val (.long x5), .second, .val (.int v25), .val (.int x31), .unset, .unset] [(.long (16 : Int64)), (.long x5), (.long ((x5 / (16 : Int64)) * (25000000 : Int64)))])
      refine Go.of (fun t k => XS.lrem X3.here hx rfl (hb hby at_62) rfl (by decide) k) ?_
      show Go p e below Φ T3 (mkF m 63 #[.val (.long i0), .second, .val (.int i1), .val (.long x5), .second, .val (.int v25), .val (.int x31), .unset, .unset] [(.long (x5 - (x5 / (16 : Int64)) * (16 : Int64))), (.long ((x5 / (16 : Int64)) * (25000000 : Int64)))])
      refine Go.of (fun t k => XS.ladd X3.here hx rfl (hb hby at_63) rfl k) ?_
      show Go p e below Φ T3 (mkF m 64 #[.val (.long i0), .second, .val (.int i1), .val (.long x5), .second, .val (.int v25), .val (.int x31), .unset, .unset] [(.long (((x5 / (16 : Int64)) * (25000000 : Int64)) + (x5 - (x5 / (16 : Int64)) * (16 : Int64))))])
      obtain ⟨x64, hx64⟩ : ∃ z : Int64, z = (((x5 / (16 : Int64)) * (25000000 : Int64)) + (x5 - (x5 / (16 : Int64)) * (16 : Int64))) := ⟨_, rfl⟩
      rw [← hx64]
      refine Go.of (fun t k => XS.lstore X3.here hx rfl (hb hby at_64) rfl (l' := #[.val (.long i0), .second, .val (.int i1), .val (.long x5), .second, .val (.int v25), .val (.int x31), .val (.long x64), .second]) rfl k) ?_
      show Go p e below Φ T3 (mkF m 66 #[.val (.long i0), .second, .val (.int i1), .val (.long x5), .second, .val (.int v25), .val (.int x31), .val (.long x64), .second] [])
      refine Go.of (fun t k => XS.lload X3.here hx rfl (hb hby at_66) rfl  k) ?_
      show Go p e below Φ T3 (mkF m 68 #[.val (.long i0), .second, .val (.int i1), .val (.long x5), .second, .val (.int v25), .val (.int x31), .val (.long x64), .second] [(.long x64)])
      refine Go.of (fun t k => XS.lconst X3.here hx rfl (hb hby at_68) k) ?_
      show Go p e below Φ T3 (mkF m 69 #[.val (.long i0), .second, .val (.int i1), .val (.long x5), .second, .val (.int v25), .val (.int x31), .val (.long x64), .second] [(.long (0 : Int64)), (.long x64)])
      refine Go.of (fun t k => XT.lcmp X3.here hx rfl (hb hby at_69) rfl k) ?_
      show Go p e below Φ T3 (mkF m 70 #[.val (.long i0), .second, .val (.int i1), .val (.long x5), .second, .val (.int v25), .val (.int x31), .val (.long x64), .second] [(.int (XT.cmpL x64 (0 : Int64)))])
      by_cases hc70 : x64 < (0 : Int64)
      · refine Go.of (fun t k => XS.ifYes X3.here hx rfl (pc0 := 70) (pc' := 87) rfl (hb hby at_70) rfl (XT.ll_lt_t hc70) (by decide) (by decide) k) ?_
        show Go p e below Φ T3 (mkF m 87 #[.val (.long i0), .second, .val (.int i1), .val (.long x5), .second, .val (.int v25), .val (.int x31), .val (.long x64), .second] [])
        refine Go.of (fun t k => XS.iconst X3.here hx rfl (hb hby at_87) k) ?_
        show Go p e below Φ T3 (mkF m 88 #[.val (.long i0), .second, .val (.int i1), .val (.long x5), .second, .val (.int v25), .val (.int x31), .val (.long x64), .second] [(.int (0 : Int32))])
        rw [hΦ]
        refine Go.ret X3 hx Bd.notSynchronized Bd.returns rfl (Or.inl ⟨rfl, Or.inr (Or.inl rfl), _, rfl⟩) (hb hby at_88) (by decide) (by decide) ?_
        rw [(e3q)]
        exact ⟨congrArg (fun z => some (Value.int z)) (own_plain2 i0 i1 x5 hx5 v25 hv25 x31 hx31 x64 hx64 hc37 hc44 hc70), N3⟩
      · refine Go.of (fun t k => XS.ifNo X3.here hx rfl (hb hby at_70) rfl (XT.ll_lt_f hc70) k) ?_
        show Go p e below Φ T3 (mkF m 73 #[.val (.long i0), .second, .val (.int i1), .val (.long x5), .second, .val (.int v25), .val (.int x31), .val (.long x64), .second] [])
        refine Go.of (fun t k => XS.lload X3.here hx rfl (hb hby at_73) rfl  k) ?_
        show Go p e below Φ T3 (mkF m 75 #[.val (.long i0), .second, .val (.int i1), .val (.long x5), .second, .val (.int v25), .val (.int x31), .val (.long x64), .second] [(.long x64)])
        obtain ⟨_, _, ⟨T4, L4, k4, n4⟩, -, X4, ⟨Lc4, hQ4, l4, y4, z4⟩, st4⟩ := Jvm.LawKit.callS X3 hx (y := (⟨"com/example/compact_commits/compactcommits/TicketsLayout", "row", "(J)J"⟩ : MethodName)) hown (mvT hZ (hw _ (List.mem_of_getElem? (i := 14) rfl))) (mvT hZ (hw _ (List.mem_of_getElem? (i := 15) rfl))) (mvT hZ (hw _ (List.mem_of_getElem? (i := 8) rfl))) (mvT hZ (hw _ (List.mem_of_getElem? (i := 16) rfl))) (by decide) (backOf (W := 0) (rm3 l Z a0 hw [] x64 h0 n0 Z0) hZ (hw _ (List.mem_of_getElem? (i := 16) rfl)) (hw _ (List.mem_of_getElem? (i := 8) rfl)) (by decide) (by decide)) (g := (mkF m 75 #[.val (.long i0), .second, .val (.int i1), .val (.long x5), .second, .val (.int v25), .val (.int x31), .val (.long x64), .second] [(.long x64)])) rfl (by rw [hml]; rfl) (argsL := [(.long x64)]) (rest := []) (lenOf own_pd2 rfl) rfl (by show 2 * 0 + _ ≤ _; exact Nat.le_of_eq rfl) (hb hby at_75) (fun _ _ => ⟨rfl, (e3q), (by decide : 0 + 0 ≤ _), (by decide : 0 + 0 ≤ _)⟩)
        dsimp only [Pt.U, Pt.locs, Pt.cells, Pt.slots] at X4 l4 y4 z4 st4 hQ4
        subst l4 y4 z4
        obtain ⟨rfl, N4q, e4q⟩ := hQ4
        have N4 := Fr.app N3 N4q
        obtain ⟨lc4, X4, N4⟩ : ∃ lc, Stand p l e room_1 s m #[(.long i0), (.int i1)] below meth c T4 lc 0 0 ∧ Fr n0 lc := ⟨_, X4, N4⟩
        refine Go.of st4 ?_
        show Go p e below Φ T4 (mkF m 78 #[.val (.long i0), .second, .val (.int i1), .val (.long x5), .second, .val (.int v25), .val (.int x31), .val (.long x64), .second] [(.long (own_row x64))])
        refine Go.of (fun t k => XS.lloadN X4.here hx rfl (hb hby at_78) rfl  k) ?_
        show Go p e below Φ T4 (mkF m 79 #[.val (.long i0), .second, .val (.int i1), .val (.long x5), .second, .val (.int v25), .val (.int x31), .val (.long x64), .second] [(.long x5), (.long (own_row x64))])
        refine Go.of (fun t k => XT.lcmp X4.here hx rfl (hb hby at_79) rfl k) ?_
        show Go p e below Φ T4 (mkF m 80 #[.val (.long i0), .second, .val (.int i1), .val (.long x5), .second, .val (.int v25), .val (.int x31), .val (.long x64), .second] [(.int (XT.cmpL (own_row x64) x5))])
        by_cases hc80 : (own_row x64) = x5
        · refine Go.of (fun t k => XS.ifNo X4.here hx rfl (hb hby at_80) rfl (XT.ll_ne_f hc80) k) ?_
          show Go p e below Φ T4 (mkF m 83 #[.val (.long i0), .second, .val (.int i1), .val (.long x5), .second, .val (.int v25), .val (.int x31), .val (.long x64), .second] [])
          refine Go.of (fun t k => XS.iconst X4.here hx rfl (hb hby at_83) k) ?_
          show Go p e below Φ T4 (mkF m 84 #[.val (.long i0), .second, .val (.int i1), .val (.long x5), .second, .val (.int v25), .val (.int x31), .val (.long x64), .second] [(.int (1 : Int32))])
          refine Go.of (fun t k => XS.goto X4.here hx rfl (pc0 := 84) (pc' := 88) rfl (hb hby at_84) (by decide) (by decide) k) ?_
          show Go p e below Φ T4 (mkF m 88 #[.val (.long i0), .second, .val (.int i1), .val (.long x5), .second, .val (.int v25), .val (.int x31), .val (.long x64), .second] [(.int (1 : Int32))])
          rw [hΦ]
          refine Go.ret X4 hx Bd.notSynchronized Bd.returns rfl (Or.inl ⟨rfl, Or.inr (Or.inl rfl), _, rfl⟩) (hb hby at_88) (by decide) (by decide) ?_
          rw [(e4q)]
          exact ⟨rfl, N4⟩
        · refine Go.of (fun t k => XS.ifYes X4.here hx rfl (pc0 := 80) (pc' := 87) rfl (hb hby at_80) rfl (XT.ll_ne_t hc80) (by decide) (by decide) k) ?_
          show Go p e below Φ T4 (mkF m 87 #[.val (.long i0), .second, .val (.int i1), .val (.long x5), .second, .val (.int v25), .val (.int x31), .val (.long x64), .second] [])
          refine Go.of (fun t k => XS.iconst X4.here hx rfl (hb hby at_87) k) ?_
          show Go p e below Φ T4 (mkF m 88 #[.val (.long i0), .second, .val (.int i1), .val (.long x5), .second, .val (.int v25), .val (.int x31), .val (.long x64), .second] [(.int (0 : Int32))])
          rw [hΦ]
          refine Go.ret X4 hx Bd.notSynchronized Bd.returns rfl (Or.inl ⟨rfl, Or.inr (Or.inl rfl), _, rfl⟩) (hb hby at_88) (by decide) (by decide) ?_
          rw [(e4q)]
          exact ⟨congrArg (fun z => some (Value.int z)) (own_plain4 i0 i1 x5 hx5 v25 hv25 x31 hx31 x64 hx64 hc37 hc44 hc70 hc80), N4⟩
  · refine Go.of (fun t k => XS.icmpNo X3.here hx rfl (hb hby at_37) rfl (XT.ii_eq_f hc37) k) ?_
    show Go p e below Φ T3 (mkF m 40 #[.val (.long i0), .second, .val (.int i1), .val (.long x5), .second, .val (.int v25), .val (.int x31), .unset, .unset] [])
    refine Go.of (fun t k => XS.iconst X3.here hx rfl (hb hby at_40) k) ?_
    show Go p e below Φ T3 (mkF m 41 #[.val (.long i0), .second, .val (.int i1), .val (.long x5), .second, .val (.int v25), .val (.int x31), .unset, .unset] [(.int (0 : Int32))])
    rw [hΦ]
    refine Go.ret X3 hx Bd.notSynchronized Bd.returns rfl (Or.inl ⟨rfl, Or.inr (Or.inl rfl), _, rfl⟩) (hb hby at_41) (by decide) (by decide) ?_
    rw [(e3q)]
    exact ⟨congrArg (fun z => some (Value.int z)) (own_plain5 i0 i1 x5 hx5 v25 hv25 x31 hx31 hc37), N3⟩
set_option maxRecDepth 65536 in
set_option maxHeartbeats 40000000 in
theorem comes_1 {Post : Tables → Env → Array Value → State → Outcome → State → Prop} (hpost : ∀ tb e args s v u, (limb_1_1.after args s (.returned v) u = true ∧ limb_1_2.after args s (.returned v) u = true ∧ True) → FrameEnd s (.returned v) u (Jvm.fieldLocs frame_1_writes args s ++ Jvm.arrayLocs frame_1_arrays args s ++ Jvm.staticLocs frame_1_statics s) 0 0 → Post tb e args s (.returned v) u) :
    ArmFor flags0 classFile x code maxLocals ret World_1 tables_1 room_1 Calls_1 rest_1 Pre_1 Post := by
  intro l hfl _ _ p e ha hc hk s m args below hf hA hF happ hP
  obtain ⟨hcalls, hrest, hpre⟩ := hP
  obtain ⟨-, -, -, hnamed, -, -, -, hat⟩ := (Spec.applies_iff hf).mp happ
  obtain ⟨hg, hn⟩ := and_e (Cond.before_iff.mp (show (Jvm.Cond.and given_1 narrow_1).before args s = true from hpre))
  obtain ⟨g1, g2⟩ := and_e hg
  obtain ⟨g3, g4⟩ := and_e g2
  obtain ⟨w0, w1, rfl⟩ : ∃ w0 w1 : Value, args = #[w0, w1] := by
    have hs : args.size = 2 := by simpa [Cond.value, given_1] using g1
    obtain ⟨L⟩ := args
    match L, hs with
    | [w0, w1], _ => exact ⟨w0, w1, rfl⟩
  have hw := fun d (hd : d ∈ tables_1) => atoms_spec (ws := Jvm.Cond.code x code maxLocals ret :: tables_1) hat d (List.mem_cons_of_mem _ hd)
  have hfit : Fit s := fun {y c} hc i hi => by
    obtain ⟨ha, rfl⟩ := Array.getElem?_eq_some_iff.mp hc
    have q := List.all_eq_true.mp ((Array.all_eq_true_iff_forall_mem.mp hF) _ (Array.getElem_mem ha)) i (List.mem_range.mpr hi)
    simpa [Array.getElem?_eq_getElem hi] using q
  obtain ⟨i0, ei0⟩ := isL_v g3
  obtain rfl : w0 = (.long i0) := Option.some.inj ei0
  obtain ⟨i1, ei1⟩ := is_v g4
  obtain rfl : w1 = (.int i1) := Option.some.inj ei1
  obtain ⟨n, o, h1, h2, h3, _, L, rfl, ⟨rfl, N⟩, hq⟩ := rm0 l s _ hw tables_1 i0 i1  s.heap s.heap.size (Nat.le_refl _)  p e ha hc hk s m _ below hf ((Spec.applies_iff_loose hf).mp happ).1 ⟨rfl, State.Warmed39.refl s, rfl⟩ trivial
  refine ⟨n, _, h1, h2, h3, hpost _ _ _ _ _ _ ⟨Cond.after_iff.mpr rfl, Cond.after_iff.mpr (eq_i res_at (Term.int_eval (1)) rfl), trivial⟩ ⟨hq.1, hq.2.1, (hq.2.2.sift fun y hy => Or.inr (N y hy)).mono (by decide) (by decide)⟩⟩
theorem main_1_1 : Claimed_1_1 := comes_1 fun _ _ _ _ _ _ h hF => ⟨h.1, hF⟩
theorem main_1_2 : Claimed_1_2 := comes_1 fun _ _ _ _ _ _ h hF => ⟨h.2.1, hF⟩
end Jvm.Pilot.@@N@@
namespace Jvm.Pilot.@@N@@
open Jvm Jvm.ClassFile Sem Op Lib Jvm.Free Jvm.Stand Jvm.Pilot.@@N@@.Jvm.D
/-! MADE BY PROGRAM (witnessworld.py) out of the Statement's table words and the real class files: 9 classes; the members and pool entries that the words name. The judged class is class 1, her method 2. -/
namespace start1
open Jvm.ClassFile
def u (s : String) : CpInfo := .utf8 (stringToUtf16 s)
/-- a pool by its gaps: so many unusable entries, then the entry; so many at the end -/
def gap : Nat → List CpInfo → List CpInfo
  | 0, r => r
  | n + 1, r => .unusable :: gap n r
def poolList (es : List (Nat × CpInfo)) (last : Nat) : List CpInfo := es.foldr (fun e r => gap e.1 (e.2 :: r)) (gap last [])
def pool (es : List (Nat × CpInfo)) (last : Nat) : Array CpInfo := ⟨poolList es last⟩
def fileOf (pool : Array CpInfo) (this : Nat) (attrs : Array Attribute := #[]) (ms : Array MethodInfo := #[]) (fl : Nat := 33) (sup : Nat := 0) (ifs : Array Nat := #[]) (fds : Array FieldInfo := #[]) : ClassFile where
  minorVersion := 0
  majorVersion := 65
  constantPool := pool
  accessFlags := fl
  thisClass := this
  superClass := sup
  interfaces := ifs
  fields := fds
  methods := ms
  attributes := attrs
def plain (name : String) (sup : Option ClassId) : Class where
  name := name
  kind := .ordinary
  loader := none
  accessFlags := 33
  super := sup
  interfaces := #[]
  cf := none
  fields := #[]
  methods := #[]
  instanceTypes := #[]
  staticTypes := #[]
  resolved := #[]
  callSites := []
  init := .initialized
  statics := none
  mirror := none

def pool0 : Array CpInfo := pool [(5, u "<init>"), (0, u "()V"), (1, .class_ 10), (1, u "java/lang/Object")] 113

def k0m0 : Method := { name := "<init>", desc := "()V", sig := { parameters := [], returnType := none }, accessFlags := 1, code := none }
/-- java/lang/Object -/
def k0 : Class := { plain "java/lang/Object" none with
  accessFlags := 33
  interfaces := #[]
  cf := some (fileOf pool0 8 #[] #[{ accessFlags := 1, nameIndex := 5, descriptorIndex := 6, attributes := #[] }] 33 0 #[] #[])
  fields := #[]
  methods := #[k0m0]
  instanceTypes := #[]
  staticTypes := #[]
  resolved := Array.replicate 124 none
  statics := none }

def pool1 : Array CpInfo := pool [(2, .class_ 4), (1, u "java/lang/Object"), (0, u "<init>"), (0, u "()V"), (0, .class_ 8), (0, u "com/example/compact_commits/compactcommits/TicketsLayoutHoldsStartsPinLaw"), (0, .long 5902958103600), (1, .long 64), (1, .methodref 7 14), (0, .nameAndType 15 16), (0, u "pickRow"), (0, u "(JI)J"), (0, .methodref 18 19), (0, .class_ 20), (0, .nameAndType 21 22), (0, u "com/example/compact_commits/compactcommits/TicketsLayout"), (0, u "holdsStarts"), (0, u "(J)Z"), (0, .long 16), (1, .long 25000000), (1, .methodref 18 28), (0, .nameAndType 29 30), (0, u "row"), (0, u "(J)J"), (0, u "LIMIT"), (0, u "J"), (4, u "law"), (0, u "(JI)Z")] 2

def k1m0 : Method := { name := "<init>", desc := "()V", sig := { parameters := [], returnType := none }, accessFlags := 1, code := none }
def k1c1 : Code := { maxStack := 6, maxLocals := 6, code := method_2_code, exceptionTable := #[], attributes := #[] }
def k1m1 : Method := { name := "pickRow", desc := "(JI)J", sig := { parameters := [.long, .int], returnType := some .long }, accessFlags := 10, code := some k1c1 }
def k1c2 : Code := { maxStack := 6, maxLocals := 9, code := code, exceptionTable := #[], attributes := #[] }
def k1m2 : Method := { name := "law", desc := "(JI)Z", sig := { parameters := [.long, .int], returnType := some .boolean }, accessFlags := 9, code := some k1c2 }
/-- com/example/compact_commits/compactcommits/TicketsLayoutHoldsStartsPinLaw -/
def k1 : Class := { plain "com/example/compact_commits/compactcommits/TicketsLayoutHoldsStartsPinLaw" (some 0) with
  accessFlags := 49
  interfaces := #[]
  cf := some (fileOf pool1 7 #[] #[{ accessFlags := 1, nameIndex := 5, descriptorIndex := 6, attributes := #[] }, { accessFlags := 10, nameIndex := 15, descriptorIndex := 16, attributes := #[] }, { accessFlags := 9, nameIndex := 37, descriptorIndex := 38, attributes := #[] }] 49 2 #[] #[{ accessFlags := 26, nameIndex := 31, descriptorIndex := 32, attributes := #[] }])
  fields := #[{ name := "LIMIT", type := .long, accessFlags := 26, slot := 0, constantValue := 0 }]
  methods := #[k1m0, k1m1, k1m2]
  instanceTypes := #[]
  staticTypes := #[.long]
  resolved := Array.replicate 41 none
  statics := none }

def pool2 : Array CpInfo := pool [(1, .class_ 2), (0, u "com/example/compact_commits/compactcommits/TicketsLayout"), (3, .class_ 8), (1, u "java/lang/Object"), (0, u "<init>"), (0, u "()V"), (2, u "row"), (0, u "(J)J"), (16, .long 25000000), (1, .long 16), (35, .long 368934881474), (101, u "PARTITION_SIZE"), (0, u "J"), (1, u "ROWS_PER_PARTITION"), (0, u "COLUMNS_PER_ROW"), (0, u "PREFIX_BYTES"), (0, u "I"), (9, u "holdsStarts"), (0, u "(J)Z")] 31

def k2m0 : Method := { name := "<init>", desc := "()V", sig := { parameters := [], returnType := none }, accessFlags := 2, code := none }
def k2c1 : Code := { maxStack := 6, maxLocals := 2, code := prog_50_method_4_code, exceptionTable := #[], attributes := #[] }
def k2m1 : Method := { name := "row", desc := "(J)J", sig := { parameters := [.long], returnType := some .long }, accessFlags := 8, code := some k2c1 }
def k2c2 : Code := { maxStack := 4, maxLocals := 2, code := prog_50_method_9_code, exceptionTable := #[], attributes := #[] }
def k2m2 : Method := { name := "holdsStarts", desc := "(J)Z", sig := { parameters := [.long], returnType := some .boolean }, accessFlags := 8, code := some k2c2 }
/-- com/example/compact_commits/compactcommits/TicketsLayout -/
def k2 : Class := { plain "com/example/compact_commits/compactcommits/TicketsLayout" (some 0) with
  accessFlags := 32
  interfaces := #[]
  cf := some (fileOf pool2 1 #[] #[{ accessFlags := 2, nameIndex := 9, descriptorIndex := 10, attributes := #[] }, { accessFlags := 8, nameIndex := 13, descriptorIndex := 14, attributes := #[] }, { accessFlags := 8, nameIndex := 187, descriptorIndex := 188, attributes := #[] }] 32 6 #[] #[{ accessFlags := 24, nameIndex := 171, descriptorIndex := 172, attributes := #[] }, { accessFlags := 24, nameIndex := 174, descriptorIndex := 172, attributes := #[] }, { accessFlags := 24, nameIndex := 175, descriptorIndex := 172, attributes := #[] }, { accessFlags := 24, nameIndex := 176, descriptorIndex := 177, attributes := #[] }])
  fields := #[{ name := "PARTITION_SIZE", type := .long, accessFlags := 24, slot := 0, constantValue := 0 }, { name := "ROWS_PER_PARTITION", type := .long, accessFlags := 24, slot := 1, constantValue := 0 }, { name := "COLUMNS_PER_ROW", type := .long, accessFlags := 24, slot := 2, constantValue := 0 }, { name := "PREFIX_BYTES", type := .int, accessFlags := 24, slot := 3, constantValue := 0 }]
  methods := #[k2m0, k2m1, k2m2]
  instanceTypes := #[]
  staticTypes := #[.long, .long, .long, .int]
  resolved := Array.replicate 220 none
  statics := none }

def pool3 : Array CpInfo := pool [(1, u "java/lang/Cloneable"), (0, .class_ 1), (0, u "java/lang/Object"), (0, .class_ 3)] 3

/-- java/lang/Cloneable -/
def k3 : Class := { plain "java/lang/Cloneable" (some 0) with
  accessFlags := 1537
  interfaces := #[]
  cf := some (fileOf pool3 2 #[] #[] 1537 4 #[] #[])
  fields := #[]
  methods := #[]
  instanceTypes := #[]
  staticTypes := #[]
  resolved := Array.replicate 8 none
  statics := none }

def pool4 : Array CpInfo := pool [(1, u "java/io/Serializable"), (0, .class_ 1), (0, u "java/lang/Object"), (0, .class_ 3)] 3

/-- java/io/Serializable -/
def k4 : Class := { plain "java/io/Serializable" (some 0) with
  accessFlags := 1537
  interfaces := #[]
  cf := some (fileOf pool4 2 #[] #[] 1537 4 #[] #[])
  fields := #[]
  methods := #[]
  instanceTypes := #[]
  staticTypes := #[]
  resolved := Array.replicate 8 none
  statics := none }

/-- the primitive byte -/
def k5 : Class := { plain "byte" none with kind := .primitive 'B', accessFlags := 0x411 }
/-- [B -/
def k6 : Class := { plain "[B" (some 0) with kind := .array 5 .byte, interfaces := #[3, 4], accessFlags := 1041 }

/-- the primitive int -/
def k7 : Class := { plain "int" none with kind := .primitive 'I', accessFlags := 0x411 }
/-- [I -/
def k8 : Class := { plain "[I" (some 0) with kind := .array 7 .int, interfaces := #[3, 4], accessFlags := 1041 }

def heap : Heap := #[]
def classes : Array Class := #[k0, k1, k2, k3, k4, k5, k6, k7, k8]
def interned : List (Array UInt16 × Addr) := []
def slotsUsed : Nat := 0
def theMethod : MethodId := ⟨1, 2⟩
def args0 : Array Value := #[.long 5, .int 0]
def aboutOver (below : List Frame) : State where
  vm := { classes := classes, interned := interned.toArray }
  heap := heap
  slotsUsed := slotsUsed
  threads := #[{ frames := .invoking theMethod args0 :: below }]
def below0 : List Frame := [.native { method := ⟨0, 0⟩, args := #[] }]
def about1 : State := aboutOver below0
def p0 : Program := .bare "" "" ""
def e0 : Env := launch0.env 0 0 0
theorem w_frames : about1.frames = Frame.invoking theMethod args0 :: below0 := rfl
set_option maxRecDepth 65536 in
theorem w_args : argsFit about1.vm theMethod args0 = true := by decide +kernel
set_option maxRecDepth 65536 in
theorem w_heap : heapFits about1 = true := by decide +kernel
set_option maxRecDepth 65536 in
theorem w_runnable : about1.curStatus? = some .runnable := by decide +kernel
set_option maxRecDepth 65536 in
theorem w_alone : about1.alone = true := by decide +kernel
set_option maxRecDepth 65536 in
theorem w_named : about1.methodNamed? x = some theMethod := by decide +kernel
set_option maxRecDepth 65536 in
theorem w_hears : about1.hears theMethod below0 = true := by decide +kernel
set_option maxRecDepth 65536 in
theorem w_ripe : about1.ripe theMethod args0 below0 = true := by decide +kernel
theorem w_running : about1.status = .running := rfl
set_option maxRecDepth 65536 in
theorem w_room : about1.hasRoom e0.platform room_1 = true :=
  launch0.hasRoom_least _ room_1 (by decide +kernel) (by decide +kernel) (by decide +kernel) (by decide +kernel) (by decide +kernel) (by decide +kernel)
theorem allAtoms_all (ts : List Jvm.Cond) (a : Array Jvm.Value) (st : Jvm.State) : (allAtoms ts).before a st = ts.all (fun c => c.before a st) := by
  induction ts with
  | nil => rfl
  | cons c t ih =>
    show (Jvm.Cond.and c (allAtoms t)).before a st = _
    rw [Jvm.Cond.before_and, ih, List.all_cons]
def words1 : List Jvm.Cond := Jvm.Cond.code x code maxLocals ret :: tables_1
/-- a 'code' word, met by the world's own term for the bytes: nothing is compared byte by byte -/
theorem code_word {y : MethodName} {bytes : ByteArray} {mx : Nat} {rt : Option FieldType} {a : Array Value} {s : State} {m : MethodId} {meth : Method} {c : Code} (h1 : s.methodNamed? y = some m) (h2 : s.vm.method? m = some meth) (h3 : meth.code = some c) (h4 : c.code = bytes)
    (h5 : (c.maxLocals == mx && c.exceptionTable.isEmpty && decide (c.maxStack ≤ mostOperands) && decide (meth.sig.returnType = rt) && !meth.locks && decide (parseMethodDescriptor y.desc = some meth.sig)) = true) : (Jvm.Cond.code y bytes mx rt).before a s = true := by
  simp only [Bool.and_eq_true, beq_iff_eq, Bool.not_eq_true', decide_eq_true_eq] at h5
  obtain ⟨⟨⟨⟨⟨g1, g2⟩, g3⟩, g4⟩, g5⟩, g6⟩ := h5
  simp [Cond.before, Cond.holds, Cond.value, h1, h2, h3, h4, g1, g2, g3, g4, g5, g6]
def isCode : Jvm.Cond → Bool
  | .code _ _ _ _ => true
  | _ => false
theorem all_split {L : List Jvm.Cond} {P : Jvm.Cond → Bool} (h1 : L.all (fun c => isCode c || P c) = true) (h2 : ∀ c ∈ L.filter isCode, P c = true) : L.all P = true := by
  refine List.all_eq_true.mpr fun c hc => ?_
  have h := List.all_eq_true.mp h1 c hc
  rcases Bool.eq_false_or_eq_true (isCode c) with hi | hi
  · exact h2 c (List.mem_filter.mpr ⟨hc, hi⟩)
  · simpa [hi] using h
set_option maxRecDepth 65536 in
theorem w_c0 : (Jvm.Cond.code x code maxLocals ret).before args0 about1 = true := code_word (m := ⟨1, 2⟩) (meth := k1m2) (c := k1c2) (by decide +kernel) rfl rfl rfl (by decide +kernel)
set_option maxRecDepth 65536 in
theorem w_c1 : (Jvm.Cond.code ({ cls := "com/example/compact_commits/compactcommits/TicketsLayoutHoldsStartsPinLaw", name := "pickRow", desc := "(JI)J" } : Jvm.MethodName) method_2_code (6 : Nat) (Option.some Jvm.ClassFile.FieldType.long)).before args0 about1 = true := code_word (m := ⟨1, 1⟩) (meth := k1m1) (c := k1c1) (by decide +kernel) rfl rfl rfl (by decide +kernel)
set_option maxRecDepth 65536 in
theorem w_c2 : (Jvm.Cond.code ({ cls := "com/example/compact_commits/compactcommits/TicketsLayout", name := "holdsStarts", desc := "(J)Z" } : Jvm.MethodName) prog_50_method_9_code (2 : Nat) (Option.some Jvm.ClassFile.FieldType.boolean)).before args0 about1 = true := code_word (m := ⟨2, 2⟩) (meth := k2m2) (c := k2c2) (by decide +kernel) rfl rfl rfl (by decide +kernel)
set_option maxRecDepth 65536 in
theorem w_c3 : (Jvm.Cond.code ({ cls := "com/example/compact_commits/compactcommits/TicketsLayout", name := "row", desc := "(J)J" } : Jvm.MethodName) prog_50_method_4_code (2 : Nat) (Option.some Jvm.ClassFile.FieldType.long)).before args0 about1 = true := code_word (m := ⟨2, 1⟩) (meth := k2m1) (c := k2c1) (by decide +kernel) rfl rfl rfl (by decide +kernel)
def codes1 : List Jvm.Cond := [Jvm.Cond.code x code maxLocals ret, Jvm.Cond.code ({ cls := "com/example/compact_commits/compactcommits/TicketsLayoutHoldsStartsPinLaw", name := "pickRow", desc := "(JI)J" } : Jvm.MethodName) method_2_code (6 : Nat) (Option.some Jvm.ClassFile.FieldType.long), Jvm.Cond.code ({ cls := "com/example/compact_commits/compactcommits/TicketsLayout", name := "holdsStarts", desc := "(J)Z" } : Jvm.MethodName) prog_50_method_9_code (2 : Nat) (Option.some Jvm.ClassFile.FieldType.boolean), Jvm.Cond.code ({ cls := "com/example/compact_commits/compactcommits/TicketsLayout", name := "row", desc := "(J)J" } : Jvm.MethodName) prog_50_method_4_code (2 : Nat) (Option.some Jvm.ClassFile.FieldType.long)]
set_option maxRecDepth 65536 in
theorem codes_eq : words1.filter isCode = codes1 := rfl
theorem w_codes : ∀ c ∈ words1.filter isCode, c.before args0 about1 = true := by
  rw [codes_eq]
  intro c hc
  simp only [codes1, List.mem_cons, List.not_mem_nil, or_false] at hc
  rcases hc with rfl | rfl | rfl | rfl
  · exact w_c0
  · exact w_c1
  · exact w_c2
  · exact w_c3
set_option maxRecDepth 65536 in
theorem w_t1 : words1.all (fun c => isCode c || c.before args0 about1) = true := by decide +kernel
theorem w_tables : (allAtoms (Jvm.Cond.code x code maxLocals ret :: tables_1)).before args0 about1 = true := by
  rw [allAtoms_all]
  show words1.all (fun c => c.before args0 about1) = true
  refine all_split ?_ w_codes
  rw [w_t1]
set_option maxRecDepth 65536 in
theorem w_case : (Jvm.Cond.and given_1 narrow_1).before args0 about1 = true := by decide +kernel
theorem w_applies : (headSpec (Jvm.Cond.code x code maxLocals ret :: tables_1) room_1).applies x e0.platform about1 = true :=
  (Spec.applies_iff w_frames).mpr ⟨w_running, w_runnable, w_alone, w_named, w_hears, w_ripe, w_room, w_tables⟩
theorem atStart : AtStart classFile x code maxLocals ret World_1 tables_1 room_1 Calls_1 rest_1 Pre_1 launch0 p0 e0 about1 theMethod args0 below0 :=
  ⟨lists_1, trivial, launch0.admits_env _ _ _, launch0.least_env, fairChoices_fair.cas, fairChoices_fair.clock, w_frames, w_args, w_heap, w_applies, trivial, trivial, w_case⟩
end start1
theorem witness_1 : WitnessClaimed_1 := ⟨start1.p0, start1.e0, start1.about1, start1.theMethod, start1.args0, start1.below0, start1.atStart⟩
end Jvm.Pilot.@@N@@
