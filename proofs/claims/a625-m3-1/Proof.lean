import JvmDerived
import JvmDerived.Pilot.@@N@@Statement
import JvmDerived.Pilot.@@N@@Code
set_option linter.unusedVariables false
set_option linter.unusedSimpArgs false
namespace Jvm.Pilot.@@N@@
open Jvm Jvm.ClassFile Sem Op Lib Jvm.Free Jvm.Stand Jvm.LawKit Jvm.RoadKit Bundle Jvm.Pilot.@@N@@.Jvm.D
section Own
variable {p : Program} {l : Launch} {e : Env} {R : Room} {s : State} {m : MethodId} {args : Array Value} {below : List Frame} {meth : Method} {c : Code} {T T' : State} {locs : List Loc} {cells slots : Nat} {Φ : State → Outcome → Prop} {g g' : JFrame}
/-- from (T, g) the run comes to an end that Φ takes -/
def Go (p : Program) (e : Env) (below : List Frame) (Φ : State → Outcome → Prop) (T : State) (g : JFrame) : Prop := ∃ t o, Steps p.tables e below (T.setTop g) t ∧ Φ t o
theorem Go.of (h : ∀ t, Steps p.tables e below (T'.setTop g') t → Steps p.tables e below (T.setTop g) t) (k : Go p e below Φ T' g') : Go p e below Φ T g := by
  obtain ⟨t, o, h1, h2⟩ := k
  exact ⟨t, o, h t h1, h2⟩
theorem Go.tr (h : Steps p.tables e below (T.setTop g) (T'.setTop g')) (k : Go p e below Φ T' g') : Go p e below Φ T g := by
  obtain ⟨t, o, h1, h2⟩ := k
  exact ⟨t, o, h.trans h1, h2⟩
/-- what a body owes at its end -/
def EndQ (s : State) (below : List Frame) (Q : Option Value → Heap → List Loc → Prop) (C S : Nat) (t : State) (o : Outcome) : Prop := t.status = .running ∧ Ended t below o ∧ ∃ v L, o = .returned v ∧ Q v t.heap L ∧ FrameEnd s o t L C S
theorem Go.ret (X : Stand p l e R s m args below meth c T locs cells slots) (hx : p.tables.exec = Jvm.exec) (hlocks : meth.locks = false) {pc : Nat} {Ls : Array Slot} {w : Value} {t : FieldType} {i : Instr} {rest : List Value} (hret : meth.sig.returnType = some t) (hn : narrow t w = w)
    (hi : (i = .ireturn ∧ (t = .int ∨ t = .boolean ∨ t = .byte ∨ t = .char ∨ t = .short) ∧ ∃ z, w = .int z) ∨ (i = .lreturn ∧ t = .long ∧ ∃ z, w = .long z) ∨ (i = .dreturn ∧ t = .double ∧ ∃ z, w = .double z) ∨ (i = .freturn ∧ t = .float ∧ ∃ z, w = .float z) ∨ (i = .areturn ∧ t.isReference = true ∧ w.isRef = true))
    (hd : decode c.code pc = .ok (i, 1)) {Q : Option Value → Heap → List Loc → Prop} {C S : Nat} (hC : cells ≤ C) (hS : slots ≤ S) (hQ : Q (some w) T.heap locs) : Go p e below (EndQ s below Q C S) T (mkF m pc Ls (w :: rest)) := by
  obtain ⟨fs, hr, hrun, hended, hW, hsame⟩ := X.leave (v := some w) (fun h => by rw [hret] at h; cases h) hlocks
  exact ⟨_, _, retOut X hx hret hn hi hd hr, hrun, hended, _, _, rfl, hQ, ⟨_, rfl⟩, hW, hsame.mono hC hS⟩
theorem Go.retV (X : Stand p l e R s m args below meth c T locs cells slots) (hx : p.tables.exec = Jvm.exec) (hlocks : meth.locks = false) {pc : Nat} {Ls : Array Slot} (hret : meth.sig.returnType = none)
    (hd : decode c.code pc = .ok (.return_, 1)) {Q : Option Value → Heap → List Loc → Prop} {C S : Nat} (hC : cells ≤ C) (hS : slots ≤ S) (hQ : Q none T.heap locs) : Go p e below (EndQ s below Q C S) T (mkF m pc Ls []) := by
  obtain ⟨fs, hr, hrun, hended, hW, hsame⟩ := X.leave (v := none) (fun _ => rfl) hlocks
  exact ⟨_, _, X.returnOut hx hret hd hr, hrun, hended, _, _, rfl, hQ, ⟨_, rfl⟩, hW, hsame.mono hC hS⟩
def own_ushr (x y : Int32) : Int32 := (x.toUInt32 >>> (y &&& 31).toUInt32).toInt32
def own_ushrL (x : Int64) (y : Int32) : Int64 := (x.toUInt64 >>> (y &&& 0x3f).toInt64.toUInt64).toInt64
theorem own_one {v : Int32} (h : v = 1) : narrow .boolean (.int v) = .int v := by rw [h]; rfl
theorem own_at_ {h : Heap} {a : Addr} {cl : Cell} (e : T.heap = h) (q : h[a]? = some cl) : T.heap[a]? = some cl := by rw [e]; exact q
theorem own_w1 {v : Value} (h : v.isRef = true) : 2 * 0 + ([v].map fun v => v.category).sum ≤ 1 := by simp [XT.cat1 h]
theorem own_nar_ref {t : FieldType} {v : Value} (h : v.isRef = true) (ht : t.isReference = true := by rfl) : narrow t v = v := by cases v <;> simp [Value.isRef] at h <;> cases t <;> first | rfl | cases ht
theorem own_fits_ref {t : FieldType} {v : Value} (h : v.isRef = true) (ht : t.isReference = true := by rfl) : fits t v = true := by cases v <;> simp [Value.isRef] at h <;> cases t <;> first | rfl | cases ht
end Own
theorem own_d1_0 : decode method_3_code 0 = .ok (.bipush 8, 2) := by decide +kernel
theorem own_d1_2 : decode method_3_code 2 = .ok (.iload_n 1, 1) := by decide +kernel
theorem own_d1_3 : decode method_3_code 3 = .ok (.iadd, 1) := by decide +kernel
theorem own_d1_4 : decode method_3_code 4 = .ok (.aload_n 0, 1) := by decide +kernel
theorem own_d1_5 : decode method_3_code 5 = .ok (.arraylength, 1) := by decide +kernel
theorem own_d1_6 : decode method_3_code 6 = .ok (.if_icmp .ge 14, 3) := by decide +kernel
theorem own_d1_9 : decode method_3_code 9 = .ok (.aload_n 0, 1) := by decide +kernel
theorem own_d1_10 : decode method_3_code 10 = .ok (.bipush 8, 2) := by decide +kernel
theorem own_d1_12 : decode method_3_code 12 = .ok (.iload_n 1, 1) := by decide +kernel
theorem own_d1_13 : decode method_3_code 13 = .ok (.iadd, 1) := by decide +kernel
theorem own_d1_14 : decode method_3_code 14 = .ok (.lload_n 2, 1) := by decide +kernel
theorem own_d1_15 : decode method_3_code 15 = .ok (.iload_n 1, 1) := by decide +kernel
theorem own_d1_16 : decode method_3_code 16 = .ok (.invokestatic 7, 3) := by decide +kernel
theorem own_d1_19 : decode method_3_code 19 = .ok (.bastore, 1) := by decide +kernel
theorem own_d1_20 : decode method_3_code 20 = .ok (.return_, 1) := by decide +kernel
theorem own_d2_0 : decode prog_34_method_25_code 0 = .ok (.aload_n 0, 1) := by decide +kernel
theorem own_d2_1 : decode prog_34_method_25_code 1 = .ok (.getstatic 94, 3) := by decide +kernel
theorem own_d2_4 : decode prog_34_method_25_code 4 = .ok (.arraylength, 1) := by decide +kernel
theorem own_d2_5 : decode prog_34_method_25_code 5 = .ok (.iconst 1, 1) := by decide +kernel
theorem own_d2_6 : decode prog_34_method_25_code 6 = .ok (.iadd, 1) := by decide +kernel
theorem own_d2_7 : decode prog_34_method_25_code 7 = .ok (.aload_n 0, 1) := by decide +kernel
theorem own_d2_8 : decode prog_34_method_25_code 8 = .ok (.arraylength, 1) := by decide +kernel
theorem own_d2_9 : decode prog_34_method_25_code 9 = .ok (.invokestatic 90, 3) := by decide +kernel
theorem own_d2_12 : decode prog_34_method_25_code 12 = .ok (.areturn, 1) := by decide +kernel
theorem own_d3_0 : decode jdk_65_method_132_code 0 = .ok (.iload_n 1, 1) := by decide +kernel
theorem own_d3_1 : decode jdk_65_method_132_code 1 = .ok (.ifCond .ne 9, 3) := by decide +kernel
theorem own_d3_10 : decode jdk_65_method_132_code 10 = .ok (.aload_n 0, 1) := by decide +kernel
theorem own_d3_11 : decode jdk_65_method_132_code 11 = .ok (.iload_n 1, 1) := by decide +kernel
theorem own_d3_12 : decode jdk_65_method_132_code 12 = .ok (.iload_n 2, 1) := by decide +kernel
theorem own_d3_13 : decode jdk_65_method_132_code 13 = .ok (.invokestatic 339, 3) := by decide +kernel
theorem own_d3_16 : decode jdk_65_method_132_code 16 = .ok (.areturn, 1) := by decide +kernel
theorem own_d4_0 : decode jdk_65_method_133_code 0 = .ok (.iload_n 1, 1) := by decide +kernel
theorem own_d4_1 : decode jdk_65_method_133_code 1 = .ok (.iload_n 2, 1) := by decide +kernel
theorem own_d4_2 : decode jdk_65_method_133_code 2 = .ok (.invokestatic 343, 3) := by decide +kernel
theorem own_d4_5 : decode jdk_65_method_133_code 5 = .ok (.iload_n 2, 1) := by decide +kernel
theorem own_d4_6 : decode jdk_65_method_133_code 6 = .ok (.iload_n 1, 1) := by decide +kernel
theorem own_d4_7 : decode jdk_65_method_133_code 7 = .ok (.isub, 1) := by decide +kernel
theorem own_d4_8 : decode jdk_65_method_133_code 8 = .ok (.istore_n 3, 1) := by decide +kernel
theorem own_d4_9 : decode jdk_65_method_133_code 9 = .ok (.iload_n 3, 1) := by decide +kernel
theorem own_d4_10 : decode jdk_65_method_133_code 10 = .ok (.newarray .byte, 2) := by decide +kernel
theorem own_d4_12 : decode jdk_65_method_133_code 12 = .ok (.astore 4, 2) := by decide +kernel
theorem own_d4_14 : decode jdk_65_method_133_code 14 = .ok (.aload_n 0, 1) := by decide +kernel
theorem own_d4_15 : decode jdk_65_method_133_code 15 = .ok (.iload_n 1, 1) := by decide +kernel
theorem own_d4_16 : decode jdk_65_method_133_code 16 = .ok (.aload 4, 2) := by decide +kernel
theorem own_d4_18 : decode jdk_65_method_133_code 18 = .ok (.iconst 0, 1) := by decide +kernel
theorem own_d4_19 : decode jdk_65_method_133_code 19 = .ok (.aload_n 0, 1) := by decide +kernel
theorem own_d4_20 : decode jdk_65_method_133_code 20 = .ok (.arraylength, 1) := by decide +kernel
theorem own_d4_21 : decode jdk_65_method_133_code 21 = .ok (.iload_n 1, 1) := by decide +kernel
theorem own_d4_22 : decode jdk_65_method_133_code 22 = .ok (.isub, 1) := by decide +kernel
theorem own_d4_23 : decode jdk_65_method_133_code 23 = .ok (.iload_n 3, 1) := by decide +kernel
theorem own_d4_24 : decode jdk_65_method_133_code 24 = .ok (.invokestatic 304, 3) := by decide +kernel
theorem own_d4_27 : decode jdk_65_method_133_code 27 = .ok (.invokestatic 150, 3) := by decide +kernel
theorem own_d4_30 : decode jdk_65_method_133_code 30 = .ok (.aload 4, 2) := by decide +kernel
theorem own_d4_32 : decode jdk_65_method_133_code 32 = .ok (.areturn, 1) := by decide +kernel
theorem own_d5_0 : decode jdk_65_method_131_code 0 = .ok (.iload_n 1, 1) := by decide +kernel
theorem own_d5_1 : decode jdk_65_method_131_code 1 = .ok (.iload_n 0, 1) := by decide +kernel
theorem own_d5_2 : decode jdk_65_method_131_code 2 = .ok (.if_icmp .ge 35, 3) := by decide +kernel
theorem own_d5_37 : decode jdk_65_method_131_code 37 = .ok (.return_, 1) := by decide +kernel
theorem own_d6_0 : decode jdk_29_method_69_code 0 = .ok (.iload_n 0, 1) := by decide +kernel
theorem own_d6_1 : decode jdk_29_method_69_code 1 = .ok (.iload_n 1, 1) := by decide +kernel
theorem own_d6_2 : decode jdk_29_method_69_code 2 = .ok (.if_icmp .gt 7, 3) := by decide +kernel
theorem own_d6_5 : decode jdk_29_method_69_code 5 = .ok (.iload_n 0, 1) := by decide +kernel
theorem own_d6_6 : decode jdk_29_method_69_code 6 = .ok (.goto 4, 3) := by decide +kernel
theorem own_d6_9 : decode jdk_29_method_69_code 9 = .ok (.iload_n 1, 1) := by decide +kernel
theorem own_d6_10 : decode jdk_29_method_69_code 10 = .ok (.ireturn, 1) := by decide +kernel
theorem own_d7_0 : decode method_4_code 0 = .ok (.iload_n 1, 1) := by decide +kernel
theorem own_d7_1 : decode method_4_code 1 = .ok (.iload_n 2, 1) := by decide +kernel
theorem own_d7_2 : decode method_4_code 2 = .ok (.if_icmp .ge 20, 3) := by decide +kernel
theorem own_d7_5 : decode method_4_code 5 = .ok (.iload_n 1, 1) := by decide +kernel
theorem own_d7_6 : decode method_4_code 6 = .ok (.aload_n 0, 1) := by decide +kernel
theorem own_d7_7 : decode method_4_code 7 = .ok (.arraylength, 1) := by decide +kernel
theorem own_d7_8 : decode method_4_code 8 = .ok (.if_icmp .ge 18, 3) := by decide +kernel
theorem own_d7_11 : decode method_4_code 11 = .ok (.aload_n 0, 1) := by decide +kernel
theorem own_d7_12 : decode method_4_code 12 = .ok (.iload_n 1, 1) := by decide +kernel
theorem own_d7_13 : decode method_4_code 13 = .ok (.baload, 1) := by decide +kernel
theorem own_d7_14 : decode method_4_code 14 = .ok (.lload_n 3, 1) := by decide +kernel
theorem own_d7_15 : decode method_4_code 15 = .ok (.iload_n 1, 1) := by decide +kernel
theorem own_d7_16 : decode method_4_code 16 = .ok (.invokestatic 7, 3) := by decide +kernel
theorem own_d7_19 : decode method_4_code 19 = .ok (.if_icmp .ne 7, 3) := by decide +kernel
theorem own_d7_22 : decode method_4_code 22 = .ok (.iconst 1, 1) := by decide +kernel
theorem own_d7_23 : decode method_4_code 23 = .ok (.goto 4, 3) := by decide +kernel
theorem own_d7_27 : decode method_4_code 27 = .ok (.ireturn, 1) := by decide +kernel
theorem own_d8_0 : decode method_2_code 0 = .ok (.lload_n 0, 1) := by decide +kernel
theorem own_d8_1 : decode method_2_code 1 = .ok (.bipush 8, 2) := by decide +kernel
theorem own_d8_3 : decode method_2_code 3 = .ok (.iload_n 2, 1) := by decide +kernel
theorem own_d8_4 : decode method_2_code 4 = .ok (.imul, 1) := by decide +kernel
theorem own_d8_5 : decode method_2_code 5 = .ok (.lushr, 1) := by decide +kernel
theorem own_d8_6 : decode method_2_code 6 = .ok (.l2i, 1) := by decide +kernel
theorem own_d8_7 : decode method_2_code 7 = .ok (.i2b, 1) := by decide +kernel
theorem own_d8_8 : decode method_2_code 8 = .ok (.ireturn, 1) := by decide +kernel
theorem own_pn0 : plainName "com/example/dozynki/dozynki/StoreLayoutStagedDefinitionKeyPinLaw" = true := by first | (simp [plainName, overriddenIn]; done) | decide +kernel
theorem own_pn1 : plainName "java/util/Arrays" = true := by first | (simp [plainName, overriddenIn]; done) | decide +kernel
theorem own_pn2 : plainName "com/example/dozynki/dozynki/StoreLayout" = true := by first | (simp [plainName, overriddenIn]; done) | decide +kernel
theorem own_pd0 : parseMethodDescriptor "(JI)B" = some ⟨[.long, .int], some .byte⟩ := by decide +kernel
theorem own_pd1 : parseMethodDescriptor "(II)V" = some ⟨[.int, .int], none⟩ := by decide +kernel
theorem own_pd2 : parseMethodDescriptor "(II)I" = some ⟨[.int, .int], some .int⟩ := by decide +kernel
theorem own_pd3 : parseMethodDescriptor "([BII)[B" = some ⟨[(.array .byte), .int, .int], some (.array .byte)⟩ := by decide +kernel
theorem own_pd4 : parseMethodDescriptor "([BIJ)V" = some ⟨[(.array .byte), .int, .long], none⟩ := by decide +kernel
theorem own_pd5 : parseMethodDescriptor "([B)[B" = some ⟨[(.array .byte)], some (.array .byte)⟩ := by decide +kernel
theorem own_pd6 : parseMethodDescriptor "([BIIJ)Z" = some ⟨[(.array .byte), .int, .int, .long], some .boolean⟩ := by decide +kernel
def own_at (dd : Int64) (ii : Int32) : Int32 := (((own_ushrL dd ((8 : Int32) * ii)).toInt32).toInt8.toInt32)
theorem own_ef8 (m : MethodId) (dd : Int64) (ii : Int32) : entryFrame m #[(.long dd), (.int ii)] 3 = mkF m 0 #[.val (.long dd), .second, .val (.int ii)] [] := by first | (simp [entryFrame, mkF, argsToLocals, Value.category]; done) | rfl
def Q8 (Z : State) (dd : Int64) (ii : Int32) (h0 : Heap) (n0 : Nat) (vr : Option Value) (hr : Heap) (Lr : List Loc) : Prop := vr = some (.int (own_at dd ii)) ∧ Fr n0 Lr ∧ hr = h0
set_option maxRecDepth 65536 in
set_option maxHeartbeats 40000000 in
theorem rm8 (l : Launch) (Z : State) (a0 : Array Value) (hw : ∀ d ∈ tables_1, d.before a0 Z = true) (ws : List Jvm.Cond) (dd : Int64) (ii : Int32) (h0 : Heap) (n0 : Nat) (Z0 : n0 ≤ h0.size) :
    MetFree l (⟨"com/example/dozynki/dozynki/StoreLayoutStagedDefinitionKeyPinLaw", "at", "(JI)B"⟩ : MethodName) (head1 (Jvm.Cond.code (⟨"com/example/dozynki/dozynki/StoreLayoutStagedDefinitionKeyPinLaw", "at", "(JI)B"⟩ : MethodName) method_2_code 3 (some .byte) :: ws) ({ frames := 0, cells := 0, slots := 0, locals := 0 } : Room)) (fun aQ UQ => aQ = #[(.long dd), (.int ii)] ∧ Z.Warmed39 UQ.vm ∧ UQ.heap = h0) (fun _ _ _ _ _ => True) (fun _ UQ oQ VQ => ∃ vQ LQ, oQ = .returned vQ ∧ Q8 Z dd ii h0 n0 vQ VQ.heap LQ ∧ FrameEnd UQ oQ VQ LQ ({ frames := 0, cells := 0, slots := 0, locals := 0 } : Room).cells ({ frames := 0, cells := 0, slots := 0, locals := 0 } : Room).slots) := by
  refine MetFree.of_bodySF (plainFor_of_name own_pn0) hisR ?_
  intro p e s m args below meth c s₁ Bd hml0 hP hK
  obtain ⟨rfl, hZ, hh⟩ := hP
  have hx := Bd.exec
  have hby := Bd.bytes
  have hml : c.maxLocals = 3 := hml0
  have hown : s.vm.findClass "com/example/dozynki/dozynki/StoreLayoutStagedDefinitionKeyPinLaw" = some m.cls := findClass_of_methodNamed Bd.named
  have hnm := (name_of_methodNamed Bd.named Bd.method).1
  have X0 : Stand p l e ({ frames := 0, cells := 0, slots := 0, locals := 0 } : Room) s m #[(.long dd), (.int ii)] below meth c s₁ [] 0 0 := Stand.of_body Bd
  have e0 : s₁.heap = h0 := by rw [← hh, Bd.state]; rfl
  have N0 := Fr.nil n0
  show Go p e below (EndQ s below (Q8 Z dd ii h0 n0) ({ frames := 0, cells := 0, slots := 0, locals := 0 } : Room).cells ({ frames := 0, cells := 0, slots := 0, locals := 0 } : Room).slots) s₁ (entryFrame m #[(.long dd), (.int ii)] 3)
  obtain ⟨Φ, hΦ⟩ : ∃ Φ, Φ = EndQ s below (Q8 Z dd ii h0 n0) ({ frames := 0, cells := 0, slots := 0, locals := 0 } : Room).cells ({ frames := 0, cells := 0, slots := 0, locals := 0 } : Room).slots := ⟨_, rfl⟩
  rw [← hΦ, own_ef8]
  show Go p e below Φ s₁ (mkF m 0 #[.val (.long dd), .second, .val (.int ii)] [])
  refine Go.of (fun t k => XS.lloadN X0.here hx rfl (hb hby own_d8_0) rfl  k) ?_
  show Go p e below Φ s₁ (mkF m 1 #[.val (.long dd), .second, .val (.int ii)] [(.long dd)])
  refine Go.of (fun t k => XS.bipush X0.here hx rfl (hb hby own_d8_1) k) ?_
  show Go p e below Φ s₁ (mkF m 3 #[.val (.long dd), .second, .val (.int ii)] [(.int (8 : Int32)), (.long dd)])
  refine Go.of (fun t k => XS.iloadN X0.here hx rfl (hb hby own_d8_3) rfl  k) ?_
  show Go p e below Φ s₁ (mkF m 4 #[.val (.long dd), .second, .val (.int ii)] [(.int ii), (.int (8 : Int32)), (.long dd)])
  refine Go.of (fun t k => XS.imul X0.here hx rfl (hb hby own_d8_4) rfl k) ?_
  show Go p e below Φ s₁ (mkF m 5 #[.val (.long dd), .second, .val (.int ii)] [(.int ((8 : Int32) * ii)), (.long dd)])
  refine Go.of (fun t k => XS.lushr X0.here hx rfl (hb hby own_d8_5) rfl k) ?_
  show Go p e below Φ s₁ (mkF m 6 #[.val (.long dd), .second, .val (.int ii)] [(.long (own_ushrL dd ((8 : Int32) * ii)))])
  refine Go.of (fun t k => XS.l2i X0.here hx rfl (hb hby own_d8_6) rfl k) ?_
  show Go p e below Φ s₁ (mkF m 7 #[.val (.long dd), .second, .val (.int ii)] [(.int ((own_ushrL dd ((8 : Int32) * ii)).toInt32))])
  refine Go.of (fun t k => XS.i2b X0.here hx rfl (hb hby own_d8_7) rfl k) ?_
  show Go p e below Φ s₁ (mkF m 8 #[.val (.long dd), .second, .val (.int ii)] [(.int (((own_ushrL dd ((8 : Int32) * ii)).toInt32).toInt8.toInt32))])
  rw [hΦ]
  refine Go.ret X0 hx Bd.notSynchronized Bd.returns (XT.narrow_b _) (Or.inl ⟨rfl, Or.inr (Or.inr (Or.inl rfl)), _, rfl⟩) (hb hby own_d8_8) (by decide) (by decide) ?_
  rw [e0]
  exact ⟨by rw [own_at], N0, rfl⟩
theorem own_tn (y : Int32) : y.toNatClampNeg = y.toInt.toNat := rfl
section Arrs
variable {Z : State} {h : Heap} {a : Addr} {k : ClassId} {ty : FieldType} {n : Int32} {vs vs' : List Value} {d v : Value}
theorem own_cong (F : Arv Z h a k ty n vs d) (q : ∀ i, i < n.toNatClampNeg → vs'.getD i d = vs.getD i d) : Arv Z h a k ty n vs' d := by
  obtain ⟨cl, A, r1, r2, r3, H, G⟩ := F
  exact ⟨cl, A, r1, r2, r3, fun i hi => by rw [q i (r2 ▸ hi)]; exact H i hi, fun i hi => by rw [q i (r2 ▸ hi)]; exact G i hi⟩
theorem own_out {j : Nat} (F : Arv Z h a k ty n vs d) (q : n.toNatClampNeg ≤ j) : Arv Z h a k ty n (vs.set j v) d :=
  own_cong F fun i hi => by rw [List.getD_eq_getElem?_getD, List.getD_eq_getElem?_getD, List.getElem?_set_ne (by omega)]
end Arrs
theorem own_clamp_le {i m : Int32} (h0 : ¬ i < 0) (h : ¬ (i < m)) : m.toNatClampNeg ≤ i.toNatClampNeg := by
  have k0 : (0 : Int32).toInt = 0 := by decide
  rw [Int32.lt_iff_toInt_lt] at h0 h
  rw [own_tn, own_tn]; omega
theorem own_ef1 (m : MethodId) (oa : Addr) (ii : Int32) (dd : Int64) : entryFrame m #[(.ref oa), (.int ii), (.long dd)] 4 = mkF m 0 #[.val (.ref oa), .val (.int ii), .val (.long dd), .second] [] := by first | (simp [entryFrame, mkF, argsToLocals, Value.category]; done) | rfl
def Q1 (Z : State) (oa : Addr) (ii : Int32) (dd : Int64) (kc : ClassId) (nn : Int32) (vs : List Value) (h0 : Heap) (n0 : Nat) (vr : Option Value) (hr : Heap) (Lr : List Loc) : Prop := vr = none ∧ Fr n0 Lr ∧ Keep h0 hr [oa] ∧ Arv Z hr oa kc .byte nn (vs.set ((8 : Int32) + ii).toNatClampNeg (.int (nar .byte (own_at dd ii)))) (.int (0 : Int32))
set_option maxRecDepth 65536 in
set_option maxHeartbeats 40000000 in
theorem rm1 (l : Launch) (Z : State) (a0 : Array Value) (hw : ∀ d ∈ tables_1, d.before a0 Z = true) (ws : List Jvm.Cond) (oa : Addr) (ii : Int32) (dd : Int64) (kc : ClassId) (nn : Int32) (vs : List Value) (h0 : Heap) (n0 : Nat) (Z0 : n0 ≤ h0.size) (V_oa : Arv Z h0 oa kc .byte nn vs (.int (0 : Int32))) (g_oa : n0 ≤ oa) (hi : ¬ ((8 : Int32) + ii) < 0) (hl : ((8 : Int32) + ii).toNatClampNeg < vs.length) :
    MetFree l (⟨"com/example/dozynki/dozynki/StoreLayoutStagedDefinitionKeyPinLaw", "put", "([BIJ)V"⟩ : MethodName) (head1 (Jvm.Cond.code (⟨"com/example/dozynki/dozynki/StoreLayoutStagedDefinitionKeyPinLaw", "put", "([BIJ)V"⟩ : MethodName) method_3_code 4 none :: ws) ({ frames := 1, cells := 0, slots := 0, locals := 16 } : Room)) (fun aQ UQ => aQ = #[(.ref oa), (.int ii), (.long dd)] ∧ Z.Warmed39 UQ.vm ∧ UQ.heap = h0) (fun _ _ _ _ _ => True) (fun _ UQ oQ VQ => ∃ vQ LQ, oQ = .returned vQ ∧ Q1 Z oa ii dd kc nn vs h0 n0 vQ VQ.heap LQ ∧ FrameEnd UQ oQ VQ LQ ({ frames := 1, cells := 0, slots := 0, locals := 16 } : Room).cells ({ frames := 1, cells := 0, slots := 0, locals := 16 } : Room).slots) := by
  refine MetFree.of_bodySF (plainFor_of_name own_pn0) hisR ?_
  intro p e s m args below meth c s₁ Bd hml0 hP hK
  obtain ⟨rfl, hZ, hh⟩ := hP
  have hx := Bd.exec
  have hby := Bd.bytes
  have hml : c.maxLocals = 4 := hml0
  have hown : s.vm.findClass "com/example/dozynki/dozynki/StoreLayoutStagedDefinitionKeyPinLaw" = some m.cls := findClass_of_methodNamed Bd.named
  have hnm := (name_of_methodNamed Bd.named Bd.method).1
  have X0 : Stand p l e ({ frames := 1, cells := 0, slots := 0, locals := 16 } : Room) s m #[(.ref oa), (.int ii), (.long dd)] below meth c s₁ [] 0 0 := Stand.of_body Bd
  have e0 : s₁.heap = h0 := by rw [← hh, Bd.state]; rfl
  have N0 := Fr.nil n0
  show Go p e below (EndQ s below (Q1 Z oa ii dd kc nn vs h0 n0) ({ frames := 1, cells := 0, slots := 0, locals := 16 } : Room).cells ({ frames := 1, cells := 0, slots := 0, locals := 16 } : Room).slots) s₁ (entryFrame m #[(.ref oa), (.int ii), (.long dd)] 4)
  obtain ⟨Φ, hΦ⟩ : ∃ Φ, Φ = EndQ s below (Q1 Z oa ii dd kc nn vs h0 n0) ({ frames := 1, cells := 0, slots := 0, locals := 16 } : Room).cells ({ frames := 1, cells := 0, slots := 0, locals := 16 } : Room).slots := ⟨_, rfl⟩
  rw [← hΦ, own_ef1]
  show Go p e below Φ s₁ (mkF m 0 #[.val (.ref oa), .val (.int ii), .val (.long dd), .second] [])
  refine Go.of (fun t k => XS.bipush X0.here hx rfl (hb hby own_d1_0) k) ?_
  show Go p e below Φ s₁ (mkF m 2 #[.val (.ref oa), .val (.int ii), .val (.long dd), .second] [(.int (8 : Int32))])
  refine Go.of (fun t k => XS.iloadN X0.here hx rfl (hb hby own_d1_2) rfl  k) ?_
  show Go p e below Φ s₁ (mkF m 3 #[.val (.ref oa), .val (.int ii), .val (.long dd), .second] [(.int ii), (.int (8 : Int32))])
  refine Go.of (fun t k => XS.iadd X0.here hx rfl (hb hby own_d1_3) rfl k) ?_
  show Go p e below Φ s₁ (mkF m 4 #[.val (.ref oa), .val (.int ii), .val (.long dd), .second] [(.int ((8 : Int32) + ii))])
  refine Go.of (fun t k => XS.aloadN X0.here hx rfl (hb hby own_d1_4) rfl rfl  k) ?_
  show Go p e below Φ s₁ (mkF m 5 #[.val (.ref oa), .val (.int ii), .val (.long dd), .second] [(.ref oa), (.int ((8 : Int32) + ii))])
  obtain ⟨cl5, Ar5, q5, S5, N5, H5, G5⟩ := id V_oa
  refine Go.of (fun t k => X0.arraylength hx (own_at_ e0 Ar5.1) (State.isArrayOf_alike hZ.alike Ar5.2.1) (g := (mkF m 5 #[.val (.ref oa), .val (.int ii), .val (.long dd), .second] [(.ref oa), (.int ((8 : Int32) + ii))])) rfl rfl (hb hby own_d1_5) t k) ?_
  rw [len_of S5 N5]
  show Go p e below Φ s₁ (mkF m 6 #[.val (.ref oa), .val (.int ii), .val (.long dd), .second] [(.int nn), (.int ((8 : Int32) + ii))])
  by_cases hc6 : ((8 : Int32) + ii) < nn
  · refine Go.of (fun t k => XS.icmpNo X0.here hx rfl (hb hby own_d1_6) rfl (XT.ii_ge_f hc6) k) ?_
    show Go p e below Φ s₁ (mkF m 9 #[.val (.ref oa), .val (.int ii), .val (.long dd), .second] [])
    refine Go.of (fun t k => XS.aloadN X0.here hx rfl (hb hby own_d1_9) rfl rfl  k) ?_
    show Go p e below Φ s₁ (mkF m 10 #[.val (.ref oa), .val (.int ii), .val (.long dd), .second] [(.ref oa)])
    refine Go.of (fun t k => XS.bipush X0.here hx rfl (hb hby own_d1_10) k) ?_
    show Go p e below Φ s₁ (mkF m 12 #[.val (.ref oa), .val (.int ii), .val (.long dd), .second] [(.int (8 : Int32)), (.ref oa)])
    refine Go.of (fun t k => XS.iloadN X0.here hx rfl (hb hby own_d1_12) rfl  k) ?_
    show Go p e below Φ s₁ (mkF m 13 #[.val (.ref oa), .val (.int ii), .val (.long dd), .second] [(.int ii), (.int (8 : Int32)), (.ref oa)])
    refine Go.of (fun t k => XS.iadd X0.here hx rfl (hb hby own_d1_13) rfl k) ?_
    show Go p e below Φ s₁ (mkF m 14 #[.val (.ref oa), .val (.int ii), .val (.long dd), .second] [(.int ((8 : Int32) + ii)), (.ref oa)])
    refine Go.of (fun t k => XS.lloadN X0.here hx rfl (hb hby own_d1_14) rfl  k) ?_
    show Go p e below Φ s₁ (mkF m 15 #[.val (.ref oa), .val (.int ii), .val (.long dd), .second] [(.long dd), (.int ((8 : Int32) + ii)), (.ref oa)])
    refine Go.of (fun t k => XS.iloadN X0.here hx rfl (hb hby own_d1_15) rfl  k) ?_
    show Go p e below Φ s₁ (mkF m 16 #[.val (.ref oa), .val (.int ii), .val (.long dd), .second] [(.int ii), (.long dd), (.int ((8 : Int32) + ii)), (.ref oa)])
    obtain ⟨_, _, ⟨T1, L1, k1, n1⟩, -, X1, ⟨Lc1, hQ1, l1, y1, z1⟩, st1⟩ := Jvm.LawKit.callS X0 hx (y := (⟨"com/example/dozynki/dozynki/StoreLayoutStagedDefinitionKeyPinLaw", "at", "(JI)B"⟩ : MethodName)) hown (mvT hZ (hw _ (List.mem_of_getElem? (i := 32) rfl))) (mvT hZ (hw _ (List.mem_of_getElem? (i := 33) rfl))) (mvT hZ (hw _ (List.mem_of_getElem? (i := 3) rfl))) (mvT hZ (hw _ (List.mem_of_getElem? (i := 34) rfl))) (by decide) (backOf (W := 2) (rm8 l Z a0 hw [] dd ii h0 n0 Z0) hZ (hw _ (List.mem_of_getElem? (i := 34) rfl)) (hw _ (List.mem_of_getElem? (i := 3) rfl)) (by decide) (by decide)) (g := (mkF m 16 #[.val (.ref oa), .val (.int ii), .val (.long dd), .second] [(.int ii), (.long dd), (.int ((8 : Int32) + ii)), (.ref oa)])) rfl (by rw [hml]; rfl) (argsL := [(.long dd), (.int ii)]) (rest := [(.int ((8 : Int32) + ii)), (.ref oa)]) (lenOf own_pd0 rfl) rfl (by show 2 * 0 + _ ≤ _; exact Nat.le_of_eq rfl) (hb hby own_d1_16) (fun _ _ => ⟨rfl, e0, (by decide : 0 + 0 ≤ _), (by decide : 0 + 0 ≤ _)⟩)
    dsimp only [Pt.U, Pt.locs, Pt.cells, Pt.slots] at X1 l1 y1 z1 st1 hQ1
    subst l1 y1 z1
    obtain ⟨rfl, N1q, e1q⟩ := hQ1
    have N1 := Fr.app N0 N1q
    obtain ⟨lc1, X1, N1⟩ : ∃ lc, Stand p l e ({ frames := 1, cells := 0, slots := 0, locals := 16 } : Room) s m #[(.ref oa), (.int ii), (.long dd)] below meth c T1 lc 0 0 ∧ Fr n0 lc := ⟨_, X1, N1⟩
    refine Go.of st1 ?_
    show Go p e below Φ T1 (mkF m 19 #[.val (.ref oa), .val (.int ii), .val (.long dd), .second] [(.int (own_at dd ii)), (.int ((8 : Int32) + ii)), (.ref oa)])
    obtain ⟨cl19, Ar19, q19, S19, N19, H19, G19⟩ := id V_oa
    have hin19 : ¬ (((8 : Int32) + ii) < 0 ∨ cl19.slots.size ≤ (((8 : Int32) + ii)).toNatClampNeg) := inb_of S19 ⟨hi, hc6⟩
    obtain ⟨T2, h2, X2, e2, W2, st2⟩ := stB X1 hx hZ (e1q) Ar19 (j := ((8 : Int32) + ii)) hin19 (g := (mkF m 19 #[.val (.ref oa), .val (.int ii), .val (.long dd), .second] [(.int (own_at dd ii)), (.int ((8 : Int32) + ii)), (.ref oa)])) rfl rfl (hb hby own_d1_19)
    have V_oa : Arv Z h2 oa kc .byte nn (vs.set ((8 : Int32) + ii).toNatClampNeg (.int (nar .byte (own_at dd ii)))) (.int (0 : Int32)) := Arv.set Ar19 q19 S19 N19 H19 G19 (fits_nar_byte _) W2 _ rfl hl
    have N2 := Fr.snoc X2 N1 g_oa
    have K2 : Keep h0 h2 [oa] := (Keep.refl h0 [oa]).wr W2 (Or.inl (List.mem_of_getElem? (i := 0) rfl))
    have Z2 := Nat.le_trans Z0 (Keep.of_wr W2).1
    obtain ⟨lc2, X2, N2⟩ : ∃ lc, Stand p l e ({ frames := 1, cells := 0, slots := 0, locals := 16 } : Room) s m #[(.ref oa), (.int ii), (.long dd)] below meth c T2 lc 0 0 ∧ Fr n0 lc := ⟨_, X2, N2⟩
    refine Go.of st2 ?_
    show Go p e below Φ T2 (mkF m 20 #[.val (.ref oa), .val (.int ii), .val (.long dd), .second] [])
    rw [hΦ]
    refine Go.retV X2 hx Bd.notSynchronized Bd.returns (hb hby own_d1_20) (by decide) (by decide) ?_
    rw [e2]
    exact ⟨rfl, N2, K2, V_oa⟩
  · refine Go.of (fun t k => XS.icmpYes X0.here hx rfl (pc0 := 6) (pc' := 20) rfl (hb hby own_d1_6) rfl (XT.ii_ge_t hc6) (by decide) (by decide) k) ?_
    show Go p e below Φ s₁ (mkF m 20 #[.val (.ref oa), .val (.int ii), .val (.long dd), .second] [])
    rw [hΦ]
    refine Go.retV X0 hx Bd.notSynchronized Bd.returns (hb hby own_d1_20) (by decide) (by decide) ?_
    rw [e0]
    exact ⟨rfl, N0, (Keep.refl h0 [oa]), own_out V_oa (own_clamp_le hi hc6)⟩
def own_min (xx : Int32) (yy : Int32) : Int32 := (if yy < xx then yy else xx)
theorem own_ef6 (m : MethodId) (xx : Int32) (yy : Int32) : entryFrame m #[(.int xx), (.int yy)] 2 = mkF m 0 #[.val (.int xx), .val (.int yy)] [] := by first | (simp [entryFrame, mkF, argsToLocals, Value.category]; done) | rfl
def Q6 (Z : State) (xx : Int32) (yy : Int32) (h0 : Heap) (n0 : Nat) (vr : Option Value) (hr : Heap) (Lr : List Loc) : Prop := vr = some (.int (own_min xx yy)) ∧ Fr n0 Lr ∧ hr = h0
set_option maxRecDepth 65536 in
set_option maxHeartbeats 40000000 in
theorem rm6 (l : Launch) (Z : State) (a0 : Array Value) (hw : ∀ d ∈ tables_1, d.before a0 Z = true) (ws : List Jvm.Cond) (xx : Int32) (yy : Int32) (h0 : Heap) (n0 : Nat) (Z0 : n0 ≤ h0.size) :
    MetFree l (⟨"java/lang/Math", "min", "(II)I"⟩ : MethodName) (head1 (Jvm.Cond.code (⟨"java/lang/Math", "min", "(II)I"⟩ : MethodName) jdk_29_method_69_code 2 (some .int) :: ws) ({ frames := 0, cells := 0, slots := 0, locals := 0 } : Room)) (fun aQ UQ => aQ = #[(.int xx), (.int yy)] ∧ Z.Warmed39 UQ.vm ∧ UQ.heap = h0) (fun _ _ _ _ _ => True) (fun _ UQ oQ VQ => ∃ vQ LQ, oQ = .returned vQ ∧ Q6 Z xx yy h0 n0 vQ VQ.heap LQ ∧ FrameEnd UQ oQ VQ LQ ({ frames := 0, cells := 0, slots := 0, locals := 0 } : Room).cells ({ frames := 0, cells := 0, slots := 0, locals := 0 } : Room).slots) := by
  refine MetFree.of_bodySF (Jvm.Free.JP.mathPlain rfl (by decide +kernel)) hisR ?_
  intro p e s m args below meth c s₁ Bd hml0 hP hK
  obtain ⟨rfl, hZ, hh⟩ := hP
  have hx := Bd.exec
  have hby := Bd.bytes
  have hml : c.maxLocals = 2 := hml0
  have hown : s.vm.findClass "java/lang/Math" = some m.cls := findClass_of_methodNamed Bd.named
  have hnm := (name_of_methodNamed Bd.named Bd.method).1
  have X0 : Stand p l e ({ frames := 0, cells := 0, slots := 0, locals := 0 } : Room) s m #[(.int xx), (.int yy)] below meth c s₁ [] 0 0 := Stand.of_body Bd
  have e0 : s₁.heap = h0 := by rw [← hh, Bd.state]; rfl
  have N0 := Fr.nil n0
  show Go p e below (EndQ s below (Q6 Z xx yy h0 n0) ({ frames := 0, cells := 0, slots := 0, locals := 0 } : Room).cells ({ frames := 0, cells := 0, slots := 0, locals := 0 } : Room).slots) s₁ (entryFrame m #[(.int xx), (.int yy)] 2)
  obtain ⟨Φ, hΦ⟩ : ∃ Φ, Φ = EndQ s below (Q6 Z xx yy h0 n0) ({ frames := 0, cells := 0, slots := 0, locals := 0 } : Room).cells ({ frames := 0, cells := 0, slots := 0, locals := 0 } : Room).slots := ⟨_, rfl⟩
  rw [← hΦ, own_ef6]
  show Go p e below Φ s₁ (mkF m 0 #[.val (.int xx), .val (.int yy)] [])
  refine Go.of (fun t k => XS.iloadN X0.here hx rfl (hb hby own_d6_0) rfl  k) ?_
  show Go p e below Φ s₁ (mkF m 1 #[.val (.int xx), .val (.int yy)] [(.int xx)])
  refine Go.of (fun t k => XS.iloadN X0.here hx rfl (hb hby own_d6_1) rfl  k) ?_
  show Go p e below Φ s₁ (mkF m 2 #[.val (.int xx), .val (.int yy)] [(.int yy), (.int xx)])
  by_cases hc2 : yy < xx
  · refine Go.of (fun t k => XS.icmpYes X0.here hx rfl (pc0 := 2) (pc' := 9) rfl (hb hby own_d6_2) rfl (XT.ii_gt_t hc2) (by decide) (by decide) k) ?_
    show Go p e below Φ s₁ (mkF m 9 #[.val (.int xx), .val (.int yy)] [])
    refine Go.of (fun t k => XS.iloadN X0.here hx rfl (hb hby own_d6_9) rfl  k) ?_
    show Go p e below Φ s₁ (mkF m 10 #[.val (.int xx), .val (.int yy)] [(.int yy)])
    rw [hΦ]
    refine Go.ret X0 hx Bd.notSynchronized Bd.returns rfl (Or.inl ⟨rfl, Or.inl rfl, _, rfl⟩) (hb hby own_d6_10) (by decide) (by decide) ?_
    rw [e0]
    exact ⟨by rw [own_min, if_pos hc2], N0, rfl⟩
  · refine Go.of (fun t k => XS.icmpNo X0.here hx rfl (hb hby own_d6_2) rfl (XT.ii_gt_f hc2) k) ?_
    show Go p e below Φ s₁ (mkF m 5 #[.val (.int xx), .val (.int yy)] [])
    refine Go.of (fun t k => XS.iloadN X0.here hx rfl (hb hby own_d6_5) rfl  k) ?_
    show Go p e below Φ s₁ (mkF m 6 #[.val (.int xx), .val (.int yy)] [(.int xx)])
    refine Go.of (fun t k => XS.goto X0.here hx rfl (pc0 := 6) (pc' := 10) rfl (hb hby own_d6_6) (by decide) (by decide) k) ?_
    show Go p e below Φ s₁ (mkF m 10 #[.val (.int xx), .val (.int yy)] [(.int xx)])
    rw [hΦ]
    refine Go.ret X0 hx Bd.notSynchronized Bd.returns rfl (Or.inl ⟨rfl, Or.inl rfl, _, rfl⟩) (hb hby own_d6_10) (by decide) (by decide) ?_
    rw [e0]
    exact ⟨by rw [own_min, if_neg hc2], N0, rfl⟩
theorem own_ef5 (m : MethodId) (tt : Int32) : entryFrame m #[(.int (8 : Int32)), (.int tt)] 2 = mkF m 0 #[.val (.int (8 : Int32)), .val (.int tt)] [] := by first | (simp [entryFrame, mkF, argsToLocals, Value.category]; done) | rfl
def Q5 (Z : State) (tt : Int32) (h0 : Heap) (n0 : Nat) (vr : Option Value) (hr : Heap) (Lr : List Loc) : Prop := vr = none ∧ Fr n0 Lr ∧ hr = h0
set_option maxRecDepth 65536 in
set_option maxHeartbeats 40000000 in
theorem rm5 (l : Launch) (Z : State) (a0 : Array Value) (hw : ∀ d ∈ tables_1, d.before a0 Z = true) (ws : List Jvm.Cond) (tt : Int32) (h0 : Heap) (n0 : Nat) (Z0 : n0 ≤ h0.size) (hge : ¬ (tt < (8 : Int32))) :
    MetFree l (⟨"java/util/Arrays", "checkLength", "(II)V"⟩ : MethodName) (head1 (Jvm.Cond.code (⟨"java/util/Arrays", "checkLength", "(II)V"⟩ : MethodName) jdk_65_method_131_code 2 none :: ws) ({ frames := 0, cells := 0, slots := 0, locals := 0 } : Room)) (fun aQ UQ => aQ = #[(.int (8 : Int32)), (.int tt)] ∧ Z.Warmed39 UQ.vm ∧ UQ.heap = h0) (fun _ _ _ _ _ => True) (fun _ UQ oQ VQ => ∃ vQ LQ, oQ = .returned vQ ∧ Q5 Z tt h0 n0 vQ VQ.heap LQ ∧ FrameEnd UQ oQ VQ LQ ({ frames := 0, cells := 0, slots := 0, locals := 0 } : Room).cells ({ frames := 0, cells := 0, slots := 0, locals := 0 } : Room).slots) := by
  refine MetFree.of_bodySF (plainFor_of_name own_pn1) hisR ?_
  intro p e s m args below meth c s₁ Bd hml0 hP hK
  obtain ⟨rfl, hZ, hh⟩ := hP
  have hx := Bd.exec
  have hby := Bd.bytes
  have hml : c.maxLocals = 2 := hml0
  have hown : s.vm.findClass "java/util/Arrays" = some m.cls := findClass_of_methodNamed Bd.named
  have hnm := (name_of_methodNamed Bd.named Bd.method).1
  have X0 : Stand p l e ({ frames := 0, cells := 0, slots := 0, locals := 0 } : Room) s m #[(.int (8 : Int32)), (.int tt)] below meth c s₁ [] 0 0 := Stand.of_body Bd
  have e0 : s₁.heap = h0 := by rw [← hh, Bd.state]; rfl
  have N0 := Fr.nil n0
  show Go p e below (EndQ s below (Q5 Z tt h0 n0) ({ frames := 0, cells := 0, slots := 0, locals := 0 } : Room).cells ({ frames := 0, cells := 0, slots := 0, locals := 0 } : Room).slots) s₁ (entryFrame m #[(.int (8 : Int32)), (.int tt)] 2)
  obtain ⟨Φ, hΦ⟩ : ∃ Φ, Φ = EndQ s below (Q5 Z tt h0 n0) ({ frames := 0, cells := 0, slots := 0, locals := 0 } : Room).cells ({ frames := 0, cells := 0, slots := 0, locals := 0 } : Room).slots := ⟨_, rfl⟩
  rw [← hΦ, own_ef5]
  show Go p e below Φ s₁ (mkF m 0 #[.val (.int (8 : Int32)), .val (.int tt)] [])
  refine Go.of (fun t k => XS.iloadN X0.here hx rfl (hb hby own_d5_0) rfl  k) ?_
  show Go p e below Φ s₁ (mkF m 1 #[.val (.int (8 : Int32)), .val (.int tt)] [(.int tt)])
  refine Go.of (fun t k => XS.iloadN X0.here hx rfl (hb hby own_d5_1) rfl  k) ?_
  show Go p e below Φ s₁ (mkF m 2 #[.val (.int (8 : Int32)), .val (.int tt)] [(.int (8 : Int32)), (.int tt)])
  refine Go.of (fun t k => XS.icmpYes X0.here hx rfl (pc0 := 2) (pc' := 37) rfl (hb hby own_d5_2) rfl (XT.ii_ge_t hge) (by decide) (by decide) k) ?_
  show Go p e below Φ s₁ (mkF m 37 #[.val (.int (8 : Int32)), .val (.int tt)] [])
  rw [hΦ]
  refine Go.retV X0 hx Bd.notSynchronized Bd.returns (hb hby own_d5_37) (by decide) (by decide) ?_
  rw [e0]
  exact ⟨rfl, N0, rfl⟩
def own_cp (vs : List Value) (mm : Int32) : List Value := (List.range mm.toNatClampNeg).map fun i => vs.getD (8 + i) (.int (0 : Int32))
theorem own_cpget (vs : List Value) (mm : Int32) (i : Nat) (hi : i < mm.toNatClampNeg) : (own_cp vs mm).getD i (.int (0 : Int32)) = vs.getD (8 + i) (.int (0 : Int32)) := by
  rw [own_cp, List.getD_eq_getElem?_getD, List.getElem?_map, List.getElem?_range hi]; rfl
theorem own_ltn {i mm : Int32} (h : i < mm) (h0 : ¬ i < 0) : i.toNatClampNeg < mm.toNatClampNeg := by
  have k0 : (0 : Int32).toInt = 0 := by decide
  rw [Int32.lt_iff_toInt_lt] at h0 h
  rw [own_tn, own_tn]; omega
section Len
variable {nn : Int32}
theorem own_sub (hge : ¬ (nn < (8 : Int32))) (hle : ¬ ((16 : Int32) < nn)) : (nn - (8 : Int32)).toInt = nn.toInt - 8 ∧ 8 ≤ nn.toInt ∧ nn.toInt ≤ 16 := by
  have k8 : (8 : Int32).toInt = 8 := by decide
  have k16 : (16 : Int32).toInt = 16 := by decide
  rw [Int32.lt_iff_toInt_lt] at hge hle
  have q := c_isub nn 8
  have r := rng32 (nn - 8)
  omega
theorem own_m0 (hge : ¬ (nn < (8 : Int32))) (hle : ¬ ((16 : Int32) < nn)) : ¬ (nn - (8 : Int32)) < 0 := by
  obtain ⟨q1, q2, q3⟩ := own_sub hge hle
  have k0 : (0 : Int32).toInt = 0 := by decide
  rw [Int32.lt_iff_toInt_lt]; omega
theorem own_m8 (hge : ¬ (nn < (8 : Int32))) (hle : ¬ ((16 : Int32) < nn)) : (nn - (8 : Int32)).toNatClampNeg ≤ 8 := by
  obtain ⟨q1, q2, q3⟩ := own_sub hge hle
  rw [own_tn]; omega
theorem own_m4 (hge : ¬ (nn < (8 : Int32))) (hle : ¬ ((16 : Int32) < nn)) : (8 : Int32).toNatClampNeg + (nn - (8 : Int32)).toNatClampNeg ≤ nn.toNatClampNeg := by
  obtain ⟨q1, q2, q3⟩ := own_sub hge hle
  have k8 : (8 : Int32).toNatClampNeg = 8 := by decide
  rw [k8, own_tn, own_tn]; omega
theorem own_m5 (hge : ¬ (nn < (8 : Int32))) (hle : ¬ ((16 : Int32) < nn)) : (0 : Int32).toNatClampNeg + (nn - (8 : Int32)).toNatClampNeg ≤ (nn - (8 : Int32)).toNatClampNeg := by
  have k0 : (0 : Int32).toNatClampNeg = 0 := by decide
  rw [k0]; omega
theorem own_m6 (hge : ¬ (nn < (8 : Int32))) (hle : ¬ ((16 : Int32) < nn)) : (0 : Int32).toNatClampNeg + (nn - (8 : Int32)).toNatClampNeg ≤ 8 := by
  have k0 : (0 : Int32).toNatClampNeg = 0 := by decide
  have := own_m8 hge hle
  rw [k0]; omega
end Len
theorem own_minS (y : Int32) : own_min y y = y := by rw [own_min]; split <;> rfl
theorem own_same (vs : List Value) (mm : Int32) (hm : mm.toNatClampNeg ≤ 8) : ∀ i, i < mm.toNatClampNeg → (own_cp vs mm).getD i (.int (0 : Int32)) = (List.take (0 : Int32).toNatClampNeg [Value.int (0 : Int32), .int (0 : Int32), .int (0 : Int32), .int (0 : Int32), .int (0 : Int32), .int (0 : Int32), .int (0 : Int32), .int (0 : Int32)] ++ (List.range mm.toNatClampNeg).map (fun i => vs.getD ((8 : Int32).toNatClampNeg + i) (.int (0 : Int32))) ++ List.drop ((0 : Int32).toNatClampNeg + mm.toNatClampNeg) [Value.int (0 : Int32), .int (0 : Int32), .int (0 : Int32), .int (0 : Int32), .int (0 : Int32), .int (0 : Int32), .int (0 : Int32), .int (0 : Int32)]).getD i (.int (0 : Int32)) := by
  intro i hi
  have k0 : (0 : Int32).toNatClampNeg = 0 := by decide
  have k8 : (8 : Int32).toNatClampNeg = 8 := by decide
  rw [k0, k8, List.take_zero, List.nil_append, own_cpget vs mm i hi, List.getD_eq_getElem?_getD, List.getD_eq_getElem?_getD, List.getElem?_append_left (by rw [List.length_map, List.length_range]; exact hi), List.getElem?_map, List.getElem?_range hi]
  show _ = (vs.getD (8 + i) (.int (0 : Int32)))
  rw [List.getD_eq_getElem?_getD]
theorem own_natb (dd : Int64) (ii : Int32) : nar .byte (own_at dd ii) = own_at dd ii := by
  rw [own_at]; exact Value.int.inj (XT.narrow_b _)
theorem own_len7 {t : Term} {args : Array Value} {s : State} {a : Addr} {cl : Cell} {ty : FieldType} (ev : t.eval args s none [] s = some (.ref a)) (A : Arr s s.heap a cl ty) (h : (Cond.eq (Term.length t) (Term.int (7 : Int32))).value args s none s [] = some true) : cl.slots.size = (7 : Int32).toNatClampNeg := by
  have q := Jvm.Free.NT.SwA.eq_int (Cond.before_iff.mpr h)
  obtain ⟨v, hv⟩ : ∃ v : Value, v = .int (7 : Int32) := ⟨_, rfl⟩
  rw [← hv] at q
  obtain ⟨b, cell, e1, e2, e3, e4⟩ := Jvm.Lib.length_spec q
  cases e1.symm.trans ev
  have e5 := A.fin (U := s) (State.Warmed39.refl s).alike
  cases e5.symm.trans e2
  have e6 := Value.int.inj (e4.symm.trans hv)
  have e7 := len_toInt e3
  rw [e6] at e7
  have k7 : (7 : Int32).toInt = 7 := by decide
  rw [k7] at e7
  rw [own_tn, k7]
  omega
theorem own_ef4 (m : MethodId) (oa : Addr) (nn : Int32) : entryFrame m #[(.ref oa), (.int (8 : Int32)), (.int nn)] 5 = mkF m 0 #[.val (.ref oa), .val (.int (8 : Int32)), .val (.int nn), .unset, .unset] [] := by first | (simp [entryFrame, mkF, argsToLocals, Value.category]; done) | rfl
def Q4 (Z : State) (oa : Addr) (nn : Int32) (kc : ClassId) (vs : List Value) (h0 : Heap) (n0 : Nat) (vr : Option Value) (hr : Heap) (Lr : List Loc) : Prop := ∃ (br : Addr) (kr : ClassId), vr = some (.ref br) ∧ Fr n0 Lr ∧ Keep h0 hr [] ∧ h0.size ≤ br ∧ Arv Z hr br kr .byte (nn - (8 : Int32)) (own_cp vs (nn - (8 : Int32))) (.int (0 : Int32))
set_option maxRecDepth 65536 in
set_option maxHeartbeats 40000000 in
theorem rm4 (l : Launch) (Z : State) (a0 : Array Value) (hw : ∀ d ∈ tables_1, d.before a0 Z = true) (ws : List Jvm.Cond) (oa : Addr) (nn : Int32) (kc : ClassId) (vs : List Value) (h0 : Heap) (n0 : Nat) (Z0 : n0 ≤ h0.size) (V_oa : Arv Z h0 oa kc .byte nn vs (.int (0 : Int32))) (hge : ¬ (nn < (8 : Int32))) (hle : ¬ ((16 : Int32) < nn)) :
    MetFree l (⟨"java/util/Arrays", "copyOfRangeByte", "([BII)[B"⟩ : MethodName) (head1 (Jvm.Cond.code (⟨"java/util/Arrays", "copyOfRangeByte", "([BII)[B"⟩ : MethodName) jdk_65_method_133_code 5 (some (.array .byte)) :: ws) ({ frames := 1, cells := 1, slots := 8, locals := 18 } : Room)) (fun aQ UQ => aQ = #[(.ref oa), (.int (8 : Int32)), (.int nn)] ∧ Z.Warmed39 UQ.vm ∧ UQ.heap = h0) (fun _ _ _ _ _ => True) (fun _ UQ oQ VQ => ∃ vQ LQ, oQ = .returned vQ ∧ Q4 Z oa nn kc vs h0 n0 vQ VQ.heap LQ ∧ FrameEnd UQ oQ VQ LQ ({ frames := 1, cells := 1, slots := 8, locals := 18 } : Room).cells ({ frames := 1, cells := 1, slots := 8, locals := 18 } : Room).slots) := by
  refine MetFree.of_bodySF (plainFor_of_name own_pn1) hisR ?_
  intro p e s m args below meth c s₁ Bd hml0 hP hK
  obtain ⟨rfl, hZ, hh⟩ := hP
  have hx := Bd.exec
  have hby := Bd.bytes
  have hml : c.maxLocals = 5 := hml0
  have hown : s.vm.findClass "java/util/Arrays" = some m.cls := findClass_of_methodNamed Bd.named
  have hnm := (name_of_methodNamed Bd.named Bd.method).1
  have X0 : Stand p l e ({ frames := 1, cells := 1, slots := 8, locals := 18 } : Room) s m #[(.ref oa), (.int (8 : Int32)), (.int nn)] below meth c s₁ [] 0 0 := Stand.of_body Bd
  have e0 : s₁.heap = h0 := by rw [← hh, Bd.state]; rfl
  have N0 := Fr.nil n0
  show Go p e below (EndQ s below (Q4 Z oa nn kc vs h0 n0) ({ frames := 1, cells := 1, slots := 8, locals := 18 } : Room).cells ({ frames := 1, cells := 1, slots := 8, locals := 18 } : Room).slots) s₁ (entryFrame m #[(.ref oa), (.int (8 : Int32)), (.int nn)] 5)
  obtain ⟨Φ, hΦ⟩ : ∃ Φ, Φ = EndQ s below (Q4 Z oa nn kc vs h0 n0) ({ frames := 1, cells := 1, slots := 8, locals := 18 } : Room).cells ({ frames := 1, cells := 1, slots := 8, locals := 18 } : Room).slots := ⟨_, rfl⟩
  rw [← hΦ, own_ef4]
  show Go p e below Φ s₁ (mkF m 0 #[.val (.ref oa), .val (.int (8 : Int32)), .val (.int nn), .unset, .unset] [])
  refine Go.of (fun t k => XS.iloadN X0.here hx rfl (hb hby own_d4_0) rfl  k) ?_
  show Go p e below Φ s₁ (mkF m 1 #[.val (.ref oa), .val (.int (8 : Int32)), .val (.int nn), .unset, .unset] [(.int (8 : Int32))])
  refine Go.of (fun t k => XS.iloadN X0.here hx rfl (hb hby own_d4_1) rfl  k) ?_
  show Go p e below Φ s₁ (mkF m 2 #[.val (.ref oa), .val (.int (8 : Int32)), .val (.int nn), .unset, .unset] [(.int nn), (.int (8 : Int32))])
  obtain ⟨_, _, ⟨T1, L1, k1, n1⟩, -, X1, ⟨Lc1, hQ1, l1, y1, z1⟩, st1⟩ := Jvm.LawKit.callS X0 hx (y := (⟨"java/util/Arrays", "checkLength", "(II)V"⟩ : MethodName)) hown (mvT hZ (hw _ (List.mem_of_getElem? (i := 18) rfl))) (mvT hZ (hw _ (List.mem_of_getElem? (i := 19) rfl))) (mvT hZ (hw _ (List.mem_of_getElem? (i := 13) rfl))) (mvT hZ (hw _ (List.mem_of_getElem? (i := 20) rfl))) (by decide) (backOf (W := 0) (rm5 l Z a0 hw [] nn h0 n0 Z0 hge) hZ (hw _ (List.mem_of_getElem? (i := 20) rfl)) (hw _ (List.mem_of_getElem? (i := 13) rfl)) (by decide) (by decide)) (g := (mkF m 2 #[.val (.ref oa), .val (.int (8 : Int32)), .val (.int nn), .unset, .unset] [(.int nn), (.int (8 : Int32))])) rfl (by rw [hml]; rfl) (argsL := [(.int (8 : Int32)), (.int nn)]) (rest := []) (lenOf own_pd1 rfl) rfl (by show 2 * 0 + _ ≤ _; exact Nat.le_of_eq rfl) (hb hby own_d4_2) (fun _ _ => ⟨rfl, e0, (by decide : 0 + 0 ≤ _), (by decide : 0 + 0 ≤ _)⟩)
  dsimp only [Pt.U, Pt.locs, Pt.cells, Pt.slots] at X1 l1 y1 z1 st1 hQ1
  subst l1 y1 z1
  obtain ⟨rfl, N1q, e1q⟩ := hQ1
  have N1 := Fr.app N0 N1q
  obtain ⟨lc1, X1, N1⟩ : ∃ lc, Stand p l e ({ frames := 1, cells := 1, slots := 8, locals := 18 } : Room) s m #[(.ref oa), (.int (8 : Int32)), (.int nn)] below meth c T1 lc 0 0 ∧ Fr n0 lc := ⟨_, X1, N1⟩
  refine Go.of st1 ?_
  show Go p e below Φ T1 (mkF m 5 #[.val (.ref oa), .val (.int (8 : Int32)), .val (.int nn), .unset, .unset] [])
  refine Go.of (fun t k => XS.iloadN X1.here hx rfl (hb hby own_d4_5) rfl  k) ?_
  show Go p e below Φ T1 (mkF m 6 #[.val (.ref oa), .val (.int (8 : Int32)), .val (.int nn), .unset, .unset] [(.int nn)])
  refine Go.of (fun t k => XS.iloadN X1.here hx rfl (hb hby own_d4_6) rfl  k) ?_
  show Go p e below Φ T1 (mkF m 7 #[.val (.ref oa), .val (.int (8 : Int32)), .val (.int nn), .unset, .unset] [(.int (8 : Int32)), (.int nn)])
  refine Go.of (fun t k => XS.isub X1.here hx rfl (hb hby own_d4_7) rfl k) ?_
  show Go p e below Φ T1 (mkF m 8 #[.val (.ref oa), .val (.int (8 : Int32)), .val (.int nn), .unset, .unset] [(.int (nn - (8 : Int32)))])
  refine Go.of (fun t k => XS.istoreN X1.here hx rfl (hb hby own_d4_8) rfl (l' := #[.val (.ref oa), .val (.int (8 : Int32)), .val (.int nn), .val (.int (nn - (8 : Int32))), .unset]) rfl k) ?_
  show Go p e below Φ T1 (mkF m 9 #[.val (.ref oa), .val (.int (8 : Int32)), .val (.int nn), .val (.int (nn - (8 : Int32))), .unset] [])
  refine Go.of (fun t k => XS.iloadN X1.here hx rfl (hb hby own_d4_9) rfl  k) ?_
  show Go p e below Φ T1 (mkF m 10 #[.val (.ref oa), .val (.int (8 : Int32)), .val (.int nn), .val (.int (nn - (8 : Int32))), .unset] [(.int (nn - (8 : Int32)))])
  obtain ⟨T2, h2, k2, X2, e2, E2, A2, st2⟩ := newP X1 hx hZ (hw _ (List.mem_of_getElem? (i := 0) rfl)) (e1q) (g := (mkF m 10 #[.val (.ref oa), .val (.int (8 : Int32)), .val (.int nn), .val (.int (nn - (8 : Int32))), .unset] [(.int (nn - (8 : Int32)))])) rfl (hb hby own_d4_10) rfl (own_m0 hge hle) (cap := 8) (own_m8 hge hle) (by decide) (by decide) (by decide)
  obtain ⟨b2, g2⟩ : ∃ z, z = h0.size := ⟨_, rfl⟩
  rw [← g2] at A2 st2
  have ne_oa_b2 : oa ≠ b2 := Nat.ne_of_lt (Nat.lt_of_lt_of_le V_oa.lt (Nat.le_of_eq g2.symm))
  have g_b2 : n0 ≤ b2 := Nat.le_trans Z0 (Nat.le_of_eq g2.symm)
  have sz_b2 : h0.size ≤ b2 := Nat.le_trans (Keep.refl h0 []).1 (Nat.le_of_eq g2.symm)
  have K2 := (Keep.refl h0 []).ext E2
  have Z2 := Nat.le_trans Z0 E2.1
  have V_oa := V_oa.ext E2
  have V_b2 : Arv Z h2 b2 k2 .byte (nn - (8 : Int32)) [(.int (0 : Int32)), (.int (0 : Int32)), (.int (0 : Int32)), (.int (0 : Int32)), (.int (0 : Int32)), (.int (0 : Int32)), (.int (0 : Int32)), (.int (0 : Int32))] (.int (0 : Int32)) := (Arv.new A2 (own_m0 hge hle)).pad (pad_rep [] (.int (0 : Int32)) 8)
  refine Go.of st2 ?_
  show Go p e below Φ T2 (mkF m 12 #[.val (.ref oa), .val (.int (8 : Int32)), .val (.int nn), .val (.int (nn - (8 : Int32))), .unset] [(.ref b2)])
  refine Go.of (fun t k => XS.astore X2.here hx rfl (hb hby own_d4_12) rfl rfl (l' := #[.val (.ref oa), .val (.int (8 : Int32)), .val (.int nn), .val (.int (nn - (8 : Int32))), .val (.ref b2)]) rfl k) ?_
  show Go p e below Φ T2 (mkF m 14 #[.val (.ref oa), .val (.int (8 : Int32)), .val (.int nn), .val (.int (nn - (8 : Int32))), .val (.ref b2)] [])
  refine Go.of (fun t k => XS.aloadN X2.here hx rfl (hb hby own_d4_14) rfl rfl  k) ?_
  show Go p e below Φ T2 (mkF m 15 #[.val (.ref oa), .val (.int (8 : Int32)), .val (.int nn), .val (.int (nn - (8 : Int32))), .val (.ref b2)] [(.ref oa)])
  refine Go.of (fun t k => XS.iloadN X2.here hx rfl (hb hby own_d4_15) rfl  k) ?_
  show Go p e below Φ T2 (mkF m 16 #[.val (.ref oa), .val (.int (8 : Int32)), .val (.int nn), .val (.int (nn - (8 : Int32))), .val (.ref b2)] [(.int (8 : Int32)), (.ref oa)])
  refine Go.of (fun t k => XS.aload X2.here hx rfl (hb hby own_d4_16) rfl rfl  k) ?_
  show Go p e below Φ T2 (mkF m 18 #[.val (.ref oa), .val (.int (8 : Int32)), .val (.int nn), .val (.int (nn - (8 : Int32))), .val (.ref b2)] [(.ref b2), (.int (8 : Int32)), (.ref oa)])
  refine Go.of (fun t k => XS.iconst X2.here hx rfl (hb hby own_d4_18) k) ?_
  show Go p e below Φ T2 (mkF m 19 #[.val (.ref oa), .val (.int (8 : Int32)), .val (.int nn), .val (.int (nn - (8 : Int32))), .val (.ref b2)] [(.int (0 : Int32)), (.ref b2), (.int (8 : Int32)), (.ref oa)])
  refine Go.of (fun t k => XS.aloadN X2.here hx rfl (hb hby own_d4_19) rfl rfl  k) ?_
  show Go p e below Φ T2 (mkF m 20 #[.val (.ref oa), .val (.int (8 : Int32)), .val (.int nn), .val (.int (nn - (8 : Int32))), .val (.ref b2)] [(.ref oa), (.int (0 : Int32)), (.ref b2), (.int (8 : Int32)), (.ref oa)])
  obtain ⟨cl20, Ar20, q20, S20, N20, H20, G20⟩ := id V_oa
  refine Go.of (fun t k => X2.arraylength hx (own_at_ e2 Ar20.1) (State.isArrayOf_alike hZ.alike Ar20.2.1) (g := (mkF m 20 #[.val (.ref oa), .val (.int (8 : Int32)), .val (.int nn), .val (.int (nn - (8 : Int32))), .val (.ref b2)] [(.ref oa), (.int (0 : Int32)), (.ref b2), (.int (8 : Int32)), (.ref oa)])) rfl rfl (hb hby own_d4_20) t k) ?_
  rw [len_of S20 N20]
  show Go p e below Φ T2 (mkF m 21 #[.val (.ref oa), .val (.int (8 : Int32)), .val (.int nn), .val (.int (nn - (8 : Int32))), .val (.ref b2)] [(.int nn), (.int (0 : Int32)), (.ref b2), (.int (8 : Int32)), (.ref oa)])
  refine Go.of (fun t k => XS.iloadN X2.here hx rfl (hb hby own_d4_21) rfl  k) ?_
  show Go p e below Φ T2 (mkF m 22 #[.val (.ref oa), .val (.int (8 : Int32)), .val (.int nn), .val (.int (nn - (8 : Int32))), .val (.ref b2)] [(.int (8 : Int32)), (.int nn), (.int (0 : Int32)), (.ref b2), (.int (8 : Int32)), (.ref oa)])
  refine Go.of (fun t k => XS.isub X2.here hx rfl (hb hby own_d4_22) rfl k) ?_
  show Go p e below Φ T2 (mkF m 23 #[.val (.ref oa), .val (.int (8 : Int32)), .val (.int nn), .val (.int (nn - (8 : Int32))), .val (.ref b2)] [(.int (nn - (8 : Int32))), (.int (0 : Int32)), (.ref b2), (.int (8 : Int32)), (.ref oa)])
  refine Go.of (fun t k => XS.iloadN X2.here hx rfl (hb hby own_d4_23) rfl  k) ?_
  show Go p e below Φ T2 (mkF m 24 #[.val (.ref oa), .val (.int (8 : Int32)), .val (.int nn), .val (.int (nn - (8 : Int32))), .val (.ref b2)] [(.int (nn - (8 : Int32))), (.int (nn - (8 : Int32))), (.int (0 : Int32)), (.ref b2), (.int (8 : Int32)), (.ref oa)])
  obtain ⟨_, _, ⟨T3, L3, k3, n3⟩, -, X3, ⟨Lc3, hQ3, l3, y3, z3⟩, st3⟩ := Jvm.LawKit.callS X2 hx (y := (⟨"java/lang/Math", "min", "(II)I"⟩ : MethodName)) hown (mvT hZ (hw _ (List.mem_of_getElem? (i := 21) rfl))) (mvT hZ (hw _ (List.mem_of_getElem? (i := 22) rfl))) (mvT hZ (hw _ (List.mem_of_getElem? (i := 23) rfl))) (mvT hZ (hw _ (List.mem_of_getElem? (i := 24) rfl))) (by decide) (backOf (W := 4) (rm6 l Z a0 hw [] (nn - (8 : Int32)) (nn - (8 : Int32)) h2 n0 Z2) hZ (hw _ (List.mem_of_getElem? (i := 24) rfl)) (hw _ (List.mem_of_getElem? (i := 23) rfl)) (by decide) (by decide)) (g := (mkF m 24 #[.val (.ref oa), .val (.int (8 : Int32)), .val (.int nn), .val (.int (nn - (8 : Int32))), .val (.ref b2)] [(.int (nn - (8 : Int32))), (.int (nn - (8 : Int32))), (.int (0 : Int32)), (.ref b2), (.int (8 : Int32)), (.ref oa)])) rfl (by rw [hml]; rfl) (argsL := [(.int (nn - (8 : Int32))), (.int (nn - (8 : Int32)))]) (rest := [(.int (0 : Int32)), (.ref b2), (.int (8 : Int32)), (.ref oa)]) (lenOf own_pd2 rfl) rfl (by show 2 * 0 + _ ≤ _; exact Nat.le_of_eq rfl) (hb hby own_d4_24) (fun _ _ => ⟨rfl, e2, (by decide : 1 + 0 ≤ _), (by decide : 8 + 0 ≤ _)⟩)
  dsimp only [Pt.U, Pt.locs, Pt.cells, Pt.slots] at X3 l3 y3 z3 st3 hQ3
  subst l3 y3 z3
  obtain ⟨rfl, N3q, e3q⟩ := hQ3
  have N3 := Fr.app N1 N3q
  obtain ⟨lc3, X3, N3⟩ : ∃ lc, Stand p l e ({ frames := 1, cells := 1, slots := 8, locals := 18 } : Room) s m #[(.ref oa), (.int (8 : Int32)), (.int nn)] below meth c T3 lc 1 8 ∧ Fr n0 lc := ⟨_, X3, N3⟩
  refine Go.of st3 ?_
  show Go p e below Φ T3 (mkF m 27 #[.val (.ref oa), .val (.int (8 : Int32)), .val (.int nn), .val (.int (nn - (8 : Int32))), .val (.ref b2)] [(.int (own_min (nn - (8 : Int32)) (nn - (8 : Int32)))), (.int (0 : Int32)), (.ref b2), (.int (8 : Int32)), (.ref oa)])
  have em : own_min (nn - (8 : Int32)) (nn - (8 : Int32)) = nn - (8 : Int32) := own_minS _
  rw [em]
  show Go p e below Φ T3 (mkF m 27 #[.val (.ref oa), .val (.int (8 : Int32)), .val (.int nn), .val (.int (nn - (8 : Int32))), .val (.ref b2)] [(.int (nn - (8 : Int32))), (.int (0 : Int32)), (.ref b2), (.int (8 : Int32)), (.ref oa)])
  obtain ⟨T4, h4, lc4, X4, e4, N4, K4q, V4, st4⟩ := cpA X3 hx hZ hown (hw _ (List.mem_of_getElem? (i := 25) rfl)) (hw _ (List.mem_of_getElem? (i := 28) rfl)) (hw _ (List.mem_of_getElem? (i := 26) rfl)) (hw _ (List.mem_of_getElem? (i := 27) rfl)) (e3q) V_oa V_b2 (Or.inl ⟨rfl, rfl⟩) (by decide) (by decide) (own_m0 hge hle) (own_m4 hge hle) (own_m5 hge hle) rfl (own_m6 hge hle) N3 g_b2 (g := (mkF m 27 #[.val (.ref oa), .val (.int (8 : Int32)), .val (.int nn), .val (.int (nn - (8 : Int32))), .val (.ref b2)] [(.int (nn - (8 : Int32))), (.int (0 : Int32)), (.ref b2), (.int (8 : Int32)), (.ref oa)])) rfl (by rw [hml]; rfl) rfl (hb hby own_d4_27) (by decide) (W := 0) (by show 2 * 0 + _ ≤ _; exact Nat.le_of_eq rfl) (by decide)
  have V_oa := V_oa.keep K4q (ninS ne_oa_b2 nin0)
  have V_b2 : Arv Z h4 b2 k2 .byte (nn - (8 : Int32)) (own_cp vs (nn - (8 : Int32))) (.int (0 : Int32)) := own_cong V4 (own_same vs _ (own_m8 hge hle))
  have K4 := K2.trans K4q (allS (Or.inr sz_b2) all0)
  have Z4 := Nat.le_trans Z2 K4q.1
  refine Go.of st4 ?_
  show Go p e below Φ T4 (mkF m 30 #[.val (.ref oa), .val (.int (8 : Int32)), .val (.int nn), .val (.int (nn - (8 : Int32))), .val (.ref b2)] [])
  refine Go.of (fun t k => XS.aload X4.here hx rfl (hb hby own_d4_30) rfl rfl  k) ?_
  show Go p e below Φ T4 (mkF m 32 #[.val (.ref oa), .val (.int (8 : Int32)), .val (.int nn), .val (.int (nn - (8 : Int32))), .val (.ref b2)] [(.ref b2)])
  rw [hΦ]
  refine Go.ret X4 hx Bd.notSynchronized Bd.returns rfl (Or.inr (Or.inr (Or.inr (Or.inr ⟨rfl, rfl, rfl⟩)))) (hb hby own_d4_32) (by decide) (by decide) ?_
  rw [e4]
  exact ⟨b2, k2, rfl, N4, K4, sz_b2, V_b2⟩
theorem own_ef3 (m : MethodId) (oa : Addr) (nn : Int32) : entryFrame m #[(.ref oa), (.int (8 : Int32)), (.int nn)] 3 = mkF m 0 #[.val (.ref oa), .val (.int (8 : Int32)), .val (.int nn)] [] := by first | (simp [entryFrame, mkF, argsToLocals, Value.category]; done) | rfl
def Q3 (Z : State) (oa : Addr) (nn : Int32) (kc : ClassId) (vs : List Value) (h0 : Heap) (n0 : Nat) (vr : Option Value) (hr : Heap) (Lr : List Loc) : Prop := ∃ (br : Addr) (kr : ClassId), vr = some (.ref br) ∧ Fr n0 Lr ∧ Keep h0 hr [] ∧ h0.size ≤ br ∧ Arv Z hr br kr .byte (nn - (8 : Int32)) (own_cp vs (nn - (8 : Int32))) (.int (0 : Int32))
set_option maxRecDepth 65536 in
set_option maxHeartbeats 40000000 in
theorem rm3 (l : Launch) (Z : State) (a0 : Array Value) (hw : ∀ d ∈ tables_1, d.before a0 Z = true) (ws : List Jvm.Cond) (oa : Addr) (nn : Int32) (kc : ClassId) (vs : List Value) (h0 : Heap) (n0 : Nat) (Z0 : n0 ≤ h0.size) (V_oa : Arv Z h0 oa kc .byte nn vs (.int (0 : Int32))) (hge : ¬ (nn < (8 : Int32))) (hle : ¬ ((16 : Int32) < nn)) :
    MetFree l (⟨"java/util/Arrays", "copyOfRange", "([BII)[B"⟩ : MethodName) (head1 (Jvm.Cond.code (⟨"java/util/Arrays", "copyOfRange", "([BII)[B"⟩ : MethodName) jdk_65_method_132_code 3 (some (.array .byte)) :: ws) ({ frames := 2, cells := 1, slots := 8, locals := 34 } : Room)) (fun aQ UQ => aQ = #[(.ref oa), (.int (8 : Int32)), (.int nn)] ∧ Z.Warmed39 UQ.vm ∧ UQ.heap = h0) (fun _ _ _ _ _ => True) (fun _ UQ oQ VQ => ∃ vQ LQ, oQ = .returned vQ ∧ Q3 Z oa nn kc vs h0 n0 vQ VQ.heap LQ ∧ FrameEnd UQ oQ VQ LQ ({ frames := 2, cells := 1, slots := 8, locals := 34 } : Room).cells ({ frames := 2, cells := 1, slots := 8, locals := 34 } : Room).slots) := by
  refine MetFree.of_bodySF (plainFor_of_name own_pn1) hisR ?_
  intro p e s m args below meth c s₁ Bd hml0 hP hK
  obtain ⟨rfl, hZ, hh⟩ := hP
  have hx := Bd.exec
  have hby := Bd.bytes
  have hml : c.maxLocals = 3 := hml0
  have hown : s.vm.findClass "java/util/Arrays" = some m.cls := findClass_of_methodNamed Bd.named
  have hnm := (name_of_methodNamed Bd.named Bd.method).1
  have X0 : Stand p l e ({ frames := 2, cells := 1, slots := 8, locals := 34 } : Room) s m #[(.ref oa), (.int (8 : Int32)), (.int nn)] below meth c s₁ [] 0 0 := Stand.of_body Bd
  have e0 : s₁.heap = h0 := by rw [← hh, Bd.state]; rfl
  have N0 := Fr.nil n0
  show Go p e below (EndQ s below (Q3 Z oa nn kc vs h0 n0) ({ frames := 2, cells := 1, slots := 8, locals := 34 } : Room).cells ({ frames := 2, cells := 1, slots := 8, locals := 34 } : Room).slots) s₁ (entryFrame m #[(.ref oa), (.int (8 : Int32)), (.int nn)] 3)
  obtain ⟨Φ, hΦ⟩ : ∃ Φ, Φ = EndQ s below (Q3 Z oa nn kc vs h0 n0) ({ frames := 2, cells := 1, slots := 8, locals := 34 } : Room).cells ({ frames := 2, cells := 1, slots := 8, locals := 34 } : Room).slots := ⟨_, rfl⟩
  rw [← hΦ, own_ef3]
  show Go p e below Φ s₁ (mkF m 0 #[.val (.ref oa), .val (.int (8 : Int32)), .val (.int nn)] [])
  refine Go.of (fun t k => XS.iloadN X0.here hx rfl (hb hby own_d3_0) rfl  k) ?_
  show Go p e below Φ s₁ (mkF m 1 #[.val (.ref oa), .val (.int (8 : Int32)), .val (.int nn)] [(.int (8 : Int32))])
  refine Go.of (fun t k => XS.ifYes X0.here hx rfl (pc0 := 1) (pc' := 10) rfl (hb hby own_d3_1) rfl (XT.i0_ne_t (by decide)) (by decide) (by decide) k) ?_
  show Go p e below Φ s₁ (mkF m 10 #[.val (.ref oa), .val (.int (8 : Int32)), .val (.int nn)] [])
  refine Go.of (fun t k => XS.aloadN X0.here hx rfl (hb hby own_d3_10) rfl rfl  k) ?_
  show Go p e below Φ s₁ (mkF m 11 #[.val (.ref oa), .val (.int (8 : Int32)), .val (.int nn)] [(.ref oa)])
  refine Go.of (fun t k => XS.iloadN X0.here hx rfl (hb hby own_d3_11) rfl  k) ?_
  show Go p e below Φ s₁ (mkF m 12 #[.val (.ref oa), .val (.int (8 : Int32)), .val (.int nn)] [(.int (8 : Int32)), (.ref oa)])
  refine Go.of (fun t k => XS.iloadN X0.here hx rfl (hb hby own_d3_12) rfl  k) ?_
  show Go p e below Φ s₁ (mkF m 13 #[.val (.ref oa), .val (.int (8 : Int32)), .val (.int nn)] [(.int nn), (.int (8 : Int32)), (.ref oa)])
  obtain ⟨_, _, ⟨T1, L1, k1, n1⟩, -, X1, ⟨Lc1, hQ1, l1, y1, z1⟩, st1⟩ := Jvm.LawKit.callS X0 hx (y := (⟨"java/util/Arrays", "copyOfRangeByte", "([BII)[B"⟩ : MethodName)) hown (mvT hZ (hw _ (List.mem_of_getElem? (i := 15) rfl))) (mvT hZ (hw _ (List.mem_of_getElem? (i := 16) rfl))) (mvT hZ (hw _ (List.mem_of_getElem? (i := 13) rfl))) (mvT hZ (hw _ (List.mem_of_getElem? (i := 17) rfl))) (by decide) (backOf (W := 0) (rm4 l Z a0 hw [] oa nn kc vs h0 n0 Z0 V_oa hge hle) hZ (hw _ (List.mem_of_getElem? (i := 17) rfl)) (hw _ (List.mem_of_getElem? (i := 13) rfl)) (by decide) (by decide)) (g := (mkF m 13 #[.val (.ref oa), .val (.int (8 : Int32)), .val (.int nn)] [(.int nn), (.int (8 : Int32)), (.ref oa)])) rfl (by rw [hml]; rfl) (argsL := [(.ref oa), (.int (8 : Int32)), (.int nn)]) (rest := []) (lenOf own_pd3 rfl) rfl (by show 2 * 0 + _ ≤ _; exact Nat.le_of_eq rfl) (hb hby own_d3_13) (fun _ _ => ⟨rfl, e0, (by decide : 0 + 1 ≤ _), (by decide : 0 + 8 ≤ _)⟩)
  dsimp only [Pt.U, Pt.locs, Pt.cells, Pt.slots] at X1 l1 y1 z1 st1 hQ1
  subst l1 y1 z1
  obtain ⟨b1, k1, rfl, N1q, K1q, s1q, cV1⟩ := hQ1
  have N1 := Fr.app N0 N1q
  obtain ⟨lc1, X1, N1⟩ : ∃ lc, Stand p l e ({ frames := 2, cells := 1, slots := 8, locals := 34 } : Room) s m #[(.ref oa), (.int (8 : Int32)), (.int nn)] below meth c T1 lc 1 8 ∧ Fr n0 lc := ⟨_, X1, N1⟩
  have ne_oa_b1 : oa ≠ b1 := Nat.ne_of_lt (Nat.lt_of_lt_of_le V_oa.lt s1q)
  have g_b1 : n0 ≤ b1 := Nat.le_trans Z0 s1q
  have sz_b1 : h0.size ≤ b1 := Nat.le_trans (Keep.refl h0 []).1 s1q
  have V_oa := V_oa.keep K1q nin0
  have V_b1 := cV1
  have K1 := (Keep.refl h0 []).trans K1q all0
  have Z1 := Nat.le_trans Z0 K1q.1
  refine Go.of st1 ?_
  show Go p e below Φ T1 (mkF m 16 #[.val (.ref oa), .val (.int (8 : Int32)), .val (.int nn)] [(.ref b1)])
  rw [hΦ]
  refine Go.ret X1 hx Bd.notSynchronized Bd.returns rfl (Or.inr (Or.inr (Or.inr (Or.inr ⟨rfl, rfl, rfl⟩)))) (hb hby own_d3_16) (by decide) (by decide) ?_
  exact ⟨b1, k1, rfl, N1, K1, sz_b1, V_b1⟩
theorem own_ef2 (m : MethodId) (oa : Addr) : entryFrame m #[(.ref oa)] 1 = mkF m 0 #[.val (.ref oa)] [] := by first | (simp [entryFrame, mkF, argsToLocals, Value.category]; done) | rfl
def Q2 (Z : State) (oa : Addr) (kc : ClassId) (nn : Int32) (vs : List Value) (sS : Addr) (clS : Cell) (h0 : Heap) (n0 : Nat) (vr : Option Value) (hr : Heap) (Lr : List Loc) : Prop := ∃ (br : Addr) (kr : ClassId), vr = some (.ref br) ∧ Fr n0 Lr ∧ Keep h0 hr [] ∧ h0.size ≤ br ∧ Arv Z hr br kr .byte (nn - (8 : Int32)) (own_cp vs (nn - (8 : Int32))) (.int (0 : Int32))
set_option maxRecDepth 65536 in
set_option maxHeartbeats 40000000 in
theorem rm2 (l : Launch) (Z : State) (a0 : Array Value) (hw : ∀ d ∈ tables_1, d.before a0 Z = true) (ws : List Jvm.Cond) (oa : Addr) (kc : ClassId) (nn : Int32) (vs : List Value) (sS : Addr) (clS : Cell) (h0 : Heap) (n0 : Nat) (Z0 : n0 ≤ h0.size) (V_oa : Arv Z h0 oa kc .byte nn vs (.int (0 : Int32))) (S_STAGED : Sta Z h0 "com/example/dozynki/dozynki/StoreLayout" "STAGED" "[B" (.ref sS)) (V_sS : Arr Z h0 sS clS .byte) (S_sS : clS.slots.size = (7 : Int32).toNatClampNeg) (hge : ¬ (nn < (8 : Int32))) (hle : ¬ ((16 : Int32) < nn)) :
    MetFree l (⟨"com/example/dozynki/dozynki/StoreLayout", "stagedDefinitionKey", "([B)[B"⟩ : MethodName) (head1 (Jvm.Cond.code (⟨"com/example/dozynki/dozynki/StoreLayout", "stagedDefinitionKey", "([B)[B"⟩ : MethodName) prog_34_method_25_code 1 (some (.array .byte)) :: ws) ({ frames := 3, cells := 1, slots := 8, locals := 48 } : Room)) (fun aQ UQ => aQ = #[(.ref oa)] ∧ Z.Warmed39 UQ.vm ∧ UQ.heap = h0) (fun _ _ _ _ _ => True) (fun _ UQ oQ VQ => ∃ vQ LQ, oQ = .returned vQ ∧ Q2 Z oa kc nn vs sS clS h0 n0 vQ VQ.heap LQ ∧ FrameEnd UQ oQ VQ LQ ({ frames := 3, cells := 1, slots := 8, locals := 48 } : Room).cells ({ frames := 3, cells := 1, slots := 8, locals := 48 } : Room).slots) := by
  refine MetFree.of_bodySF (plainFor_of_name own_pn2) hisR ?_
  intro p e s m args below meth c s₁ Bd hml0 hP hK
  obtain ⟨rfl, hZ, hh⟩ := hP
  have hx := Bd.exec
  have hby := Bd.bytes
  have hml : c.maxLocals = 1 := hml0
  have hown : s.vm.findClass "com/example/dozynki/dozynki/StoreLayout" = some m.cls := findClass_of_methodNamed Bd.named
  have hnm := (name_of_methodNamed Bd.named Bd.method).1
  have X0 : Stand p l e ({ frames := 3, cells := 1, slots := 8, locals := 48 } : Room) s m #[(.ref oa)] below meth c s₁ [] 0 0 := Stand.of_body Bd
  have e0 : s₁.heap = h0 := by rw [← hh, Bd.state]; rfl
  have N0 := Fr.nil n0
  show Go p e below (EndQ s below (Q2 Z oa kc nn vs sS clS h0 n0) ({ frames := 3, cells := 1, slots := 8, locals := 48 } : Room).cells ({ frames := 3, cells := 1, slots := 8, locals := 48 } : Room).slots) s₁ (entryFrame m #[(.ref oa)] 1)
  obtain ⟨Φ, hΦ⟩ : ∃ Φ, Φ = EndQ s below (Q2 Z oa kc nn vs sS clS h0 n0) ({ frames := 3, cells := 1, slots := 8, locals := 48 } : Room).cells ({ frames := 3, cells := 1, slots := 8, locals := 48 } : Room).slots := ⟨_, rfl⟩
  rw [← hΦ, own_ef2]
  show Go p e below Φ s₁ (mkF m 0 #[.val (.ref oa)] [])
  refine Go.of (fun t k => XS.aloadN X0.here hx rfl (hb hby own_d2_0) rfl rfl  k) ?_
  show Go p e below Φ s₁ (mkF m 1 #[.val (.ref oa)] [(.ref oa)])
  obtain ⟨T1, X1, e1, st1⟩ := getS2 X0 hx hZ hown (host := "") (Or.inl (hw _ (List.mem_of_getElem? (i := 9) rfl))) Via.refl e0 S_STAGED (g := (mkF m 1 #[.val (.ref oa)] [(.ref oa)])) rfl (hb hby own_d2_1)
  refine Go.of st1 ?_
  show Go p e below Φ T1 (mkF m 4 #[.val (.ref oa)] [(.ref sS), (.ref oa)])
  refine Go.of (fun t k => X1.arraylength hx (own_at_ e1 V_sS.1) (State.isArrayOf_alike hZ.alike V_sS.2.1) (g := (mkF m 4 #[.val (.ref oa)] [(.ref sS), (.ref oa)])) rfl rfl (hb hby own_d2_4) t k) ?_
  rw [len_of S_sS (by decide)]
  show Go p e below Φ T1 (mkF m 5 #[.val (.ref oa)] [(.int (7 : Int32)), (.ref oa)])
  refine Go.of (fun t k => XS.iconst X1.here hx rfl (hb hby own_d2_5) k) ?_
  show Go p e below Φ T1 (mkF m 6 #[.val (.ref oa)] [(.int (1 : Int32)), (.int (7 : Int32)), (.ref oa)])
  refine Go.of (fun t k => XS.iadd X1.here hx rfl (hb hby own_d2_6) rfl k) ?_
  show Go p e below Φ T1 (mkF m 7 #[.val (.ref oa)] [(.int ((7 : Int32) + (1 : Int32))), (.ref oa)])
  rw [show (7 : Int32) + (1 : Int32) = (8 : Int32) from rfl]
  show Go p e below Φ T1 (mkF m 7 #[.val (.ref oa)] [(.int (8 : Int32)), (.ref oa)])
  refine Go.of (fun t k => XS.aloadN X1.here hx rfl (hb hby own_d2_7) rfl rfl  k) ?_
  show Go p e below Φ T1 (mkF m 8 #[.val (.ref oa)] [(.ref oa), (.int (8 : Int32)), (.ref oa)])
  obtain ⟨cl8, Ar8, q8, S8, N8, H8, G8⟩ := id V_oa
  refine Go.of (fun t k => X1.arraylength hx (own_at_ e1 Ar8.1) (State.isArrayOf_alike hZ.alike Ar8.2.1) (g := (mkF m 8 #[.val (.ref oa)] [(.ref oa), (.int (8 : Int32)), (.ref oa)])) rfl rfl (hb hby own_d2_8) t k) ?_
  rw [len_of S8 N8]
  show Go p e below Φ T1 (mkF m 9 #[.val (.ref oa)] [(.int nn), (.int (8 : Int32)), (.ref oa)])
  obtain ⟨_, _, ⟨T2, L2, k2, n2⟩, -, X2, ⟨Lc2, hQ2, l2, y2, z2⟩, st2⟩ := Jvm.LawKit.callS X1 hx (y := (⟨"java/util/Arrays", "copyOfRange", "([BII)[B"⟩ : MethodName)) hown (mvT hZ (hw _ (List.mem_of_getElem? (i := 11) rfl))) (mvT hZ (hw _ (List.mem_of_getElem? (i := 12) rfl))) (mvT hZ (hw _ (List.mem_of_getElem? (i := 13) rfl))) (mvT hZ (hw _ (List.mem_of_getElem? (i := 14) rfl))) (by decide) (backOf (W := 0) (rm3 l Z a0 hw [] oa nn kc vs h0 n0 Z0 V_oa hge hle) hZ (hw _ (List.mem_of_getElem? (i := 14) rfl)) (hw _ (List.mem_of_getElem? (i := 13) rfl)) (by decide) (by decide)) (g := (mkF m 9 #[.val (.ref oa)] [(.int nn), (.int (8 : Int32)), (.ref oa)])) rfl (by rw [hml]; rfl) (argsL := [(.ref oa), (.int (8 : Int32)), (.int nn)]) (rest := []) (lenOf own_pd3 rfl) rfl (by show 2 * 0 + _ ≤ _; exact Nat.le_of_eq rfl) (hb hby own_d2_9) (fun _ _ => ⟨rfl, e1, (by decide : 0 + 1 ≤ _), (by decide : 0 + 8 ≤ _)⟩)
  dsimp only [Pt.U, Pt.locs, Pt.cells, Pt.slots] at X2 l2 y2 z2 st2 hQ2
  subst l2 y2 z2
  obtain ⟨b2, k2, rfl, N2q, K2q, s2q, cV2⟩ := hQ2
  have N2 := Fr.app N0 N2q
  obtain ⟨lc2, X2, N2⟩ : ∃ lc, Stand p l e ({ frames := 3, cells := 1, slots := 8, locals := 48 } : Room) s m #[(.ref oa)] below meth c T2 lc 1 8 ∧ Fr n0 lc := ⟨_, X2, N2⟩
  have ne_oa_b2 : oa ≠ b2 := Nat.ne_of_lt (Nat.lt_of_lt_of_le V_oa.lt s2q)
  have g_b2 : n0 ≤ b2 := Nat.le_trans Z0 s2q
  have sz_b2 : h0.size ≤ b2 := Nat.le_trans (Keep.refl h0 []).1 s2q
  have V_oa := V_oa.keep K2q nin0
  have V_b2 := cV2
  have K2 := (Keep.refl h0 []).trans K2q all0
  have Z2 := Nat.le_trans Z0 K2q.1
  refine Go.of st2 ?_
  show Go p e below Φ T2 (mkF m 12 #[.val (.ref oa)] [(.ref b2)])
  rw [hΦ]
  refine Go.ret X2 hx Bd.notSynchronized Bd.returns rfl (Or.inr (Or.inr (Or.inr (Or.inr ⟨rfl, rfl, rfl⟩)))) (hb hby own_d2_12) (by decide) (by decide) ?_
  exact ⟨b2, k2, rfl, N2, K2, sz_b2, V_b2⟩
theorem own_ef7 (m : MethodId) (oa : Addr) (ii : Int32) (nn : Int32) (dd : Int64) : entryFrame m #[(.ref oa), (.int ii), (.int nn), (.long dd)] 5 = mkF m 0 #[.val (.ref oa), .val (.int ii), .val (.int nn), .val (.long dd), .second] [] := by first | (simp [entryFrame, mkF, argsToLocals, Value.category]; done) | rfl
def Q7 (Z : State) (oa : Addr) (ii : Int32) (nn : Int32) (dd : Int64) (kc : ClassId) (vs : List Value) (h0 : Heap) (n0 : Nat) (vr : Option Value) (hr : Heap) (Lr : List Loc) : Prop := vr = some (.int (1 : Int32)) ∧ Fr n0 Lr ∧ hr = h0
set_option maxRecDepth 65536 in
set_option maxHeartbeats 40000000 in
theorem rm7 (l : Launch) (Z : State) (a0 : Array Value) (hw : ∀ d ∈ tables_1, d.before a0 Z = true) (ws : List Jvm.Cond) (oa : Addr) (ii : Int32) (nn : Int32) (dd : Int64) (kc : ClassId) (vs : List Value) (h0 : Heap) (n0 : Nat) (Z0 : n0 ≤ h0.size) (V_oa : Arv Z h0 oa kc .byte nn vs (.int (0 : Int32))) (hi0 : ¬ ii < 0) (hval : ii < nn → vs.getD ii.toNatClampNeg (.int (0 : Int32)) = (.int (nar .byte (own_at dd ii)))) :
    MetFree l (⟨"com/example/dozynki/dozynki/StoreLayoutStagedDefinitionKeyPinLaw", "cell", "([BIIJ)Z"⟩ : MethodName) (head1 (Jvm.Cond.code (⟨"com/example/dozynki/dozynki/StoreLayoutStagedDefinitionKeyPinLaw", "cell", "([BIIJ)Z"⟩ : MethodName) method_4_code 5 (some .boolean) :: ws) ({ frames := 1, cells := 0, slots := 0, locals := 15 } : Room)) (fun aQ UQ => aQ = #[(.ref oa), (.int ii), (.int nn), (.long dd)] ∧ Z.Warmed39 UQ.vm ∧ UQ.heap = h0) (fun _ _ _ _ _ => True) (fun _ UQ oQ VQ => ∃ vQ LQ, oQ = .returned vQ ∧ Q7 Z oa ii nn dd kc vs h0 n0 vQ VQ.heap LQ ∧ FrameEnd UQ oQ VQ LQ ({ frames := 1, cells := 0, slots := 0, locals := 15 } : Room).cells ({ frames := 1, cells := 0, slots := 0, locals := 15 } : Room).slots) := by
  refine MetFree.of_bodySF (plainFor_of_name own_pn0) hisR ?_
  intro p e s m args below meth c s₁ Bd hml0 hP hK
  obtain ⟨rfl, hZ, hh⟩ := hP
  have hx := Bd.exec
  have hby := Bd.bytes
  have hml : c.maxLocals = 5 := hml0
  have hown : s.vm.findClass "com/example/dozynki/dozynki/StoreLayoutStagedDefinitionKeyPinLaw" = some m.cls := findClass_of_methodNamed Bd.named
  have hnm := (name_of_methodNamed Bd.named Bd.method).1
  have X0 : Stand p l e ({ frames := 1, cells := 0, slots := 0, locals := 15 } : Room) s m #[(.ref oa), (.int ii), (.int nn), (.long dd)] below meth c s₁ [] 0 0 := Stand.of_body Bd
  have e0 : s₁.heap = h0 := by rw [← hh, Bd.state]; rfl
  have N0 := Fr.nil n0
  show Go p e below (EndQ s below (Q7 Z oa ii nn dd kc vs h0 n0) ({ frames := 1, cells := 0, slots := 0, locals := 15 } : Room).cells ({ frames := 1, cells := 0, slots := 0, locals := 15 } : Room).slots) s₁ (entryFrame m #[(.ref oa), (.int ii), (.int nn), (.long dd)] 5)
  obtain ⟨Φ, hΦ⟩ : ∃ Φ, Φ = EndQ s below (Q7 Z oa ii nn dd kc vs h0 n0) ({ frames := 1, cells := 0, slots := 0, locals := 15 } : Room).cells ({ frames := 1, cells := 0, slots := 0, locals := 15 } : Room).slots := ⟨_, rfl⟩
  rw [← hΦ, own_ef7]
  show Go p e below Φ s₁ (mkF m 0 #[.val (.ref oa), .val (.int ii), .val (.int nn), .val (.long dd), .second] [])
  refine Go.of (fun t k => XS.iloadN X0.here hx rfl (hb hby own_d7_0) rfl  k) ?_
  show Go p e below Φ s₁ (mkF m 1 #[.val (.ref oa), .val (.int ii), .val (.int nn), .val (.long dd), .second] [(.int ii)])
  refine Go.of (fun t k => XS.iloadN X0.here hx rfl (hb hby own_d7_1) rfl  k) ?_
  show Go p e below Φ s₁ (mkF m 2 #[.val (.ref oa), .val (.int ii), .val (.int nn), .val (.long dd), .second] [(.int nn), (.int ii)])
  by_cases hc2 : ii < nn
  · refine Go.of (fun t k => XS.icmpNo X0.here hx rfl (hb hby own_d7_2) rfl (XT.ii_ge_f hc2) k) ?_
    show Go p e below Φ s₁ (mkF m 5 #[.val (.ref oa), .val (.int ii), .val (.int nn), .val (.long dd), .second] [])
    refine Go.of (fun t k => XS.iloadN X0.here hx rfl (hb hby own_d7_5) rfl  k) ?_
    show Go p e below Φ s₁ (mkF m 6 #[.val (.ref oa), .val (.int ii), .val (.int nn), .val (.long dd), .second] [(.int ii)])
    refine Go.of (fun t k => XS.aloadN X0.here hx rfl (hb hby own_d7_6) rfl rfl  k) ?_
    show Go p e below Φ s₁ (mkF m 7 #[.val (.ref oa), .val (.int ii), .val (.int nn), .val (.long dd), .second] [(.ref oa), (.int ii)])
    obtain ⟨cl7, Ar7, q7, S7, N7, H7, G7⟩ := id V_oa
    refine Go.of (fun t k => X0.arraylength hx (own_at_ e0 Ar7.1) (State.isArrayOf_alike hZ.alike Ar7.2.1) (g := (mkF m 7 #[.val (.ref oa), .val (.int ii), .val (.int nn), .val (.long dd), .second] [(.ref oa), (.int ii)])) rfl rfl (hb hby own_d7_7) t k) ?_
    rw [len_of S7 N7]
    show Go p e below Φ s₁ (mkF m 8 #[.val (.ref oa), .val (.int ii), .val (.int nn), .val (.long dd), .second] [(.int nn), (.int ii)])
    refine Go.of (fun t k => XS.icmpNo X0.here hx rfl (hb hby own_d7_8) rfl (XT.ii_ge_f hc2) k) ?_
    show Go p e below Φ s₁ (mkF m 11 #[.val (.ref oa), .val (.int ii), .val (.int nn), .val (.long dd), .second] [])
    refine Go.of (fun t k => XS.aloadN X0.here hx rfl (hb hby own_d7_11) rfl rfl  k) ?_
    show Go p e below Φ s₁ (mkF m 12 #[.val (.ref oa), .val (.int ii), .val (.int nn), .val (.long dd), .second] [(.ref oa)])
    refine Go.of (fun t k => XS.iloadN X0.here hx rfl (hb hby own_d7_12) rfl  k) ?_
    show Go p e below Φ s₁ (mkF m 13 #[.val (.ref oa), .val (.int ii), .val (.int nn), .val (.long dd), .second] [(.int ii), (.ref oa)])
    obtain ⟨cl13, Ar13, q13, S13, N13, H13, G13⟩ := id V_oa
    have hin13 : ¬ (ii < 0 ∨ cl13.slots.size ≤ (ii).toNatClampNeg) := inb_of S13 ⟨hi0, hc2⟩
    have hat13 : cl13.slots[(ii).toNatClampNeg]? = some (.int (nar .byte (own_at dd ii))) := H13.at hin13 (hval hc2)
    refine Go.of (fun t k => X0.baloadBytes hx (j := ii) (v := (.int (nar .byte (own_at dd ii)))) (own_at_ e0 Ar13.1) (State.isArrayOf_alike hZ.alike Ar13.2.1) Ar13.2.2 hin13 hat13 (g := (mkF m 13 #[.val (.ref oa), .val (.int ii), .val (.int nn), .val (.long dd), .second] [(.int ii), (.ref oa)])) rfl rfl (hb hby own_d7_13) t k) ?_
    show Go p e below Φ s₁ (mkF m 14 #[.val (.ref oa), .val (.int ii), .val (.int nn), .val (.long dd), .second] [(.int (nar .byte (own_at dd ii)))])
    refine Go.of (fun t k => XS.lloadN X0.here hx rfl (hb hby own_d7_14) rfl  k) ?_
    show Go p e below Φ s₁ (mkF m 15 #[.val (.ref oa), .val (.int ii), .val (.int nn), .val (.long dd), .second] [(.long dd), (.int (nar .byte (own_at dd ii)))])
    refine Go.of (fun t k => XS.iloadN X0.here hx rfl (hb hby own_d7_15) rfl  k) ?_
    show Go p e below Φ s₁ (mkF m 16 #[.val (.ref oa), .val (.int ii), .val (.int nn), .val (.long dd), .second] [(.int ii), (.long dd), (.int (nar .byte (own_at dd ii)))])
    obtain ⟨_, _, ⟨T1, L1, k1, n1⟩, -, X1, ⟨Lc1, hQ1, l1, y1, z1⟩, st1⟩ := Jvm.LawKit.callS X0 hx (y := (⟨"com/example/dozynki/dozynki/StoreLayoutStagedDefinitionKeyPinLaw", "at", "(JI)B"⟩ : MethodName)) hown (mvT hZ (hw _ (List.mem_of_getElem? (i := 32) rfl))) (mvT hZ (hw _ (List.mem_of_getElem? (i := 33) rfl))) (mvT hZ (hw _ (List.mem_of_getElem? (i := 3) rfl))) (mvT hZ (hw _ (List.mem_of_getElem? (i := 34) rfl))) (by decide) (backOf (W := 1) (rm8 l Z a0 hw [] dd ii h0 n0 Z0) hZ (hw _ (List.mem_of_getElem? (i := 34) rfl)) (hw _ (List.mem_of_getElem? (i := 3) rfl)) (by decide) (by decide)) (g := (mkF m 16 #[.val (.ref oa), .val (.int ii), .val (.int nn), .val (.long dd), .second] [(.int ii), (.long dd), (.int (nar .byte (own_at dd ii)))])) rfl (by rw [hml]; rfl) (argsL := [(.long dd), (.int ii)]) (rest := [(.int (nar .byte (own_at dd ii)))]) (lenOf own_pd0 rfl) rfl (by show 2 * 0 + _ ≤ _; exact Nat.le_of_eq rfl) (hb hby own_d7_16) (fun _ _ => ⟨rfl, e0, (by decide : 0 + 0 ≤ _), (by decide : 0 + 0 ≤ _)⟩)
    dsimp only [Pt.U, Pt.locs, Pt.cells, Pt.slots] at X1 l1 y1 z1 st1 hQ1
    subst l1 y1 z1
    obtain ⟨rfl, N1q, e1q⟩ := hQ1
    have N1 := Fr.app N0 N1q
    obtain ⟨lc1, X1, N1⟩ : ∃ lc, Stand p l e ({ frames := 1, cells := 0, slots := 0, locals := 15 } : Room) s m #[(.ref oa), (.int ii), (.int nn), (.long dd)] below meth c T1 lc 0 0 ∧ Fr n0 lc := ⟨_, X1, N1⟩
    refine Go.of st1 ?_
    show Go p e below Φ T1 (mkF m 19 #[.val (.ref oa), .val (.int ii), .val (.int nn), .val (.long dd), .second] [(.int (own_at dd ii)), (.int (nar .byte (own_at dd ii)))])
    refine Go.of (fun t k => XS.icmpNo X1.here hx rfl (hb hby own_d7_19) rfl (XT.ii_ne_f (own_natb dd ii)) k) ?_
    show Go p e below Φ T1 (mkF m 22 #[.val (.ref oa), .val (.int ii), .val (.int nn), .val (.long dd), .second] [])
    refine Go.of (fun t k => XS.iconst X1.here hx rfl (hb hby own_d7_22) k) ?_
    show Go p e below Φ T1 (mkF m 23 #[.val (.ref oa), .val (.int ii), .val (.int nn), .val (.long dd), .second] [(.int (1 : Int32))])
    refine Go.of (fun t k => XS.goto X1.here hx rfl (pc0 := 23) (pc' := 27) rfl (hb hby own_d7_23) (by decide) (by decide) k) ?_
    show Go p e below Φ T1 (mkF m 27 #[.val (.ref oa), .val (.int ii), .val (.int nn), .val (.long dd), .second] [(.int (1 : Int32))])
    rw [hΦ]
    refine Go.ret X1 hx Bd.notSynchronized Bd.returns rfl (Or.inl ⟨rfl, Or.inr (Or.inl rfl), _, rfl⟩) (hb hby own_d7_27) (by decide) (by decide) ?_
    rw [(e1q)]
    exact ⟨rfl, N1, rfl⟩
  · refine Go.of (fun t k => XS.icmpYes X0.here hx rfl (pc0 := 2) (pc' := 22) rfl (hb hby own_d7_2) rfl (XT.ii_ge_t hc2) (by decide) (by decide) k) ?_
    show Go p e below Φ s₁ (mkF m 22 #[.val (.ref oa), .val (.int ii), .val (.int nn), .val (.long dd), .second] [])
    refine Go.of (fun t k => XS.iconst X0.here hx rfl (hb hby own_d7_22) k) ?_
    show Go p e below Φ s₁ (mkF m 23 #[.val (.ref oa), .val (.int ii), .val (.int nn), .val (.long dd), .second] [(.int (1 : Int32))])
    refine Go.of (fun t k => XS.goto X0.here hx rfl (pc0 := 23) (pc' := 27) rfl (hb hby own_d7_23) (by decide) (by decide) k) ?_
    show Go p e below Φ s₁ (mkF m 27 #[.val (.ref oa), .val (.int ii), .val (.int nn), .val (.long dd), .second] [(.int (1 : Int32))])
    rw [hΦ]
    refine Go.ret X0 hx Bd.notSynchronized Bd.returns rfl (Or.inl ⟨rfl, Or.inr (Or.inl rfl), _, rfl⟩) (hb hby own_d7_27) (by decide) (by decide) ?_
    rw [e0]
    exact ⟨rfl, N0, rfl⟩
theorem own_xx (i0 x7 x12 : Int32) (hx7 : x7 = ((i0 &&& (15 : Int32)) % (9 : Int32))) (hx12 : x12 = ((8 : Int32) + x7)) : x12.toInt = 8 + x7.toInt ∧ 0 ≤ x7.toInt ∧ x7.toInt ≤ 8 := by
  have m := c_mask i0 15 4 (by decide) (by decide)
  have r := (c_irem (i0 &&& 15) 9 9 (by decide)).1 (by rw [m]; omega)
  rw [← hx7, m] at r
  have a := c_iadd 8 x7
  have k8 : (8 : Int32).toInt = 8 := by decide
  rw [← hx12, k8] at a
  have r2 := rng32 x12
  omega
theorem own_x0 (i0 x7 x12 : Int32) (hx7 : x7 = ((i0 &&& (15 : Int32)) % (9 : Int32))) (hx12 : x12 = ((8 : Int32) + x7)) : ¬ x12 < 0 := by
  have h := own_xx i0 x7 x12 hx7 hx12
  have k0 : (0 : Int32).toInt = 0 := by decide
  rw [Int32.lt_iff_toInt_lt]; omega
theorem own_x16 (i0 x7 x12 : Int32) (hx7 : x7 = ((i0 &&& (15 : Int32)) % (9 : Int32))) (hx12 : x12 = ((8 : Int32) + x7)) : x12.toNatClampNeg ≤ 16 := by
  have h := own_xx i0 x7 x12 hx7 hx12
  rw [own_tn]; omega
theorem own_lt8 (i0 x7 x12 : Int32) (hx7 : x7 = ((i0 &&& (15 : Int32)) % (9 : Int32))) (hx12 : x12 = ((8 : Int32) + x7)) {j : Int32} (hj : j < 8) : j < x12 := by
  have h := own_xx i0 x7 x12 hx7 hx12
  have k8 : (8 : Int32).toInt = 8 := by decide
  rw [Int32.lt_iff_toInt_lt] at hj ⊢; omega
theorem own_k8 (i0 x7 x12 : Int32) (hx7 : x7 = ((i0 &&& (15 : Int32)) % (9 : Int32))) (hx12 : x12 = ((8 : Int32) + x7)) : ¬ (x12 < (8 : Int32)) ∧ ¬ ((16 : Int32) < x12) := by
  have h := own_xx i0 x7 x12 hx7 hx12
  have k8 : (8 : Int32).toInt = 8 := by decide
  have k16 : (16 : Int32).toInt = 16 := by decide
  rw [Int32.lt_iff_toInt_lt, Int32.lt_iff_toInt_lt]; omega
theorem own_xlen (i0 x7 x12 : Int32) (hx7 : x7 = ((i0 &&& (15 : Int32)) % (9 : Int32))) (hx12 : x12 = ((8 : Int32) + x7)) : x12 - (8 : Int32) = x7 := by
  have h := own_xx i0 x7 x12 hx7 hx12
  obtain ⟨p1, p2⟩ := own_k8 i0 x7 x12 hx7 hx12
  have q := (own_sub p1 p2).1
  apply Int32.toInt_inj.mp
  rw [q]; omega
theorem own_ef0 (m : MethodId) (i0 : Int32) (i1 : Int64) : entryFrame m #[(.int i0), (.long i1)] maxLocals = mkF m 0 #[.val (.int i0), .val (.long i1), .second, .unset, .unset, .unset, .unset] [] := by first | (simp [entryFrame, mkF, argsToLocals, Value.category, maxLocals]; done) | rfl
def Q0 (Z : State) (i0 : Int32) (i1 : Int64) (sS : Addr) (clS : Cell) (h0 : Heap) (n0 : Nat) (vr : Option Value) (hr : Heap) (Lr : List Loc) : Prop := vr = some (.int 1) ∧ Fr n0 Lr
set_option maxRecDepth 65536 in
set_option maxHeartbeats 40000000 in
theorem rm0 (l : Launch) (Z : State) (a0 : Array Value) (hw : ∀ d ∈ tables_1, d.before a0 Z = true) (ws : List Jvm.Cond) (i0 : Int32) (i1 : Int64) (sS : Addr) (clS : Cell) (h0 : Heap) (n0 : Nat) (Z0 : n0 ≤ h0.size) (O0 : Old Z n0 h0) (S_STAGED : Sta Z Z.heap "com/example/dozynki/dozynki/StoreLayout" "STAGED" "[B" (.ref sS)) (V_sS : Arr Z Z.heap sS clS .byte) (S_sS : clS.slots.size = (7 : Int32).toNatClampNeg) :
    MetFree l x (head1 (Jvm.Cond.code x code maxLocals ret :: ws) room_1) (fun aQ UQ => aQ = #[(.int i0), (.long i1)] ∧ Z.Warmed39 UQ.vm ∧ UQ.heap = h0) (fun _ _ _ _ _ => True) (fun _ UQ oQ VQ => ∃ vQ LQ, oQ = .returned vQ ∧ Q0 Z i0 i1 sS clS h0 n0 vQ VQ.heap LQ ∧ FrameEnd UQ oQ VQ LQ 16 128) := by
  refine MetFree.of_bodySF (plainFor_of_name own_pn0) hisR ?_
  intro p e s m args below meth c s₁ Bd hml0 hP hK
  obtain ⟨rfl, hZ, hh⟩ := hP
  have hx := Bd.exec
  have hby := Bd.bytes
  have hml : c.maxLocals = 7 := hml0
  have hown : s.vm.findClass "com/example/dozynki/dozynki/StoreLayoutStagedDefinitionKeyPinLaw" = some m.cls := findClass_of_methodNamed Bd.named
  have hnm := (name_of_methodNamed Bd.named Bd.method).1
  have X0 : Stand p l e room_1 s m #[(.int i0), (.long i1)] below meth c s₁ [] 0 0 := Stand.of_body Bd
  have e0 : s₁.heap = h0 := by rw [← hh, Bd.state]; rfl
  have N0 := Fr.nil n0
  show Go p e below (EndQ s below (Q0 Z i0 i1 sS clS h0 n0) 16 128) s₁ (entryFrame m #[(.int i0), (.long i1)] maxLocals)
  obtain ⟨Φ, hΦ⟩ : ∃ Φ, Φ = EndQ s below (Q0 Z i0 i1 sS clS h0 n0) 16 128 := ⟨_, rfl⟩
  rw [← hΦ, own_ef0]
  show Go p e below Φ s₁ (mkF m 0 #[.val (.int i0), .val (.long i1), .second, .unset, .unset, .unset, .unset] [])
  refine Go.of (fun t k => XS.iloadN X0.here hx rfl (hb hby at_0) rfl  k) ?_
  show Go p e below Φ s₁ (mkF m 1 #[.val (.int i0), .val (.long i1), .second, .unset, .unset, .unset, .unset] [(.int i0)])
  refine Go.of (fun t k => XS.bipush X0.here hx rfl (hb hby at_1) k) ?_
  show Go p e below Φ s₁ (mkF m 3 #[.val (.int i0), .val (.long i1), .second, .unset, .unset, .unset, .unset] [(.int (15 : Int32)), (.int i0)])
  refine Go.of (fun t k => XS.iand X0.here hx rfl (hb hby at_3) rfl k) ?_
  show Go p e below Φ s₁ (mkF m 4 #[.val (.int i0), .val (.long i1), .second, .unset, .unset, .unset, .unset] [(.int (i0 &&& (15 : Int32)))])
  refine Go.of (fun t k => XS.bipush X0.here hx rfl (hb hby at_4) k) ?_
  show Go p e below Φ s₁ (mkF m 6 #[.val (.int i0), .val (.long i1), .second, .unset, .unset, .unset, .unset] [(.int (9 : Int32)), (.int (i0 &&& (15 : Int32)))])
  refine Go.of (fun t k => iremM X0 hx rfl (hb hby at_6) rfl (by decide) k) ?_
  show Go p e below Φ s₁ (mkF m 7 #[.val (.int i0), .val (.long i1), .second, .unset, .unset, .unset, .unset] [(.int ((i0 &&& (15 : Int32)) % (9 : Int32)))])
  obtain ⟨x7, hx7⟩ : ∃ z : Int32, z = ((i0 &&& (15 : Int32)) % (9 : Int32)) := ⟨_, rfl⟩
  rw [← hx7]
  refine Go.of (fun t k => XS.istoreN X0.here hx rfl (hb hby at_7) rfl (l' := #[.val (.int i0), .val (.long i1), .second, .val (.int x7), .unset, .unset, .unset]) rfl k) ?_
  show Go p e below Φ s₁ (mkF m 8 #[.val (.int i0), .val (.long i1), .second, .val (.int x7), .unset, .unset, .unset] [])
  refine Go.of (fun t k => XS.bipush X0.here hx rfl (hb hby at_8) k) ?_
  show Go p e below Φ s₁ (mkF m 10 #[.val (.int i0), .val (.long i1), .second, .val (.int x7), .unset, .unset, .unset] [(.int (8 : Int32))])
  refine Go.of (fun t k => XS.iloadN X0.here hx rfl (hb hby at_10) rfl  k) ?_
  show Go p e below Φ s₁ (mkF m 11 #[.val (.int i0), .val (.long i1), .second, .val (.int x7), .unset, .unset, .unset] [(.int x7), (.int (8 : Int32))])
  refine Go.of (fun t k => XS.iadd X0.here hx rfl (hb hby at_11) rfl k) ?_
  show Go p e below Φ s₁ (mkF m 12 #[.val (.int i0), .val (.long i1), .second, .val (.int x7), .unset, .unset, .unset] [(.int ((8 : Int32) + x7))])
  obtain ⟨x12, hx12⟩ : ∃ z : Int32, z = ((8 : Int32) + x7) := ⟨_, rfl⟩
  rw [← hx12]
  show Go p e below Φ s₁ (mkF m 12 #[.val (.int i0), .val (.long i1), .second, .val (.int x7), .unset, .unset, .unset] [(.int x12)])
  obtain ⟨T1, h1, k1, X1, e1, E1, A1, st1⟩ := newP X0 hx hZ (hw _ (List.mem_of_getElem? (i := 0) rfl)) e0 (g := (mkF m 12 #[.val (.int i0), .val (.long i1), .second, .val (.int x7), .unset, .unset, .unset] [(.int x12)])) rfl (hb hby at_12) rfl (own_x0 i0 x7 x12 hx7 hx12) (cap := 16) (own_x16 i0 x7 x12 hx7 hx12) (by decide) (by decide) (by decide)
  obtain ⟨b1, g1⟩ : ∃ z, z = h0.size := ⟨_, rfl⟩
  rw [← g1] at A1 st1
  have g_b1 : n0 ≤ b1 := Nat.le_trans Z0 (Nat.le_of_eq g1.symm)
  have Z1 := Nat.le_trans Z0 E1.1
  have O1 := O0.ext E1
  have V_b1 : Arv Z h1 b1 k1 .byte x12 [(.int (0 : Int32)), (.int (0 : Int32)), (.int (0 : Int32)), (.int (0 : Int32)), (.int (0 : Int32)), (.int (0 : Int32)), (.int (0 : Int32)), (.int (0 : Int32)), (.int (0 : Int32)), (.int (0 : Int32)), (.int (0 : Int32)), (.int (0 : Int32)), (.int (0 : Int32)), (.int (0 : Int32)), (.int (0 : Int32)), (.int (0 : Int32))] (.int (0 : Int32)) := (Arv.new A1 (own_x0 i0 x7 x12 hx7 hx12)).pad (pad_rep [] (.int (0 : Int32)) 16)
  refine Go.of st1 ?_
  show Go p e below Φ T1 (mkF m 14 #[.val (.int i0), .val (.long i1), .second, .val (.int x7), .unset, .unset, .unset] [(.ref b1)])
  refine Go.of (fun t k => XS.astore X1.here hx rfl (hb hby at_14) rfl rfl (l' := #[.val (.int i0), .val (.long i1), .second, .val (.int x7), .val (.ref b1), .unset, .unset]) rfl k) ?_
  show Go p e below Φ T1 (mkF m 16 #[.val (.int i0), .val (.long i1), .second, .val (.int x7), .val (.ref b1), .unset, .unset] [])
  refine Go.of (fun t k => XS.aload X1.here hx rfl (hb hby at_16) rfl rfl  k) ?_
  show Go p e below Φ T1 (mkF m 18 #[.val (.int i0), .val (.long i1), .second, .val (.int x7), .val (.ref b1), .unset, .unset] [(.ref b1)])
  refine Go.of (fun t k => XS.iconst X1.here hx rfl (hb hby at_18) k) ?_
  show Go p e below Φ T1 (mkF m 19 #[.val (.int i0), .val (.long i1), .second, .val (.int x7), .val (.ref b1), .unset, .unset] [(.int (0 : Int32)), (.ref b1)])
  refine Go.of (fun t k => XS.bipush X1.here hx rfl (hb hby at_19) k) ?_
  show Go p e below Φ T1 (mkF m 21 #[.val (.int i0), .val (.long i1), .second, .val (.int x7), .val (.ref b1), .unset, .unset] [(.int (115 : Int32)), (.int (0 : Int32)), (.ref b1)])
  obtain ⟨cl21, Ar21, q21, S21, N21, H21, G21⟩ := id V_b1
  have hin21 : ¬ ((0 : Int32) < 0 ∨ cl21.slots.size ≤ ((0 : Int32)).toNatClampNeg) := inb_of S21 ⟨by decide, own_lt8 i0 x7 x12 hx7 hx12 (by decide)⟩
  obtain ⟨T2, h2, X2, e2, W2, st2⟩ := stB X1 hx hZ e1 Ar21 (j := (0 : Int32)) hin21 (g := (mkF m 21 #[.val (.int i0), .val (.long i1), .second, .val (.int x7), .val (.ref b1), .unset, .unset] [(.int (115 : Int32)), (.int (0 : Int32)), (.ref b1)])) rfl rfl (hb hby at_21)
  have V_b1 : Arv Z h2 b1 k1 .byte x12 [(.int (nar .byte (115 : Int32))), (.int (0 : Int32)), (.int (0 : Int32)), (.int (0 : Int32)), (.int (0 : Int32)), (.int (0 : Int32)), (.int (0 : Int32)), (.int (0 : Int32)), (.int (0 : Int32)), (.int (0 : Int32)), (.int (0 : Int32)), (.int (0 : Int32)), (.int (0 : Int32)), (.int (0 : Int32)), (.int (0 : Int32)), (.int (0 : Int32))] (.int (0 : Int32)) := Arv.set Ar21 q21 S21 N21 H21 G21 (fits_nar_byte _) W2 0 rfl (Nat.le_of_ble_eq_true rfl)
  have N2 := Fr.snoc X2 N0 g_b1
  have Z2 := Nat.le_trans Z1 (Keep.of_wr W2).1
  have O2 := O1.wr W2 g_b1
  obtain ⟨lc2, X2, N2⟩ : ∃ lc, Stand p l e room_1 s m #[(.int i0), (.long i1)] below meth c T2 lc 1 16 ∧ Fr n0 lc := ⟨_, X2, N2⟩
  refine Go.of st2 ?_
  show Go p e below Φ T2 (mkF m 22 #[.val (.int i0), .val (.long i1), .second, .val (.int x7), .val (.ref b1), .unset, .unset] [])
  refine Go.of (fun t k => XS.aload X2.here hx rfl (hb hby at_22) rfl rfl  k) ?_
  show Go p e below Φ T2 (mkF m 24 #[.val (.int i0), .val (.long i1), .second, .val (.int x7), .val (.ref b1), .unset, .unset] [(.ref b1)])
  refine Go.of (fun t k => XS.iconst X2.here hx rfl (hb hby at_24) k) ?_
  show Go p e below Φ T2 (mkF m 25 #[.val (.int i0), .val (.long i1), .second, .val (.int x7), .val (.ref b1), .unset, .unset] [(.int (1 : Int32)), (.ref b1)])
  refine Go.of (fun t k => XS.bipush X2.here hx rfl (hb hby at_25) k) ?_
  show Go p e below Φ T2 (mkF m 27 #[.val (.int i0), .val (.long i1), .second, .val (.int x7), .val (.ref b1), .unset, .unset] [(.int (116 : Int32)), (.int (1 : Int32)), (.ref b1)])
  obtain ⟨cl27, Ar27, q27, S27, N27, H27, G27⟩ := id V_b1
  have hin27 : ¬ ((1 : Int32) < 0 ∨ cl27.slots.size ≤ ((1 : Int32)).toNatClampNeg) := inb_of S27 ⟨by decide, own_lt8 i0 x7 x12 hx7 hx12 (by decide)⟩
  obtain ⟨T3, h3, X3, e3, W3, st3⟩ := stB X2 hx hZ e2 Ar27 (j := (1 : Int32)) hin27 (g := (mkF m 27 #[.val (.int i0), .val (.long i1), .second, .val (.int x7), .val (.ref b1), .unset, .unset] [(.int (116 : Int32)), (.int (1 : Int32)), (.ref b1)])) rfl rfl (hb hby at_27)
  have V_b1 : Arv Z h3 b1 k1 .byte x12 [(.int (nar .byte (115 : Int32))), (.int (nar .byte (116 : Int32))), (.int (0 : Int32)), (.int (0 : Int32)), (.int (0 : Int32)), (.int (0 : Int32)), (.int (0 : Int32)), (.int (0 : Int32)), (.int (0 : Int32)), (.int (0 : Int32)), (.int (0 : Int32)), (.int (0 : Int32)), (.int (0 : Int32)), (.int (0 : Int32)), (.int (0 : Int32)), (.int (0 : Int32))] (.int (0 : Int32)) := Arv.set Ar27 q27 S27 N27 H27 G27 (fits_nar_byte _) W3 1 rfl (Nat.le_of_ble_eq_true rfl)
  have N3 := Fr.snoc X3 N2 g_b1
  have Z3 := Nat.le_trans Z2 (Keep.of_wr W3).1
  have O3 := O2.wr W3 g_b1
  obtain ⟨lc3, X3, N3⟩ : ∃ lc, Stand p l e room_1 s m #[(.int i0), (.long i1)] below meth c T3 lc 1 16 ∧ Fr n0 lc := ⟨_, X3, N3⟩
  refine Go.of st3 ?_
  show Go p e below Φ T3 (mkF m 28 #[.val (.int i0), .val (.long i1), .second, .val (.int x7), .val (.ref b1), .unset, .unset] [])
  refine Go.of (fun t k => XS.aload X3.here hx rfl (hb hby at_28) rfl rfl  k) ?_
  show Go p e below Φ T3 (mkF m 30 #[.val (.int i0), .val (.long i1), .second, .val (.int x7), .val (.ref b1), .unset, .unset] [(.ref b1)])
  refine Go.of (fun t k => XS.iconst X3.here hx rfl (hb hby at_30) k) ?_
  show Go p e below Φ T3 (mkF m 31 #[.val (.int i0), .val (.long i1), .second, .val (.int x7), .val (.ref b1), .unset, .unset] [(.int (2 : Int32)), (.ref b1)])
  refine Go.of (fun t k => XS.bipush X3.here hx rfl (hb hby at_31) k) ?_
  show Go p e below Φ T3 (mkF m 33 #[.val (.int i0), .val (.long i1), .second, .val (.int x7), .val (.ref b1), .unset, .unset] [(.int (97 : Int32)), (.int (2 : Int32)), (.ref b1)])
  obtain ⟨cl33, Ar33, q33, S33, N33, H33, G33⟩ := id V_b1
  have hin33 : ¬ ((2 : Int32) < 0 ∨ cl33.slots.size ≤ ((2 : Int32)).toNatClampNeg) := inb_of S33 ⟨by decide, own_lt8 i0 x7 x12 hx7 hx12 (by decide)⟩
  obtain ⟨T4, h4, X4, e4, W4, st4⟩ := stB X3 hx hZ e3 Ar33 (j := (2 : Int32)) hin33 (g := (mkF m 33 #[.val (.int i0), .val (.long i1), .second, .val (.int x7), .val (.ref b1), .unset, .unset] [(.int (97 : Int32)), (.int (2 : Int32)), (.ref b1)])) rfl rfl (hb hby at_33)
  have V_b1 : Arv Z h4 b1 k1 .byte x12 [(.int (nar .byte (115 : Int32))), (.int (nar .byte (116 : Int32))), (.int (nar .byte (97 : Int32))), (.int (0 : Int32)), (.int (0 : Int32)), (.int (0 : Int32)), (.int (0 : Int32)), (.int (0 : Int32)), (.int (0 : Int32)), (.int (0 : Int32)), (.int (0 : Int32)), (.int (0 : Int32)), (.int (0 : Int32)), (.int (0 : Int32)), (.int (0 : Int32)), (.int (0 : Int32))] (.int (0 : Int32)) := Arv.set Ar33 q33 S33 N33 H33 G33 (fits_nar_byte _) W4 2 rfl (Nat.le_of_ble_eq_true rfl)
  have N4 := Fr.snoc X4 N3 g_b1
  have Z4 := Nat.le_trans Z3 (Keep.of_wr W4).1
  have O4 := O3.wr W4 g_b1
  obtain ⟨lc4, X4, N4⟩ : ∃ lc, Stand p l e room_1 s m #[(.int i0), (.long i1)] below meth c T4 lc 1 16 ∧ Fr n0 lc := ⟨_, X4, N4⟩
  refine Go.of st4 ?_
  show Go p e below Φ T4 (mkF m 34 #[.val (.int i0), .val (.long i1), .second, .val (.int x7), .val (.ref b1), .unset, .unset] [])
  refine Go.of (fun t k => XS.aload X4.here hx rfl (hb hby at_34) rfl rfl  k) ?_
  show Go p e below Φ T4 (mkF m 36 #[.val (.int i0), .val (.long i1), .second, .val (.int x7), .val (.ref b1), .unset, .unset] [(.ref b1)])
  refine Go.of (fun t k => XS.iconst X4.here hx rfl (hb hby at_36) k) ?_
  show Go p e below Φ T4 (mkF m 37 #[.val (.int i0), .val (.long i1), .second, .val (.int x7), .val (.ref b1), .unset, .unset] [(.int (3 : Int32)), (.ref b1)])
  refine Go.of (fun t k => XS.bipush X4.here hx rfl (hb hby at_37) k) ?_
  show Go p e below Φ T4 (mkF m 39 #[.val (.int i0), .val (.long i1), .second, .val (.int x7), .val (.ref b1), .unset, .unset] [(.int (103 : Int32)), (.int (3 : Int32)), (.ref b1)])
  obtain ⟨cl39, Ar39, q39, S39, N39, H39, G39⟩ := id V_b1
  have hin39 : ¬ ((3 : Int32) < 0 ∨ cl39.slots.size ≤ ((3 : Int32)).toNatClampNeg) := inb_of S39 ⟨by decide, own_lt8 i0 x7 x12 hx7 hx12 (by decide)⟩
  obtain ⟨T5, h5, X5, e5, W5, st5⟩ := stB X4 hx hZ e4 Ar39 (j := (3 : Int32)) hin39 (g := (mkF m 39 #[.val (.int i0), .val (.long i1), .second, .val (.int x7), .val (.ref b1), .unset, .unset] [(.int (103 : Int32)), (.int (3 : Int32)), (.ref b1)])) rfl rfl (hb hby at_39)
  have V_b1 : Arv Z h5 b1 k1 .byte x12 [(.int (nar .byte (115 : Int32))), (.int (nar .byte (116 : Int32))), (.int (nar .byte (97 : Int32))), (.int (nar .byte (103 : Int32))), (.int (0 : Int32)), (.int (0 : Int32)), (.int (0 : Int32)), (.int (0 : Int32)), (.int (0 : Int32)), (.int (0 : Int32)), (.int (0 : Int32)), (.int (0 : Int32)), (.int (0 : Int32)), (.int (0 : Int32)), (.int (0 : Int32)), (.int (0 : Int32))] (.int (0 : Int32)) := Arv.set Ar39 q39 S39 N39 H39 G39 (fits_nar_byte _) W5 3 rfl (Nat.le_of_ble_eq_true rfl)
  have N5 := Fr.snoc X5 N4 g_b1
  have Z5 := Nat.le_trans Z4 (Keep.of_wr W5).1
  have O5 := O4.wr W5 g_b1
  obtain ⟨lc5, X5, N5⟩ : ∃ lc, Stand p l e room_1 s m #[(.int i0), (.long i1)] below meth c T5 lc 1 16 ∧ Fr n0 lc := ⟨_, X5, N5⟩
  refine Go.of st5 ?_
  show Go p e below Φ T5 (mkF m 40 #[.val (.int i0), .val (.long i1), .second, .val (.int x7), .val (.ref b1), .unset, .unset] [])
  refine Go.of (fun t k => XS.aload X5.here hx rfl (hb hby at_40) rfl rfl  k) ?_
  show Go p e below Φ T5 (mkF m 42 #[.val (.int i0), .val (.long i1), .second, .val (.int x7), .val (.ref b1), .unset, .unset] [(.ref b1)])
  refine Go.of (fun t k => XS.iconst X5.here hx rfl (hb hby at_42) k) ?_
  show Go p e below Φ T5 (mkF m 43 #[.val (.int i0), .val (.long i1), .second, .val (.int x7), .val (.ref b1), .unset, .unset] [(.int (4 : Int32)), (.ref b1)])
  refine Go.of (fun t k => XS.bipush X5.here hx rfl (hb hby at_43) k) ?_
  show Go p e below Φ T5 (mkF m 45 #[.val (.int i0), .val (.long i1), .second, .val (.int x7), .val (.ref b1), .unset, .unset] [(.int (101 : Int32)), (.int (4 : Int32)), (.ref b1)])
  obtain ⟨cl45, Ar45, q45, S45, N45, H45, G45⟩ := id V_b1
  have hin45 : ¬ ((4 : Int32) < 0 ∨ cl45.slots.size ≤ ((4 : Int32)).toNatClampNeg) := inb_of S45 ⟨by decide, own_lt8 i0 x7 x12 hx7 hx12 (by decide)⟩
  obtain ⟨T6, h6, X6, e6, W6, st6⟩ := stB X5 hx hZ e5 Ar45 (j := (4 : Int32)) hin45 (g := (mkF m 45 #[.val (.int i0), .val (.long i1), .second, .val (.int x7), .val (.ref b1), .unset, .unset] [(.int (101 : Int32)), (.int (4 : Int32)), (.ref b1)])) rfl rfl (hb hby at_45)
  have V_b1 : Arv Z h6 b1 k1 .byte x12 [(.int (nar .byte (115 : Int32))), (.int (nar .byte (116 : Int32))), (.int (nar .byte (97 : Int32))), (.int (nar .byte (103 : Int32))), (.int (nar .byte (101 : Int32))), (.int (0 : Int32)), (.int (0 : Int32)), (.int (0 : Int32)), (.int (0 : Int32)), (.int (0 : Int32)), (.int (0 : Int32)), (.int (0 : Int32)), (.int (0 : Int32)), (.int (0 : Int32)), (.int (0 : Int32)), (.int (0 : Int32))] (.int (0 : Int32)) := Arv.set Ar45 q45 S45 N45 H45 G45 (fits_nar_byte _) W6 4 rfl (Nat.le_of_ble_eq_true rfl)
  have N6 := Fr.snoc X6 N5 g_b1
  have Z6 := Nat.le_trans Z5 (Keep.of_wr W6).1
  have O6 := O5.wr W6 g_b1
  obtain ⟨lc6, X6, N6⟩ : ∃ lc, Stand p l e room_1 s m #[(.int i0), (.long i1)] below meth c T6 lc 1 16 ∧ Fr n0 lc := ⟨_, X6, N6⟩
  refine Go.of st6 ?_
  show Go p e below Φ T6 (mkF m 46 #[.val (.int i0), .val (.long i1), .second, .val (.int x7), .val (.ref b1), .unset, .unset] [])
  refine Go.of (fun t k => XS.aload X6.here hx rfl (hb hby at_46) rfl rfl  k) ?_
  show Go p e below Φ T6 (mkF m 48 #[.val (.int i0), .val (.long i1), .second, .val (.int x7), .val (.ref b1), .unset, .unset] [(.ref b1)])
  refine Go.of (fun t k => XS.iconst X6.here hx rfl (hb hby at_48) k) ?_
  show Go p e below Φ T6 (mkF m 49 #[.val (.int i0), .val (.long i1), .second, .val (.int x7), .val (.ref b1), .unset, .unset] [(.int (5 : Int32)), (.ref b1)])
  refine Go.of (fun t k => XS.bipush X6.here hx rfl (hb hby at_49) k) ?_
  show Go p e below Φ T6 (mkF m 51 #[.val (.int i0), .val (.long i1), .second, .val (.int x7), .val (.ref b1), .unset, .unset] [(.int (100 : Int32)), (.int (5 : Int32)), (.ref b1)])
  obtain ⟨cl51, Ar51, q51, S51, N51, H51, G51⟩ := id V_b1
  have hin51 : ¬ ((5 : Int32) < 0 ∨ cl51.slots.size ≤ ((5 : Int32)).toNatClampNeg) := inb_of S51 ⟨by decide, own_lt8 i0 x7 x12 hx7 hx12 (by decide)⟩
  obtain ⟨T7, h7, X7, e7, W7, st7⟩ := stB X6 hx hZ e6 Ar51 (j := (5 : Int32)) hin51 (g := (mkF m 51 #[.val (.int i0), .val (.long i1), .second, .val (.int x7), .val (.ref b1), .unset, .unset] [(.int (100 : Int32)), (.int (5 : Int32)), (.ref b1)])) rfl rfl (hb hby at_51)
  have V_b1 : Arv Z h7 b1 k1 .byte x12 [(.int (nar .byte (115 : Int32))), (.int (nar .byte (116 : Int32))), (.int (nar .byte (97 : Int32))), (.int (nar .byte (103 : Int32))), (.int (nar .byte (101 : Int32))), (.int (nar .byte (100 : Int32))), (.int (0 : Int32)), (.int (0 : Int32)), (.int (0 : Int32)), (.int (0 : Int32)), (.int (0 : Int32)), (.int (0 : Int32)), (.int (0 : Int32)), (.int (0 : Int32)), (.int (0 : Int32)), (.int (0 : Int32))] (.int (0 : Int32)) := Arv.set Ar51 q51 S51 N51 H51 G51 (fits_nar_byte _) W7 5 rfl (Nat.le_of_ble_eq_true rfl)
  have N7 := Fr.snoc X7 N6 g_b1
  have Z7 := Nat.le_trans Z6 (Keep.of_wr W7).1
  have O7 := O6.wr W7 g_b1
  obtain ⟨lc7, X7, N7⟩ : ∃ lc, Stand p l e room_1 s m #[(.int i0), (.long i1)] below meth c T7 lc 1 16 ∧ Fr n0 lc := ⟨_, X7, N7⟩
  refine Go.of st7 ?_
  show Go p e below Φ T7 (mkF m 52 #[.val (.int i0), .val (.long i1), .second, .val (.int x7), .val (.ref b1), .unset, .unset] [])
  refine Go.of (fun t k => XS.aload X7.here hx rfl (hb hby at_52) rfl rfl  k) ?_
  show Go p e below Φ T7 (mkF m 54 #[.val (.int i0), .val (.long i1), .second, .val (.int x7), .val (.ref b1), .unset, .unset] [(.ref b1)])
  refine Go.of (fun t k => XS.bipush X7.here hx rfl (hb hby at_54) k) ?_
  show Go p e below Φ T7 (mkF m 56 #[.val (.int i0), .val (.long i1), .second, .val (.int x7), .val (.ref b1), .unset, .unset] [(.int (6 : Int32)), (.ref b1)])
  refine Go.of (fun t k => XS.bipush X7.here hx rfl (hb hby at_56) k) ?_
  show Go p e below Φ T7 (mkF m 58 #[.val (.int i0), .val (.long i1), .second, .val (.int x7), .val (.ref b1), .unset, .unset] [(.int (47 : Int32)), (.int (6 : Int32)), (.ref b1)])
  obtain ⟨cl58, Ar58, q58, S58, N58, H58, G58⟩ := id V_b1
  have hin58 : ¬ ((6 : Int32) < 0 ∨ cl58.slots.size ≤ ((6 : Int32)).toNatClampNeg) := inb_of S58 ⟨by decide, own_lt8 i0 x7 x12 hx7 hx12 (by decide)⟩
  obtain ⟨T8, h8, X8, e8, W8, st8⟩ := stB X7 hx hZ e7 Ar58 (j := (6 : Int32)) hin58 (g := (mkF m 58 #[.val (.int i0), .val (.long i1), .second, .val (.int x7), .val (.ref b1), .unset, .unset] [(.int (47 : Int32)), (.int (6 : Int32)), (.ref b1)])) rfl rfl (hb hby at_58)
  have V_b1 : Arv Z h8 b1 k1 .byte x12 [(.int (nar .byte (115 : Int32))), (.int (nar .byte (116 : Int32))), (.int (nar .byte (97 : Int32))), (.int (nar .byte (103 : Int32))), (.int (nar .byte (101 : Int32))), (.int (nar .byte (100 : Int32))), (.int (nar .byte (47 : Int32))), (.int (0 : Int32)), (.int (0 : Int32)), (.int (0 : Int32)), (.int (0 : Int32)), (.int (0 : Int32)), (.int (0 : Int32)), (.int (0 : Int32)), (.int (0 : Int32)), (.int (0 : Int32))] (.int (0 : Int32)) := Arv.set Ar58 q58 S58 N58 H58 G58 (fits_nar_byte _) W8 6 rfl (Nat.le_of_ble_eq_true rfl)
  have N8 := Fr.snoc X8 N7 g_b1
  have Z8 := Nat.le_trans Z7 (Keep.of_wr W8).1
  have O8 := O7.wr W8 g_b1
  obtain ⟨lc8, X8, N8⟩ : ∃ lc, Stand p l e room_1 s m #[(.int i0), (.long i1)] below meth c T8 lc 1 16 ∧ Fr n0 lc := ⟨_, X8, N8⟩
  refine Go.of st8 ?_
  show Go p e below Φ T8 (mkF m 59 #[.val (.int i0), .val (.long i1), .second, .val (.int x7), .val (.ref b1), .unset, .unset] [])
  refine Go.of (fun t k => XS.aload X8.here hx rfl (hb hby at_59) rfl rfl  k) ?_
  show Go p e below Φ T8 (mkF m 61 #[.val (.int i0), .val (.long i1), .second, .val (.int x7), .val (.ref b1), .unset, .unset] [(.ref b1)])
  refine Go.of (fun t k => XS.bipush X8.here hx rfl (hb hby at_61) k) ?_
  show Go p e below Φ T8 (mkF m 63 #[.val (.int i0), .val (.long i1), .second, .val (.int x7), .val (.ref b1), .unset, .unset] [(.int (7 : Int32)), (.ref b1)])
  refine Go.of (fun t k => XS.iconst X8.here hx rfl (hb hby at_63) k) ?_
  show Go p e below Φ T8 (mkF m 64 #[.val (.int i0), .val (.long i1), .second, .val (.int x7), .val (.ref b1), .unset, .unset] [(.int (0 : Int32)), (.int (7 : Int32)), (.ref b1)])
  obtain ⟨cl64, Ar64, q64, S64, N64, H64, G64⟩ := id V_b1
  have hin64 : ¬ ((7 : Int32) < 0 ∨ cl64.slots.size ≤ ((7 : Int32)).toNatClampNeg) := inb_of S64 ⟨by decide, own_lt8 i0 x7 x12 hx7 hx12 (by decide)⟩
  obtain ⟨T9, h9, X9, e9, W9, st9⟩ := stB X8 hx hZ e8 Ar64 (j := (7 : Int32)) hin64 (g := (mkF m 64 #[.val (.int i0), .val (.long i1), .second, .val (.int x7), .val (.ref b1), .unset, .unset] [(.int (0 : Int32)), (.int (7 : Int32)), (.ref b1)])) rfl rfl (hb hby at_64)
  have V_b1 : Arv Z h9 b1 k1 .byte x12 [(.int (nar .byte (115 : Int32))), (.int (nar .byte (116 : Int32))), (.int (nar .byte (97 : Int32))), (.int (nar .byte (103 : Int32))), (.int (nar .byte (101 : Int32))), (.int (nar .byte (100 : Int32))), (.int (nar .byte (47 : Int32))), (.int (nar .byte (0 : Int32))), (.int (0 : Int32)), (.int (0 : Int32)), (.int (0 : Int32)), (.int (0 : Int32)), (.int (0 : Int32)), (.int (0 : Int32)), (.int (0 : Int32)), (.int (0 : Int32))] (.int (0 : Int32)) := Arv.set Ar64 q64 S64 N64 H64 G64 (fits_nar_byte _) W9 7 rfl (Nat.le_of_ble_eq_true rfl)
  have N9 := Fr.snoc X9 N8 g_b1
  have Z9 := Nat.le_trans Z8 (Keep.of_wr W9).1
  have O9 := O8.wr W9 g_b1
  obtain ⟨lc9, X9, N9⟩ : ∃ lc, Stand p l e room_1 s m #[(.int i0), (.long i1)] below meth c T9 lc 1 16 ∧ Fr n0 lc := ⟨_, X9, N9⟩
  refine Go.of st9 ?_
  show Go p e below Φ T9 (mkF m 65 #[.val (.int i0), .val (.long i1), .second, .val (.int x7), .val (.ref b1), .unset, .unset] [])
  refine Go.of (fun t k => XS.aload X9.here hx rfl (hb hby at_65) rfl rfl  k) ?_
  show Go p e below Φ T9 (mkF m 67 #[.val (.int i0), .val (.long i1), .second, .val (.int x7), .val (.ref b1), .unset, .unset] [(.ref b1)])
  refine Go.of (fun t k => XS.iconst X9.here hx rfl (hb hby at_67) k) ?_
  show Go p e below Φ T9 (mkF m 68 #[.val (.int i0), .val (.long i1), .second, .val (.int x7), .val (.ref b1), .unset, .unset] [(.int (0 : Int32)), (.ref b1)])
  refine Go.of (fun t k => XS.lloadN X9.here hx rfl (hb hby at_68) rfl  k) ?_
  show Go p e below Φ T9 (mkF m 69 #[.val (.int i0), .val (.long i1), .second, .val (.int x7), .val (.ref b1), .unset, .unset] [(.long i1), (.int (0 : Int32)), (.ref b1)])
  obtain ⟨_, _, ⟨T10, L10, k10, n10⟩, -, X10, ⟨Lc10, hQ10, l10, y10, z10⟩, st10⟩ := Jvm.LawKit.callS X9 hx (y := (⟨"com/example/dozynki/dozynki/StoreLayoutStagedDefinitionKeyPinLaw", "put", "([BIJ)V"⟩ : MethodName)) hown (mvT hZ (hw _ (List.mem_of_getElem? (i := 1) rfl))) (mvT hZ (hw _ (List.mem_of_getElem? (i := 2) rfl))) (mvT hZ (hw _ (List.mem_of_getElem? (i := 3) rfl))) (mvT hZ (hw _ (List.mem_of_getElem? (i := 4) rfl))) (by decide) (backOf (W := 0) (rm1 l Z a0 hw [] b1 (0 : Int32) i1 k1 x12 [(.int (nar .byte (115 : Int32))), (.int (nar .byte (116 : Int32))), (.int (nar .byte (97 : Int32))), (.int (nar .byte (103 : Int32))), (.int (nar .byte (101 : Int32))), (.int (nar .byte (100 : Int32))), (.int (nar .byte (47 : Int32))), (.int (nar .byte (0 : Int32))), (.int (0 : Int32)), (.int (0 : Int32)), (.int (0 : Int32)), (.int (0 : Int32)), (.int (0 : Int32)), (.int (0 : Int32)), (.int (0 : Int32)), (.int (0 : Int32))] h9 n0 Z9 V_b1 g_b1 (by decide) (by show 8 < 16; decide)) hZ (hw _ (List.mem_of_getElem? (i := 4) rfl)) (hw _ (List.mem_of_getElem? (i := 3) rfl)) (by decide) (by decide)) (g := (mkF m 69 #[.val (.int i0), .val (.long i1), .second, .val (.int x7), .val (.ref b1), .unset, .unset] [(.long i1), (.int (0 : Int32)), (.ref b1)])) rfl (by rw [hml]; rfl) (argsL := [(.ref b1), (.int (0 : Int32)), (.long i1)]) (rest := []) (lenOf own_pd4 rfl) rfl (by show 2 * 0 + _ ≤ _; exact Nat.le_of_eq rfl) (hb hby at_69) (fun _ _ => ⟨rfl, e9, (by decide : 1 + 0 ≤ _), (by decide : 16 + 0 ≤ _)⟩)
  dsimp only [Pt.U, Pt.locs, Pt.cells, Pt.slots] at X10 l10 y10 z10 st10 hQ10
  subst l10 y10 z10
  obtain ⟨rfl, N10q, K10q, cV10⟩ := hQ10
  have N10 := Fr.app N9 N10q
  obtain ⟨lc10, X10, N10⟩ : ∃ lc, Stand p l e room_1 s m #[(.int i0), (.long i1)] below meth c T10 lc 1 16 ∧ Fr n0 lc := ⟨_, X10, N10⟩
  have Z10 := Nat.le_trans Z9 K10q.1
  have O10 := O9.keep K10q (allS g_b1 all0)
  have V_b1 : Arv Z T10.heap b1 k1 .byte x12 [(.int (nar .byte (115 : Int32))), (.int (nar .byte (116 : Int32))), (.int (nar .byte (97 : Int32))), (.int (nar .byte (103 : Int32))), (.int (nar .byte (101 : Int32))), (.int (nar .byte (100 : Int32))), (.int (nar .byte (47 : Int32))), (.int (nar .byte (0 : Int32))), (.int (nar .byte (own_at i1 (0 : Int32)))), (.int (0 : Int32)), (.int (0 : Int32)), (.int (0 : Int32)), (.int (0 : Int32)), (.int (0 : Int32)), (.int (0 : Int32)), (.int (0 : Int32))] (.int (0 : Int32)) := cV10
  refine Go.of st10 ?_
  show Go p e below Φ T10 (mkF m 72 #[.val (.int i0), .val (.long i1), .second, .val (.int x7), .val (.ref b1), .unset, .unset] [])
  refine Go.of (fun t k => XS.aload X10.here hx rfl (hb hby at_72) rfl rfl  k) ?_
  show Go p e below Φ T10 (mkF m 74 #[.val (.int i0), .val (.long i1), .second, .val (.int x7), .val (.ref b1), .unset, .unset] [(.ref b1)])
  refine Go.of (fun t k => XS.iconst X10.here hx rfl (hb hby at_74) k) ?_
  show Go p e below Φ T10 (mkF m 75 #[.val (.int i0), .val (.long i1), .second, .val (.int x7), .val (.ref b1), .unset, .unset] [(.int (1 : Int32)), (.ref b1)])
  refine Go.of (fun t k => XS.lloadN X10.here hx rfl (hb hby at_75) rfl  k) ?_
  show Go p e below Φ T10 (mkF m 76 #[.val (.int i0), .val (.long i1), .second, .val (.int x7), .val (.ref b1), .unset, .unset] [(.long i1), (.int (1 : Int32)), (.ref b1)])
  obtain ⟨_, _, ⟨T11, L11, k11, n11⟩, -, X11, ⟨Lc11, hQ11, l11, y11, z11⟩, st11⟩ := Jvm.LawKit.callS X10 hx (y := (⟨"com/example/dozynki/dozynki/StoreLayoutStagedDefinitionKeyPinLaw", "put", "([BIJ)V"⟩ : MethodName)) hown (mvT hZ (hw _ (List.mem_of_getElem? (i := 1) rfl))) (mvT hZ (hw _ (List.mem_of_getElem? (i := 2) rfl))) (mvT hZ (hw _ (List.mem_of_getElem? (i := 3) rfl))) (mvT hZ (hw _ (List.mem_of_getElem? (i := 4) rfl))) (by decide) (backOf (W := 0) (rm1 l Z a0 hw [] b1 (1 : Int32) i1 k1 x12 [(.int (nar .byte (115 : Int32))), (.int (nar .byte (116 : Int32))), (.int (nar .byte (97 : Int32))), (.int (nar .byte (103 : Int32))), (.int (nar .byte (101 : Int32))), (.int (nar .byte (100 : Int32))), (.int (nar .byte (47 : Int32))), (.int (nar .byte (0 : Int32))), (.int (nar .byte (own_at i1 (0 : Int32)))), (.int (0 : Int32)), (.int (0 : Int32)), (.int (0 : Int32)), (.int (0 : Int32)), (.int (0 : Int32)), (.int (0 : Int32)), (.int (0 : Int32))] T10.heap n0 Z10 V_b1 g_b1 (by decide) (by show 9 < 16; decide)) hZ (hw _ (List.mem_of_getElem? (i := 4) rfl)) (hw _ (List.mem_of_getElem? (i := 3) rfl)) (by decide) (by decide)) (g := (mkF m 76 #[.val (.int i0), .val (.long i1), .second, .val (.int x7), .val (.ref b1), .unset, .unset] [(.long i1), (.int (1 : Int32)), (.ref b1)])) rfl (by rw [hml]; rfl) (argsL := [(.ref b1), (.int (1 : Int32)), (.long i1)]) (rest := []) (lenOf own_pd4 rfl) rfl (by show 2 * 0 + _ ≤ _; exact Nat.le_of_eq rfl) (hb hby at_76) (fun _ _ => ⟨rfl, rfl, (by decide : 1 + 0 ≤ _), (by decide : 16 + 0 ≤ _)⟩)
  dsimp only [Pt.U, Pt.locs, Pt.cells, Pt.slots] at X11 l11 y11 z11 st11 hQ11
  subst l11 y11 z11
  obtain ⟨rfl, N11q, K11q, cV11⟩ := hQ11
  have N11 := Fr.app N10 N11q
  obtain ⟨lc11, X11, N11⟩ : ∃ lc, Stand p l e room_1 s m #[(.int i0), (.long i1)] below meth c T11 lc 1 16 ∧ Fr n0 lc := ⟨_, X11, N11⟩
  have Z11 := Nat.le_trans Z10 K11q.1
  have O11 := O10.keep K11q (allS g_b1 all0)
  have V_b1 : Arv Z T11.heap b1 k1 .byte x12 [(.int (nar .byte (115 : Int32))), (.int (nar .byte (116 : Int32))), (.int (nar .byte (97 : Int32))), (.int (nar .byte (103 : Int32))), (.int (nar .byte (101 : Int32))), (.int (nar .byte (100 : Int32))), (.int (nar .byte (47 : Int32))), (.int (nar .byte (0 : Int32))), (.int (nar .byte (own_at i1 (0 : Int32)))), (.int (nar .byte (own_at i1 (1 : Int32)))), (.int (0 : Int32)), (.int (0 : Int32)), (.int (0 : Int32)), (.int (0 : Int32)), (.int (0 : Int32)), (.int (0 : Int32))] (.int (0 : Int32)) := cV11
  refine Go.of st11 ?_
  show Go p e below Φ T11 (mkF m 79 #[.val (.int i0), .val (.long i1), .second, .val (.int x7), .val (.ref b1), .unset, .unset] [])
  refine Go.of (fun t k => XS.aload X11.here hx rfl (hb hby at_79) rfl rfl  k) ?_
  show Go p e below Φ T11 (mkF m 81 #[.val (.int i0), .val (.long i1), .second, .val (.int x7), .val (.ref b1), .unset, .unset] [(.ref b1)])
  refine Go.of (fun t k => XS.iconst X11.here hx rfl (hb hby at_81) k) ?_
  show Go p e below Φ T11 (mkF m 82 #[.val (.int i0), .val (.long i1), .second, .val (.int x7), .val (.ref b1), .unset, .unset] [(.int (2 : Int32)), (.ref b1)])
  refine Go.of (fun t k => XS.lloadN X11.here hx rfl (hb hby at_82) rfl  k) ?_
  show Go p e below Φ T11 (mkF m 83 #[.val (.int i0), .val (.long i1), .second, .val (.int x7), .val (.ref b1), .unset, .unset] [(.long i1), (.int (2 : Int32)), (.ref b1)])
  obtain ⟨_, _, ⟨T12, L12, k12, n12⟩, -, X12, ⟨Lc12, hQ12, l12, y12, z12⟩, st12⟩ := Jvm.LawKit.callS X11 hx (y := (⟨"com/example/dozynki/dozynki/StoreLayoutStagedDefinitionKeyPinLaw", "put", "([BIJ)V"⟩ : MethodName)) hown (mvT hZ (hw _ (List.mem_of_getElem? (i := 1) rfl))) (mvT hZ (hw _ (List.mem_of_getElem? (i := 2) rfl))) (mvT hZ (hw _ (List.mem_of_getElem? (i := 3) rfl))) (mvT hZ (hw _ (List.mem_of_getElem? (i := 4) rfl))) (by decide) (backOf (W := 0) (rm1 l Z a0 hw [] b1 (2 : Int32) i1 k1 x12 [(.int (nar .byte (115 : Int32))), (.int (nar .byte (116 : Int32))), (.int (nar .byte (97 : Int32))), (.int (nar .byte (103 : Int32))), (.int (nar .byte (101 : Int32))), (.int (nar .byte (100 : Int32))), (.int (nar .byte (47 : Int32))), (.int (nar .byte (0 : Int32))), (.int (nar .byte (own_at i1 (0 : Int32)))), (.int (nar .byte (own_at i1 (1 : Int32)))), (.int (0 : Int32)), (.int (0 : Int32)), (.int (0 : Int32)), (.int (0 : Int32)), (.int (0 : Int32)), (.int (0 : Int32))] T11.heap n0 Z11 V_b1 g_b1 (by decide) (by show 10 < 16; decide)) hZ (hw _ (List.mem_of_getElem? (i := 4) rfl)) (hw _ (List.mem_of_getElem? (i := 3) rfl)) (by decide) (by decide)) (g := (mkF m 83 #[.val (.int i0), .val (.long i1), .second, .val (.int x7), .val (.ref b1), .unset, .unset] [(.long i1), (.int (2 : Int32)), (.ref b1)])) rfl (by rw [hml]; rfl) (argsL := [(.ref b1), (.int (2 : Int32)), (.long i1)]) (rest := []) (lenOf own_pd4 rfl) rfl (by show 2 * 0 + _ ≤ _; exact Nat.le_of_eq rfl) (hb hby at_83) (fun _ _ => ⟨rfl, rfl, (by decide : 1 + 0 ≤ _), (by decide : 16 + 0 ≤ _)⟩)
  dsimp only [Pt.U, Pt.locs, Pt.cells, Pt.slots] at X12 l12 y12 z12 st12 hQ12
  subst l12 y12 z12
  obtain ⟨rfl, N12q, K12q, cV12⟩ := hQ12
  have N12 := Fr.app N11 N12q
  obtain ⟨lc12, X12, N12⟩ : ∃ lc, Stand p l e room_1 s m #[(.int i0), (.long i1)] below meth c T12 lc 1 16 ∧ Fr n0 lc := ⟨_, X12, N12⟩
  have Z12 := Nat.le_trans Z11 K12q.1
  have O12 := O11.keep K12q (allS g_b1 all0)
  have V_b1 : Arv Z T12.heap b1 k1 .byte x12 [(.int (nar .byte (115 : Int32))), (.int (nar .byte (116 : Int32))), (.int (nar .byte (97 : Int32))), (.int (nar .byte (103 : Int32))), (.int (nar .byte (101 : Int32))), (.int (nar .byte (100 : Int32))), (.int (nar .byte (47 : Int32))), (.int (nar .byte (0 : Int32))), (.int (nar .byte (own_at i1 (0 : Int32)))), (.int (nar .byte (own_at i1 (1 : Int32)))), (.int (nar .byte (own_at i1 (2 : Int32)))), (.int (0 : Int32)), (.int (0 : Int32)), (.int (0 : Int32)), (.int (0 : Int32)), (.int (0 : Int32))] (.int (0 : Int32)) := cV12
  refine Go.of st12 ?_
  show Go p e below Φ T12 (mkF m 86 #[.val (.int i0), .val (.long i1), .second, .val (.int x7), .val (.ref b1), .unset, .unset] [])
  refine Go.of (fun t k => XS.aload X12.here hx rfl (hb hby at_86) rfl rfl  k) ?_
  show Go p e below Φ T12 (mkF m 88 #[.val (.int i0), .val (.long i1), .second, .val (.int x7), .val (.ref b1), .unset, .unset] [(.ref b1)])
  refine Go.of (fun t k => XS.iconst X12.here hx rfl (hb hby at_88) k) ?_
  show Go p e below Φ T12 (mkF m 89 #[.val (.int i0), .val (.long i1), .second, .val (.int x7), .val (.ref b1), .unset, .unset] [(.int (3 : Int32)), (.ref b1)])
  refine Go.of (fun t k => XS.lloadN X12.here hx rfl (hb hby at_89) rfl  k) ?_
  show Go p e below Φ T12 (mkF m 90 #[.val (.int i0), .val (.long i1), .second, .val (.int x7), .val (.ref b1), .unset, .unset] [(.long i1), (.int (3 : Int32)), (.ref b1)])
  obtain ⟨_, _, ⟨T13, L13, k13, n13⟩, -, X13, ⟨Lc13, hQ13, l13, y13, z13⟩, st13⟩ := Jvm.LawKit.callS X12 hx (y := (⟨"com/example/dozynki/dozynki/StoreLayoutStagedDefinitionKeyPinLaw", "put", "([BIJ)V"⟩ : MethodName)) hown (mvT hZ (hw _ (List.mem_of_getElem? (i := 1) rfl))) (mvT hZ (hw _ (List.mem_of_getElem? (i := 2) rfl))) (mvT hZ (hw _ (List.mem_of_getElem? (i := 3) rfl))) (mvT hZ (hw _ (List.mem_of_getElem? (i := 4) rfl))) (by decide) (backOf (W := 0) (rm1 l Z a0 hw [] b1 (3 : Int32) i1 k1 x12 [(.int (nar .byte (115 : Int32))), (.int (nar .byte (116 : Int32))), (.int (nar .byte (97 : Int32))), (.int (nar .byte (103 : Int32))), (.int (nar .byte (101 : Int32))), (.int (nar .byte (100 : Int32))), (.int (nar .byte (47 : Int32))), (.int (nar .byte (0 : Int32))), (.int (nar .byte (own_at i1 (0 : Int32)))), (.int (nar .byte (own_at i1 (1 : Int32)))), (.int (nar .byte (own_at i1 (2 : Int32)))), (.int (0 : Int32)), (.int (0 : Int32)), (.int (0 : Int32)), (.int (0 : Int32)), (.int (0 : Int32))] T12.heap n0 Z12 V_b1 g_b1 (by decide) (by show 11 < 16; decide)) hZ (hw _ (List.mem_of_getElem? (i := 4) rfl)) (hw _ (List.mem_of_getElem? (i := 3) rfl)) (by decide) (by decide)) (g := (mkF m 90 #[.val (.int i0), .val (.long i1), .second, .val (.int x7), .val (.ref b1), .unset, .unset] [(.long i1), (.int (3 : Int32)), (.ref b1)])) rfl (by rw [hml]; rfl) (argsL := [(.ref b1), (.int (3 : Int32)), (.long i1)]) (rest := []) (lenOf own_pd4 rfl) rfl (by show 2 * 0 + _ ≤ _; exact Nat.le_of_eq rfl) (hb hby at_90) (fun _ _ => ⟨rfl, rfl, (by decide : 1 + 0 ≤ _), (by decide : 16 + 0 ≤ _)⟩)
  dsimp only [Pt.U, Pt.locs, Pt.cells, Pt.slots] at X13 l13 y13 z13 st13 hQ13
  subst l13 y13 z13
  obtain ⟨rfl, N13q, K13q, cV13⟩ := hQ13
  have N13 := Fr.app N12 N13q
  obtain ⟨lc13, X13, N13⟩ : ∃ lc, Stand p l e room_1 s m #[(.int i0), (.long i1)] below meth c T13 lc 1 16 ∧ Fr n0 lc := ⟨_, X13, N13⟩
  have Z13 := Nat.le_trans Z12 K13q.1
  have O13 := O12.keep K13q (allS g_b1 all0)
  have V_b1 : Arv Z T13.heap b1 k1 .byte x12 [(.int (nar .byte (115 : Int32))), (.int (nar .byte (116 : Int32))), (.int (nar .byte (97 : Int32))), (.int (nar .byte (103 : Int32))), (.int (nar .byte (101 : Int32))), (.int (nar .byte (100 : Int32))), (.int (nar .byte (47 : Int32))), (.int (nar .byte (0 : Int32))), (.int (nar .byte (own_at i1 (0 : Int32)))), (.int (nar .byte (own_at i1 (1 : Int32)))), (.int (nar .byte (own_at i1 (2 : Int32)))), (.int (nar .byte (own_at i1 (3 : Int32)))), (.int (0 : Int32)), (.int (0 : Int32)), (.int (0 : Int32)), (.int (0 : Int32))] (.int (0 : Int32)) := cV13
  refine Go.of st13 ?_
  show Go p e below Φ T13 (mkF m 93 #[.val (.int i0), .val (.long i1), .second, .val (.int x7), .val (.ref b1), .unset, .unset] [])
  refine Go.of (fun t k => XS.aload X13.here hx rfl (hb hby at_93) rfl rfl  k) ?_
  show Go p e below Φ T13 (mkF m 95 #[.val (.int i0), .val (.long i1), .second, .val (.int x7), .val (.ref b1), .unset, .unset] [(.ref b1)])
  refine Go.of (fun t k => XS.iconst X13.here hx rfl (hb hby at_95) k) ?_
  show Go p e below Φ T13 (mkF m 96 #[.val (.int i0), .val (.long i1), .second, .val (.int x7), .val (.ref b1), .unset, .unset] [(.int (4 : Int32)), (.ref b1)])
  refine Go.of (fun t k => XS.lloadN X13.here hx rfl (hb hby at_96) rfl  k) ?_
  show Go p e below Φ T13 (mkF m 97 #[.val (.int i0), .val (.long i1), .second, .val (.int x7), .val (.ref b1), .unset, .unset] [(.long i1), (.int (4 : Int32)), (.ref b1)])
  obtain ⟨_, _, ⟨T14, L14, k14, n14⟩, -, X14, ⟨Lc14, hQ14, l14, y14, z14⟩, st14⟩ := Jvm.LawKit.callS X13 hx (y := (⟨"com/example/dozynki/dozynki/StoreLayoutStagedDefinitionKeyPinLaw", "put", "([BIJ)V"⟩ : MethodName)) hown (mvT hZ (hw _ (List.mem_of_getElem? (i := 1) rfl))) (mvT hZ (hw _ (List.mem_of_getElem? (i := 2) rfl))) (mvT hZ (hw _ (List.mem_of_getElem? (i := 3) rfl))) (mvT hZ (hw _ (List.mem_of_getElem? (i := 4) rfl))) (by decide) (backOf (W := 0) (rm1 l Z a0 hw [] b1 (4 : Int32) i1 k1 x12 [(.int (nar .byte (115 : Int32))), (.int (nar .byte (116 : Int32))), (.int (nar .byte (97 : Int32))), (.int (nar .byte (103 : Int32))), (.int (nar .byte (101 : Int32))), (.int (nar .byte (100 : Int32))), (.int (nar .byte (47 : Int32))), (.int (nar .byte (0 : Int32))), (.int (nar .byte (own_at i1 (0 : Int32)))), (.int (nar .byte (own_at i1 (1 : Int32)))), (.int (nar .byte (own_at i1 (2 : Int32)))), (.int (nar .byte (own_at i1 (3 : Int32)))), (.int (0 : Int32)), (.int (0 : Int32)), (.int (0 : Int32)), (.int (0 : Int32))] T13.heap n0 Z13 V_b1 g_b1 (by decide) (by show 12 < 16; decide)) hZ (hw _ (List.mem_of_getElem? (i := 4) rfl)) (hw _ (List.mem_of_getElem? (i := 3) rfl)) (by decide) (by decide)) (g := (mkF m 97 #[.val (.int i0), .val (.long i1), .second, .val (.int x7), .val (.ref b1), .unset, .unset] [(.long i1), (.int (4 : Int32)), (.ref b1)])) rfl (by rw [hml]; rfl) (argsL := [(.ref b1), (.int (4 : Int32)), (.long i1)]) (rest := []) (lenOf own_pd4 rfl) rfl (by show 2 * 0 + _ ≤ _; exact Nat.le_of_eq rfl) (hb hby at_97) (fun _ _ => ⟨rfl, rfl, (by decide : 1 + 0 ≤ _), (by decide : 16 + 0 ≤ _)⟩)
  dsimp only [Pt.U, Pt.locs, Pt.cells, Pt.slots] at X14 l14 y14 z14 st14 hQ14
  subst l14 y14 z14
  obtain ⟨rfl, N14q, K14q, cV14⟩ := hQ14
  have N14 := Fr.app N13 N14q
  obtain ⟨lc14, X14, N14⟩ : ∃ lc, Stand p l e room_1 s m #[(.int i0), (.long i1)] below meth c T14 lc 1 16 ∧ Fr n0 lc := ⟨_, X14, N14⟩
  have Z14 := Nat.le_trans Z13 K14q.1
  have O14 := O13.keep K14q (allS g_b1 all0)
  have V_b1 : Arv Z T14.heap b1 k1 .byte x12 [(.int (nar .byte (115 : Int32))), (.int (nar .byte (116 : Int32))), (.int (nar .byte (97 : Int32))), (.int (nar .byte (103 : Int32))), (.int (nar .byte (101 : Int32))), (.int (nar .byte (100 : Int32))), (.int (nar .byte (47 : Int32))), (.int (nar .byte (0 : Int32))), (.int (nar .byte (own_at i1 (0 : Int32)))), (.int (nar .byte (own_at i1 (1 : Int32)))), (.int (nar .byte (own_at i1 (2 : Int32)))), (.int (nar .byte (own_at i1 (3 : Int32)))), (.int (nar .byte (own_at i1 (4 : Int32)))), (.int (0 : Int32)), (.int (0 : Int32)), (.int (0 : Int32))] (.int (0 : Int32)) := cV14
  refine Go.of st14 ?_
  show Go p e below Φ T14 (mkF m 100 #[.val (.int i0), .val (.long i1), .second, .val (.int x7), .val (.ref b1), .unset, .unset] [])
  refine Go.of (fun t k => XS.aload X14.here hx rfl (hb hby at_100) rfl rfl  k) ?_
  show Go p e below Φ T14 (mkF m 102 #[.val (.int i0), .val (.long i1), .second, .val (.int x7), .val (.ref b1), .unset, .unset] [(.ref b1)])
  refine Go.of (fun t k => XS.iconst X14.here hx rfl (hb hby at_102) k) ?_
  show Go p e below Φ T14 (mkF m 103 #[.val (.int i0), .val (.long i1), .second, .val (.int x7), .val (.ref b1), .unset, .unset] [(.int (5 : Int32)), (.ref b1)])
  refine Go.of (fun t k => XS.lloadN X14.here hx rfl (hb hby at_103) rfl  k) ?_
  show Go p e below Φ T14 (mkF m 104 #[.val (.int i0), .val (.long i1), .second, .val (.int x7), .val (.ref b1), .unset, .unset] [(.long i1), (.int (5 : Int32)), (.ref b1)])
  obtain ⟨_, _, ⟨T15, L15, k15, n15⟩, -, X15, ⟨Lc15, hQ15, l15, y15, z15⟩, st15⟩ := Jvm.LawKit.callS X14 hx (y := (⟨"com/example/dozynki/dozynki/StoreLayoutStagedDefinitionKeyPinLaw", "put", "([BIJ)V"⟩ : MethodName)) hown (mvT hZ (hw _ (List.mem_of_getElem? (i := 1) rfl))) (mvT hZ (hw _ (List.mem_of_getElem? (i := 2) rfl))) (mvT hZ (hw _ (List.mem_of_getElem? (i := 3) rfl))) (mvT hZ (hw _ (List.mem_of_getElem? (i := 4) rfl))) (by decide) (backOf (W := 0) (rm1 l Z a0 hw [] b1 (5 : Int32) i1 k1 x12 [(.int (nar .byte (115 : Int32))), (.int (nar .byte (116 : Int32))), (.int (nar .byte (97 : Int32))), (.int (nar .byte (103 : Int32))), (.int (nar .byte (101 : Int32))), (.int (nar .byte (100 : Int32))), (.int (nar .byte (47 : Int32))), (.int (nar .byte (0 : Int32))), (.int (nar .byte (own_at i1 (0 : Int32)))), (.int (nar .byte (own_at i1 (1 : Int32)))), (.int (nar .byte (own_at i1 (2 : Int32)))), (.int (nar .byte (own_at i1 (3 : Int32)))), (.int (nar .byte (own_at i1 (4 : Int32)))), (.int (0 : Int32)), (.int (0 : Int32)), (.int (0 : Int32))] T14.heap n0 Z14 V_b1 g_b1 (by decide) (by show 13 < 16; decide)) hZ (hw _ (List.mem_of_getElem? (i := 4) rfl)) (hw _ (List.mem_of_getElem? (i := 3) rfl)) (by decide) (by decide)) (g := (mkF m 104 #[.val (.int i0), .val (.long i1), .second, .val (.int x7), .val (.ref b1), .unset, .unset] [(.long i1), (.int (5 : Int32)), (.ref b1)])) rfl (by rw [hml]; rfl) (argsL := [(.ref b1), (.int (5 : Int32)), (.long i1)]) (rest := []) (lenOf own_pd4 rfl) rfl (by show 2 * 0 + _ ≤ _; exact Nat.le_of_eq rfl) (hb hby at_104) (fun _ _ => ⟨rfl, rfl, (by decide : 1 + 0 ≤ _), (by decide : 16 + 0 ≤ _)⟩)
  dsimp only [Pt.U, Pt.locs, Pt.cells, Pt.slots] at X15 l15 y15 z15 st15 hQ15
  subst l15 y15 z15
  obtain ⟨rfl, N15q, K15q, cV15⟩ := hQ15
  have N15 := Fr.app N14 N15q
  obtain ⟨lc15, X15, N15⟩ : ∃ lc, Stand p l e room_1 s m #[(.int i0), (.long i1)] below meth c T15 lc 1 16 ∧ Fr n0 lc := ⟨_, X15, N15⟩
  have Z15 := Nat.le_trans Z14 K15q.1
  have O15 := O14.keep K15q (allS g_b1 all0)
  have V_b1 : Arv Z T15.heap b1 k1 .byte x12 [(.int (nar .byte (115 : Int32))), (.int (nar .byte (116 : Int32))), (.int (nar .byte (97 : Int32))), (.int (nar .byte (103 : Int32))), (.int (nar .byte (101 : Int32))), (.int (nar .byte (100 : Int32))), (.int (nar .byte (47 : Int32))), (.int (nar .byte (0 : Int32))), (.int (nar .byte (own_at i1 (0 : Int32)))), (.int (nar .byte (own_at i1 (1 : Int32)))), (.int (nar .byte (own_at i1 (2 : Int32)))), (.int (nar .byte (own_at i1 (3 : Int32)))), (.int (nar .byte (own_at i1 (4 : Int32)))), (.int (nar .byte (own_at i1 (5 : Int32)))), (.int (0 : Int32)), (.int (0 : Int32))] (.int (0 : Int32)) := cV15
  refine Go.of st15 ?_
  show Go p e below Φ T15 (mkF m 107 #[.val (.int i0), .val (.long i1), .second, .val (.int x7), .val (.ref b1), .unset, .unset] [])
  refine Go.of (fun t k => XS.aload X15.here hx rfl (hb hby at_107) rfl rfl  k) ?_
  show Go p e below Φ T15 (mkF m 109 #[.val (.int i0), .val (.long i1), .second, .val (.int x7), .val (.ref b1), .unset, .unset] [(.ref b1)])
  refine Go.of (fun t k => XS.bipush X15.here hx rfl (hb hby at_109) k) ?_
  show Go p e below Φ T15 (mkF m 111 #[.val (.int i0), .val (.long i1), .second, .val (.int x7), .val (.ref b1), .unset, .unset] [(.int (6 : Int32)), (.ref b1)])
  refine Go.of (fun t k => XS.lloadN X15.here hx rfl (hb hby at_111) rfl  k) ?_
  show Go p e below Φ T15 (mkF m 112 #[.val (.int i0), .val (.long i1), .second, .val (.int x7), .val (.ref b1), .unset, .unset] [(.long i1), (.int (6 : Int32)), (.ref b1)])
  obtain ⟨_, _, ⟨T16, L16, k16, n16⟩, -, X16, ⟨Lc16, hQ16, l16, y16, z16⟩, st16⟩ := Jvm.LawKit.callS X15 hx (y := (⟨"com/example/dozynki/dozynki/StoreLayoutStagedDefinitionKeyPinLaw", "put", "([BIJ)V"⟩ : MethodName)) hown (mvT hZ (hw _ (List.mem_of_getElem? (i := 1) rfl))) (mvT hZ (hw _ (List.mem_of_getElem? (i := 2) rfl))) (mvT hZ (hw _ (List.mem_of_getElem? (i := 3) rfl))) (mvT hZ (hw _ (List.mem_of_getElem? (i := 4) rfl))) (by decide) (backOf (W := 0) (rm1 l Z a0 hw [] b1 (6 : Int32) i1 k1 x12 [(.int (nar .byte (115 : Int32))), (.int (nar .byte (116 : Int32))), (.int (nar .byte (97 : Int32))), (.int (nar .byte (103 : Int32))), (.int (nar .byte (101 : Int32))), (.int (nar .byte (100 : Int32))), (.int (nar .byte (47 : Int32))), (.int (nar .byte (0 : Int32))), (.int (nar .byte (own_at i1 (0 : Int32)))), (.int (nar .byte (own_at i1 (1 : Int32)))), (.int (nar .byte (own_at i1 (2 : Int32)))), (.int (nar .byte (own_at i1 (3 : Int32)))), (.int (nar .byte (own_at i1 (4 : Int32)))), (.int (nar .byte (own_at i1 (5 : Int32)))), (.int (0 : Int32)), (.int (0 : Int32))] T15.heap n0 Z15 V_b1 g_b1 (by decide) (by show 14 < 16; decide)) hZ (hw _ (List.mem_of_getElem? (i := 4) rfl)) (hw _ (List.mem_of_getElem? (i := 3) rfl)) (by decide) (by decide)) (g := (mkF m 112 #[.val (.int i0), .val (.long i1), .second, .val (.int x7), .val (.ref b1), .unset, .unset] [(.long i1), (.int (6 : Int32)), (.ref b1)])) rfl (by rw [hml]; rfl) (argsL := [(.ref b1), (.int (6 : Int32)), (.long i1)]) (rest := []) (lenOf own_pd4 rfl) rfl (by show 2 * 0 + _ ≤ _; exact Nat.le_of_eq rfl) (hb hby at_112) (fun _ _ => ⟨rfl, rfl, (by decide : 1 + 0 ≤ _), (by decide : 16 + 0 ≤ _)⟩)
  dsimp only [Pt.U, Pt.locs, Pt.cells, Pt.slots] at X16 l16 y16 z16 st16 hQ16
  subst l16 y16 z16
  obtain ⟨rfl, N16q, K16q, cV16⟩ := hQ16
  have N16 := Fr.app N15 N16q
  obtain ⟨lc16, X16, N16⟩ : ∃ lc, Stand p l e room_1 s m #[(.int i0), (.long i1)] below meth c T16 lc 1 16 ∧ Fr n0 lc := ⟨_, X16, N16⟩
  have Z16 := Nat.le_trans Z15 K16q.1
  have O16 := O15.keep K16q (allS g_b1 all0)
  have V_b1 : Arv Z T16.heap b1 k1 .byte x12 [(.int (nar .byte (115 : Int32))), (.int (nar .byte (116 : Int32))), (.int (nar .byte (97 : Int32))), (.int (nar .byte (103 : Int32))), (.int (nar .byte (101 : Int32))), (.int (nar .byte (100 : Int32))), (.int (nar .byte (47 : Int32))), (.int (nar .byte (0 : Int32))), (.int (nar .byte (own_at i1 (0 : Int32)))), (.int (nar .byte (own_at i1 (1 : Int32)))), (.int (nar .byte (own_at i1 (2 : Int32)))), (.int (nar .byte (own_at i1 (3 : Int32)))), (.int (nar .byte (own_at i1 (4 : Int32)))), (.int (nar .byte (own_at i1 (5 : Int32)))), (.int (nar .byte (own_at i1 (6 : Int32)))), (.int (0 : Int32))] (.int (0 : Int32)) := cV16
  refine Go.of st16 ?_
  show Go p e below Φ T16 (mkF m 115 #[.val (.int i0), .val (.long i1), .second, .val (.int x7), .val (.ref b1), .unset, .unset] [])
  refine Go.of (fun t k => XS.aload X16.here hx rfl (hb hby at_115) rfl rfl  k) ?_
  show Go p e below Φ T16 (mkF m 117 #[.val (.int i0), .val (.long i1), .second, .val (.int x7), .val (.ref b1), .unset, .unset] [(.ref b1)])
  refine Go.of (fun t k => XS.bipush X16.here hx rfl (hb hby at_117) k) ?_
  show Go p e below Φ T16 (mkF m 119 #[.val (.int i0), .val (.long i1), .second, .val (.int x7), .val (.ref b1), .unset, .unset] [(.int (7 : Int32)), (.ref b1)])
  refine Go.of (fun t k => XS.lloadN X16.here hx rfl (hb hby at_119) rfl  k) ?_
  show Go p e below Φ T16 (mkF m 120 #[.val (.int i0), .val (.long i1), .second, .val (.int x7), .val (.ref b1), .unset, .unset] [(.long i1), (.int (7 : Int32)), (.ref b1)])
  obtain ⟨_, _, ⟨T17, L17, k17, n17⟩, -, X17, ⟨Lc17, hQ17, l17, y17, z17⟩, st17⟩ := Jvm.LawKit.callS X16 hx (y := (⟨"com/example/dozynki/dozynki/StoreLayoutStagedDefinitionKeyPinLaw", "put", "([BIJ)V"⟩ : MethodName)) hown (mvT hZ (hw _ (List.mem_of_getElem? (i := 1) rfl))) (mvT hZ (hw _ (List.mem_of_getElem? (i := 2) rfl))) (mvT hZ (hw _ (List.mem_of_getElem? (i := 3) rfl))) (mvT hZ (hw _ (List.mem_of_getElem? (i := 4) rfl))) (by decide) (backOf (W := 0) (rm1 l Z a0 hw [] b1 (7 : Int32) i1 k1 x12 [(.int (nar .byte (115 : Int32))), (.int (nar .byte (116 : Int32))), (.int (nar .byte (97 : Int32))), (.int (nar .byte (103 : Int32))), (.int (nar .byte (101 : Int32))), (.int (nar .byte (100 : Int32))), (.int (nar .byte (47 : Int32))), (.int (nar .byte (0 : Int32))), (.int (nar .byte (own_at i1 (0 : Int32)))), (.int (nar .byte (own_at i1 (1 : Int32)))), (.int (nar .byte (own_at i1 (2 : Int32)))), (.int (nar .byte (own_at i1 (3 : Int32)))), (.int (nar .byte (own_at i1 (4 : Int32)))), (.int (nar .byte (own_at i1 (5 : Int32)))), (.int (nar .byte (own_at i1 (6 : Int32)))), (.int (0 : Int32))] T16.heap n0 Z16 V_b1 g_b1 (by decide) (by show 15 < 16; decide)) hZ (hw _ (List.mem_of_getElem? (i := 4) rfl)) (hw _ (List.mem_of_getElem? (i := 3) rfl)) (by decide) (by decide)) (g := (mkF m 120 #[.val (.int i0), .val (.long i1), .second, .val (.int x7), .val (.ref b1), .unset, .unset] [(.long i1), (.int (7 : Int32)), (.ref b1)])) rfl (by rw [hml]; rfl) (argsL := [(.ref b1), (.int (7 : Int32)), (.long i1)]) (rest := []) (lenOf own_pd4 rfl) rfl (by show 2 * 0 + _ ≤ _; exact Nat.le_of_eq rfl) (hb hby at_120) (fun _ _ => ⟨rfl, rfl, (by decide : 1 + 0 ≤ _), (by decide : 16 + 0 ≤ _)⟩)
  dsimp only [Pt.U, Pt.locs, Pt.cells, Pt.slots] at X17 l17 y17 z17 st17 hQ17
  subst l17 y17 z17
  obtain ⟨rfl, N17q, K17q, cV17⟩ := hQ17
  have N17 := Fr.app N16 N17q
  obtain ⟨lc17, X17, N17⟩ : ∃ lc, Stand p l e room_1 s m #[(.int i0), (.long i1)] below meth c T17 lc 1 16 ∧ Fr n0 lc := ⟨_, X17, N17⟩
  have Z17 := Nat.le_trans Z16 K17q.1
  have O17 := O16.keep K17q (allS g_b1 all0)
  have V_b1 : Arv Z T17.heap b1 k1 .byte x12 [(.int (nar .byte (115 : Int32))), (.int (nar .byte (116 : Int32))), (.int (nar .byte (97 : Int32))), (.int (nar .byte (103 : Int32))), (.int (nar .byte (101 : Int32))), (.int (nar .byte (100 : Int32))), (.int (nar .byte (47 : Int32))), (.int (nar .byte (0 : Int32))), (.int (nar .byte (own_at i1 (0 : Int32)))), (.int (nar .byte (own_at i1 (1 : Int32)))), (.int (nar .byte (own_at i1 (2 : Int32)))), (.int (nar .byte (own_at i1 (3 : Int32)))), (.int (nar .byte (own_at i1 (4 : Int32)))), (.int (nar .byte (own_at i1 (5 : Int32)))), (.int (nar .byte (own_at i1 (6 : Int32)))), (.int (nar .byte (own_at i1 (7 : Int32))))] (.int (0 : Int32)) := cV17
  refine Go.of st17 ?_
  show Go p e below Φ T17 (mkF m 123 #[.val (.int i0), .val (.long i1), .second, .val (.int x7), .val (.ref b1), .unset, .unset] [])
  refine Go.of (fun t k => XS.aload X17.here hx rfl (hb hby at_123) rfl rfl  k) ?_
  show Go p e below Φ T17 (mkF m 125 #[.val (.int i0), .val (.long i1), .second, .val (.int x7), .val (.ref b1), .unset, .unset] [(.ref b1)])
  obtain ⟨_, _, ⟨T18, L18, k18, n18⟩, -, X18, ⟨Lc18, hQ18, l18, y18, z18⟩, st18⟩ := Jvm.LawKit.callS X17 hx (y := (⟨"com/example/dozynki/dozynki/StoreLayout", "stagedDefinitionKey", "([B)[B"⟩ : MethodName)) hown (mvT hZ (hw _ (List.mem_of_getElem? (i := 5) rfl))) (mvT hZ (hw _ (List.mem_of_getElem? (i := 6) rfl))) (mvT hZ (hw _ (List.mem_of_getElem? (i := 7) rfl))) (mvT hZ (hw _ (List.mem_of_getElem? (i := 8) rfl))) (by decide) (backOf (W := 0) (rm2 l Z a0 hw [] b1 k1 x12 [(.int (nar .byte (115 : Int32))), (.int (nar .byte (116 : Int32))), (.int (nar .byte (97 : Int32))), (.int (nar .byte (103 : Int32))), (.int (nar .byte (101 : Int32))), (.int (nar .byte (100 : Int32))), (.int (nar .byte (47 : Int32))), (.int (nar .byte (0 : Int32))), (.int (nar .byte (own_at i1 (0 : Int32)))), (.int (nar .byte (own_at i1 (1 : Int32)))), (.int (nar .byte (own_at i1 (2 : Int32)))), (.int (nar .byte (own_at i1 (3 : Int32)))), (.int (nar .byte (own_at i1 (4 : Int32)))), (.int (nar .byte (own_at i1 (5 : Int32)))), (.int (nar .byte (own_at i1 (6 : Int32)))), (.int (nar .byte (own_at i1 (7 : Int32))))] sS clS T17.heap n0 Z17 V_b1 (S_STAGED.ext O17.2) (V_sS.ext O17.2) S_sS (own_k8 i0 x7 x12 hx7 hx12).1 (own_k8 i0 x7 x12 hx7 hx12).2) hZ (hw _ (List.mem_of_getElem? (i := 8) rfl)) (hw _ (List.mem_of_getElem? (i := 7) rfl)) (by decide) (by decide)) (g := (mkF m 125 #[.val (.int i0), .val (.long i1), .second, .val (.int x7), .val (.ref b1), .unset, .unset] [(.ref b1)])) rfl (by rw [hml]; rfl) (argsL := [(.ref b1)]) (rest := []) (lenOf own_pd5 rfl) rfl (by show 2 * 0 + _ ≤ _; exact Nat.le_of_eq rfl) (hb hby at_125) (fun _ _ => ⟨rfl, rfl, (by decide : 1 + 1 ≤ _), (by decide : 16 + 8 ≤ _)⟩)
  dsimp only [Pt.U, Pt.locs, Pt.cells, Pt.slots] at X18 l18 y18 z18 st18 hQ18
  subst l18 y18 z18
  obtain ⟨b18, k18, rfl, N18q, K18q, s18q, cV18⟩ := hQ18
  have N18 := Fr.app N17 N18q
  obtain ⟨lc18, X18, N18⟩ : ∃ lc, Stand p l e room_1 s m #[(.int i0), (.long i1)] below meth c T18 lc 2 24 ∧ Fr n0 lc := ⟨_, X18, N18⟩
  have ne_b1_b18 : b1 ≠ b18 := Nat.ne_of_lt (Nat.lt_of_lt_of_le V_b1.lt s18q)
  have g_b18 : n0 ≤ b18 := Nat.le_trans Z17 s18q
  have V_b1 := V_b1.keep K18q nin0
  have V_b18 := cV18
  have Z18 := Nat.le_trans Z17 K18q.1
  have O18 := O17.keep K18q all0
  refine Go.of st18 ?_
  show Go p e below Φ T18 (mkF m 128 #[.val (.int i0), .val (.long i1), .second, .val (.int x7), .val (.ref b1), .unset, .unset] [(.ref b18)])
  rw [own_xlen i0 x7 x12 hx7 hx12] at V_b18
  show Go p e below Φ T18 (mkF m 128 #[.val (.int i0), .val (.long i1), .second, .val (.int x7), .val (.ref b1), .unset, .unset] [(.ref b18)])
  refine Go.of (fun t k => XS.astore X18.here hx rfl (hb hby at_128) rfl rfl (l' := #[.val (.int i0), .val (.long i1), .second, .val (.int x7), .val (.ref b1), .val (.ref b18), .unset]) rfl k) ?_
  show Go p e below Φ T18 (mkF m 130 #[.val (.int i0), .val (.long i1), .second, .val (.int x7), .val (.ref b1), .val (.ref b18), .unset] [])
  refine Go.of (fun t k => XS.aload X18.here hx rfl (hb hby at_130) rfl rfl  k) ?_
  show Go p e below Φ T18 (mkF m 132 #[.val (.int i0), .val (.long i1), .second, .val (.int x7), .val (.ref b1), .val (.ref b18), .unset] [(.ref b18)])
  refine Go.of (fun t k => XS.ifnullNo X18.here hx rfl (hb hby at_132) rfl k) ?_
  show Go p e below Φ T18 (mkF m 135 #[.val (.int i0), .val (.long i1), .second, .val (.int x7), .val (.ref b1), .val (.ref b18), .unset] [])
  refine Go.of (fun t k => XS.aload X18.here hx rfl (hb hby at_135) rfl rfl  k) ?_
  show Go p e below Φ T18 (mkF m 137 #[.val (.int i0), .val (.long i1), .second, .val (.int x7), .val (.ref b1), .val (.ref b18), .unset] [(.ref b18)])
  obtain ⟨cl137, Ar137, q137, S137, N137, H137, G137⟩ := id V_b18
  refine Go.of (fun t k => X18.arraylength hx (own_at_ rfl Ar137.1) (State.isArrayOf_alike hZ.alike Ar137.2.1) (g := (mkF m 137 #[.val (.int i0), .val (.long i1), .second, .val (.int x7), .val (.ref b1), .val (.ref b18), .unset] [(.ref b18)])) rfl rfl (hb hby at_137) t k) ?_
  rw [len_of S137 N137]
  show Go p e below Φ T18 (mkF m 138 #[.val (.int i0), .val (.long i1), .second, .val (.int x7), .val (.ref b1), .val (.ref b18), .unset] [(.int x7)])
  refine Go.of (fun t k => XS.iloadN X18.here hx rfl (hb hby at_138) rfl  k) ?_
  show Go p e below Φ T18 (mkF m 139 #[.val (.int i0), .val (.long i1), .second, .val (.int x7), .val (.ref b1), .val (.ref b18), .unset] [(.int x7), (.int x7)])
  refine Go.of (fun t k => XS.icmpNo X18.here hx rfl (hb hby at_139) rfl (XT.ii_ne_f rfl) k) ?_
  show Go p e below Φ T18 (mkF m 142 #[.val (.int i0), .val (.long i1), .second, .val (.int x7), .val (.ref b1), .val (.ref b18), .unset] [])
  refine Go.of (fun t k => XS.iconst X18.here hx rfl (hb hby at_142) k) ?_
  show Go p e below Φ T18 (mkF m 143 #[.val (.int i0), .val (.long i1), .second, .val (.int x7), .val (.ref b1), .val (.ref b18), .unset] [(.int (1 : Int32))])
  refine Go.of (fun t k => XS.goto X18.here hx rfl (pc0 := 143) (pc' := 147) rfl (hb hby at_143) (by decide) (by decide) k) ?_
  show Go p e below Φ T18 (mkF m 147 #[.val (.int i0), .val (.long i1), .second, .val (.int x7), .val (.ref b1), .val (.ref b18), .unset] [(.int (1 : Int32))])
  refine Go.of (fun t k => XS.istore X18.here hx rfl (hb hby at_147) rfl (l' := #[.val (.int i0), .val (.long i1), .second, .val (.int x7), .val (.ref b1), .val (.ref b18), .val (.int (1 : Int32))]) rfl k) ?_
  show Go p e below Φ T18 (mkF m 149 #[.val (.int i0), .val (.long i1), .second, .val (.int x7), .val (.ref b1), .val (.ref b18), .val (.int (1 : Int32))] [])
  refine Go.of (fun t k => XS.iload X18.here hx rfl (hb hby at_149) rfl  k) ?_
  show Go p e below Φ T18 (mkF m 151 #[.val (.int i0), .val (.long i1), .second, .val (.int x7), .val (.ref b1), .val (.ref b18), .val (.int (1 : Int32))] [(.int (1 : Int32))])
  refine Go.of (fun t k => XS.ifNo X18.here hx rfl (hb hby at_151) rfl (XT.i0_eq_f (by decide)) k) ?_
  show Go p e below Φ T18 (mkF m 154 #[.val (.int i0), .val (.long i1), .second, .val (.int x7), .val (.ref b1), .val (.ref b18), .val (.int (1 : Int32))] [])
  refine Go.of (fun t k => XS.aload X18.here hx rfl (hb hby at_154) rfl rfl  k) ?_
  show Go p e below Φ T18 (mkF m 156 #[.val (.int i0), .val (.long i1), .second, .val (.int x7), .val (.ref b1), .val (.ref b18), .val (.int (1 : Int32))] [(.ref b18)])
  refine Go.of (fun t k => XS.iconst X18.here hx rfl (hb hby at_156) k) ?_
  show Go p e below Φ T18 (mkF m 157 #[.val (.int i0), .val (.long i1), .second, .val (.int x7), .val (.ref b1), .val (.ref b18), .val (.int (1 : Int32))] [(.int (0 : Int32)), (.ref b18)])
  refine Go.of (fun t k => XS.iloadN X18.here hx rfl (hb hby at_157) rfl  k) ?_
  show Go p e below Φ T18 (mkF m 158 #[.val (.int i0), .val (.long i1), .second, .val (.int x7), .val (.ref b1), .val (.ref b18), .val (.int (1 : Int32))] [(.int x7), (.int (0 : Int32)), (.ref b18)])
  refine Go.of (fun t k => XS.lloadN X18.here hx rfl (hb hby at_158) rfl  k) ?_
  show Go p e below Φ T18 (mkF m 159 #[.val (.int i0), .val (.long i1), .second, .val (.int x7), .val (.ref b1), .val (.ref b18), .val (.int (1 : Int32))] [(.long i1), (.int x7), (.int (0 : Int32)), (.ref b18)])
  obtain ⟨_, _, ⟨T19, L19, k19, n19⟩, -, X19, ⟨Lc19, hQ19, l19, y19, z19⟩, st19⟩ := Jvm.LawKit.callS X18 hx (y := (⟨"com/example/dozynki/dozynki/StoreLayoutStagedDefinitionKeyPinLaw", "cell", "([BIIJ)Z"⟩ : MethodName)) hown (mvT hZ (hw _ (List.mem_of_getElem? (i := 29) rfl))) (mvT hZ (hw _ (List.mem_of_getElem? (i := 30) rfl))) (mvT hZ (hw _ (List.mem_of_getElem? (i := 3) rfl))) (mvT hZ (hw _ (List.mem_of_getElem? (i := 31) rfl))) (by decide) (backOf (W := 0) (rm7 l Z a0 hw [] b18 (0 : Int32) x7 i1 k18 (own_cp [(.int (nar .byte (115 : Int32))), (.int (nar .byte (116 : Int32))), (.int (nar .byte (97 : Int32))), (.int (nar .byte (103 : Int32))), (.int (nar .byte (101 : Int32))), (.int (nar .byte (100 : Int32))), (.int (nar .byte (47 : Int32))), (.int (nar .byte (0 : Int32))), (.int (nar .byte (own_at i1 (0 : Int32)))), (.int (nar .byte (own_at i1 (1 : Int32)))), (.int (nar .byte (own_at i1 (2 : Int32)))), (.int (nar .byte (own_at i1 (3 : Int32)))), (.int (nar .byte (own_at i1 (4 : Int32)))), (.int (nar .byte (own_at i1 (5 : Int32)))), (.int (nar .byte (own_at i1 (6 : Int32)))), (.int (nar .byte (own_at i1 (7 : Int32))))] x7) T18.heap n0 Z18 V_b18 (by decide) (fun q => (own_cpget _ _ 0 (own_ltn q (by decide))).trans rfl)) hZ (hw _ (List.mem_of_getElem? (i := 31) rfl)) (hw _ (List.mem_of_getElem? (i := 3) rfl)) (by decide) (by decide)) (g := (mkF m 159 #[.val (.int i0), .val (.long i1), .second, .val (.int x7), .val (.ref b1), .val (.ref b18), .val (.int (1 : Int32))] [(.long i1), (.int x7), (.int (0 : Int32)), (.ref b18)])) rfl (by rw [hml]; rfl) (argsL := [(.ref b18), (.int (0 : Int32)), (.int x7), (.long i1)]) (rest := []) (lenOf own_pd6 rfl) rfl (by show 2 * 0 + _ ≤ _; exact Nat.le_of_eq rfl) (hb hby at_159) (fun _ _ => ⟨rfl, rfl, (by decide : 2 + 0 ≤ _), (by decide : 24 + 0 ≤ _)⟩)
  dsimp only [Pt.U, Pt.locs, Pt.cells, Pt.slots] at X19 l19 y19 z19 st19 hQ19
  subst l19 y19 z19
  obtain ⟨rfl, N19q, e19q⟩ := hQ19
  have N19 := Fr.app N18 N19q
  obtain ⟨lc19, X19, N19⟩ : ∃ lc, Stand p l e room_1 s m #[(.int i0), (.long i1)] below meth c T19 lc 2 24 ∧ Fr n0 lc := ⟨_, X19, N19⟩
  refine Go.of st19 ?_
  show Go p e below Φ T19 (mkF m 162 #[.val (.int i0), .val (.long i1), .second, .val (.int x7), .val (.ref b1), .val (.ref b18), .val (.int (1 : Int32))] [(.int (1 : Int32))])
  refine Go.of (fun t k => XS.ifNo X19.here hx rfl (hb hby at_162) rfl (XT.i0_eq_f (by decide)) k) ?_
  show Go p e below Φ T19 (mkF m 165 #[.val (.int i0), .val (.long i1), .second, .val (.int x7), .val (.ref b1), .val (.ref b18), .val (.int (1 : Int32))] [])
  refine Go.of (fun t k => XS.iconst X19.here hx rfl (hb hby at_165) k) ?_
  show Go p e below Φ T19 (mkF m 166 #[.val (.int i0), .val (.long i1), .second, .val (.int x7), .val (.ref b1), .val (.ref b18), .val (.int (1 : Int32))] [(.int (1 : Int32))])
  refine Go.of (fun t k => XS.goto X19.here hx rfl (pc0 := 166) (pc' := 170) rfl (hb hby at_166) (by decide) (by decide) k) ?_
  show Go p e below Φ T19 (mkF m 170 #[.val (.int i0), .val (.long i1), .second, .val (.int x7), .val (.ref b1), .val (.ref b18), .val (.int (1 : Int32))] [(.int (1 : Int32))])
  refine Go.of (fun t k => XS.istore X19.here hx rfl (hb hby at_170) rfl (l' := #[.val (.int i0), .val (.long i1), .second, .val (.int x7), .val (.ref b1), .val (.ref b18), .val (.int (1 : Int32))]) rfl k) ?_
  show Go p e below Φ T19 (mkF m 172 #[.val (.int i0), .val (.long i1), .second, .val (.int x7), .val (.ref b1), .val (.ref b18), .val (.int (1 : Int32))] [])
  refine Go.of (fun t k => XS.iload X19.here hx rfl (hb hby at_172) rfl  k) ?_
  show Go p e below Φ T19 (mkF m 174 #[.val (.int i0), .val (.long i1), .second, .val (.int x7), .val (.ref b1), .val (.ref b18), .val (.int (1 : Int32))] [(.int (1 : Int32))])
  refine Go.of (fun t k => XS.ifNo X19.here hx rfl (hb hby at_174) rfl (XT.i0_eq_f (by decide)) k) ?_
  show Go p e below Φ T19 (mkF m 177 #[.val (.int i0), .val (.long i1), .second, .val (.int x7), .val (.ref b1), .val (.ref b18), .val (.int (1 : Int32))] [])
  refine Go.of (fun t k => XS.aload X19.here hx rfl (hb hby at_177) rfl rfl  k) ?_
  show Go p e below Φ T19 (mkF m 179 #[.val (.int i0), .val (.long i1), .second, .val (.int x7), .val (.ref b1), .val (.ref b18), .val (.int (1 : Int32))] [(.ref b18)])
  refine Go.of (fun t k => XS.iconst X19.here hx rfl (hb hby at_179) k) ?_
  show Go p e below Φ T19 (mkF m 180 #[.val (.int i0), .val (.long i1), .second, .val (.int x7), .val (.ref b1), .val (.ref b18), .val (.int (1 : Int32))] [(.int (1 : Int32)), (.ref b18)])
  refine Go.of (fun t k => XS.iloadN X19.here hx rfl (hb hby at_180) rfl  k) ?_
  show Go p e below Φ T19 (mkF m 181 #[.val (.int i0), .val (.long i1), .second, .val (.int x7), .val (.ref b1), .val (.ref b18), .val (.int (1 : Int32))] [(.int x7), (.int (1 : Int32)), (.ref b18)])
  refine Go.of (fun t k => XS.lloadN X19.here hx rfl (hb hby at_181) rfl  k) ?_
  show Go p e below Φ T19 (mkF m 182 #[.val (.int i0), .val (.long i1), .second, .val (.int x7), .val (.ref b1), .val (.ref b18), .val (.int (1 : Int32))] [(.long i1), (.int x7), (.int (1 : Int32)), (.ref b18)])
  obtain ⟨_, _, ⟨T20, L20, k20, n20⟩, -, X20, ⟨Lc20, hQ20, l20, y20, z20⟩, st20⟩ := Jvm.LawKit.callS X19 hx (y := (⟨"com/example/dozynki/dozynki/StoreLayoutStagedDefinitionKeyPinLaw", "cell", "([BIIJ)Z"⟩ : MethodName)) hown (mvT hZ (hw _ (List.mem_of_getElem? (i := 29) rfl))) (mvT hZ (hw _ (List.mem_of_getElem? (i := 30) rfl))) (mvT hZ (hw _ (List.mem_of_getElem? (i := 3) rfl))) (mvT hZ (hw _ (List.mem_of_getElem? (i := 31) rfl))) (by decide) (backOf (W := 0) (rm7 l Z a0 hw [] b18 (1 : Int32) x7 i1 k18 (own_cp [(.int (nar .byte (115 : Int32))), (.int (nar .byte (116 : Int32))), (.int (nar .byte (97 : Int32))), (.int (nar .byte (103 : Int32))), (.int (nar .byte (101 : Int32))), (.int (nar .byte (100 : Int32))), (.int (nar .byte (47 : Int32))), (.int (nar .byte (0 : Int32))), (.int (nar .byte (own_at i1 (0 : Int32)))), (.int (nar .byte (own_at i1 (1 : Int32)))), (.int (nar .byte (own_at i1 (2 : Int32)))), (.int (nar .byte (own_at i1 (3 : Int32)))), (.int (nar .byte (own_at i1 (4 : Int32)))), (.int (nar .byte (own_at i1 (5 : Int32)))), (.int (nar .byte (own_at i1 (6 : Int32)))), (.int (nar .byte (own_at i1 (7 : Int32))))] x7) T18.heap n0 Z18 V_b18 (by decide) (fun q => (own_cpget _ _ 1 (own_ltn q (by decide))).trans rfl)) hZ (hw _ (List.mem_of_getElem? (i := 31) rfl)) (hw _ (List.mem_of_getElem? (i := 3) rfl)) (by decide) (by decide)) (g := (mkF m 182 #[.val (.int i0), .val (.long i1), .second, .val (.int x7), .val (.ref b1), .val (.ref b18), .val (.int (1 : Int32))] [(.long i1), (.int x7), (.int (1 : Int32)), (.ref b18)])) rfl (by rw [hml]; rfl) (argsL := [(.ref b18), (.int (1 : Int32)), (.int x7), (.long i1)]) (rest := []) (lenOf own_pd6 rfl) rfl (by show 2 * 0 + _ ≤ _; exact Nat.le_of_eq rfl) (hb hby at_182) (fun _ _ => ⟨rfl, (e19q), (by decide : 2 + 0 ≤ _), (by decide : 24 + 0 ≤ _)⟩)
  dsimp only [Pt.U, Pt.locs, Pt.cells, Pt.slots] at X20 l20 y20 z20 st20 hQ20
  subst l20 y20 z20
  obtain ⟨rfl, N20q, e20q⟩ := hQ20
  have N20 := Fr.app N19 N20q
  obtain ⟨lc20, X20, N20⟩ : ∃ lc, Stand p l e room_1 s m #[(.int i0), (.long i1)] below meth c T20 lc 2 24 ∧ Fr n0 lc := ⟨_, X20, N20⟩
  refine Go.of st20 ?_
  show Go p e below Φ T20 (mkF m 185 #[.val (.int i0), .val (.long i1), .second, .val (.int x7), .val (.ref b1), .val (.ref b18), .val (.int (1 : Int32))] [(.int (1 : Int32))])
  refine Go.of (fun t k => XS.ifNo X20.here hx rfl (hb hby at_185) rfl (XT.i0_eq_f (by decide)) k) ?_
  show Go p e below Φ T20 (mkF m 188 #[.val (.int i0), .val (.long i1), .second, .val (.int x7), .val (.ref b1), .val (.ref b18), .val (.int (1 : Int32))] [])
  refine Go.of (fun t k => XS.iconst X20.here hx rfl (hb hby at_188) k) ?_
  show Go p e below Φ T20 (mkF m 189 #[.val (.int i0), .val (.long i1), .second, .val (.int x7), .val (.ref b1), .val (.ref b18), .val (.int (1 : Int32))] [(.int (1 : Int32))])
  refine Go.of (fun t k => XS.goto X20.here hx rfl (pc0 := 189) (pc' := 193) rfl (hb hby at_189) (by decide) (by decide) k) ?_
  show Go p e below Φ T20 (mkF m 193 #[.val (.int i0), .val (.long i1), .second, .val (.int x7), .val (.ref b1), .val (.ref b18), .val (.int (1 : Int32))] [(.int (1 : Int32))])
  refine Go.of (fun t k => XS.istore X20.here hx rfl (hb hby at_193) rfl (l' := #[.val (.int i0), .val (.long i1), .second, .val (.int x7), .val (.ref b1), .val (.ref b18), .val (.int (1 : Int32))]) rfl k) ?_
  show Go p e below Φ T20 (mkF m 195 #[.val (.int i0), .val (.long i1), .second, .val (.int x7), .val (.ref b1), .val (.ref b18), .val (.int (1 : Int32))] [])
  refine Go.of (fun t k => XS.iload X20.here hx rfl (hb hby at_195) rfl  k) ?_
  show Go p e below Φ T20 (mkF m 197 #[.val (.int i0), .val (.long i1), .second, .val (.int x7), .val (.ref b1), .val (.ref b18), .val (.int (1 : Int32))] [(.int (1 : Int32))])
  refine Go.of (fun t k => XS.ifNo X20.here hx rfl (hb hby at_197) rfl (XT.i0_eq_f (by decide)) k) ?_
  show Go p e below Φ T20 (mkF m 200 #[.val (.int i0), .val (.long i1), .second, .val (.int x7), .val (.ref b1), .val (.ref b18), .val (.int (1 : Int32))] [])
  refine Go.of (fun t k => XS.aload X20.here hx rfl (hb hby at_200) rfl rfl  k) ?_
  show Go p e below Φ T20 (mkF m 202 #[.val (.int i0), .val (.long i1), .second, .val (.int x7), .val (.ref b1), .val (.ref b18), .val (.int (1 : Int32))] [(.ref b18)])
  refine Go.of (fun t k => XS.iconst X20.here hx rfl (hb hby at_202) k) ?_
  show Go p e below Φ T20 (mkF m 203 #[.val (.int i0), .val (.long i1), .second, .val (.int x7), .val (.ref b1), .val (.ref b18), .val (.int (1 : Int32))] [(.int (2 : Int32)), (.ref b18)])
  refine Go.of (fun t k => XS.iloadN X20.here hx rfl (hb hby at_203) rfl  k) ?_
  show Go p e below Φ T20 (mkF m 204 #[.val (.int i0), .val (.long i1), .second, .val (.int x7), .val (.ref b1), .val (.ref b18), .val (.int (1 : Int32))] [(.int x7), (.int (2 : Int32)), (.ref b18)])
  refine Go.of (fun t k => XS.lloadN X20.here hx rfl (hb hby at_204) rfl  k) ?_
  show Go p e below Φ T20 (mkF m 205 #[.val (.int i0), .val (.long i1), .second, .val (.int x7), .val (.ref b1), .val (.ref b18), .val (.int (1 : Int32))] [(.long i1), (.int x7), (.int (2 : Int32)), (.ref b18)])
  obtain ⟨_, _, ⟨T21, L21, k21, n21⟩, -, X21, ⟨Lc21, hQ21, l21, y21, z21⟩, st21⟩ := Jvm.LawKit.callS X20 hx (y := (⟨"com/example/dozynki/dozynki/StoreLayoutStagedDefinitionKeyPinLaw", "cell", "([BIIJ)Z"⟩ : MethodName)) hown (mvT hZ (hw _ (List.mem_of_getElem? (i := 29) rfl))) (mvT hZ (hw _ (List.mem_of_getElem? (i := 30) rfl))) (mvT hZ (hw _ (List.mem_of_getElem? (i := 3) rfl))) (mvT hZ (hw _ (List.mem_of_getElem? (i := 31) rfl))) (by decide) (backOf (W := 0) (rm7 l Z a0 hw [] b18 (2 : Int32) x7 i1 k18 (own_cp [(.int (nar .byte (115 : Int32))), (.int (nar .byte (116 : Int32))), (.int (nar .byte (97 : Int32))), (.int (nar .byte (103 : Int32))), (.int (nar .byte (101 : Int32))), (.int (nar .byte (100 : Int32))), (.int (nar .byte (47 : Int32))), (.int (nar .byte (0 : Int32))), (.int (nar .byte (own_at i1 (0 : Int32)))), (.int (nar .byte (own_at i1 (1 : Int32)))), (.int (nar .byte (own_at i1 (2 : Int32)))), (.int (nar .byte (own_at i1 (3 : Int32)))), (.int (nar .byte (own_at i1 (4 : Int32)))), (.int (nar .byte (own_at i1 (5 : Int32)))), (.int (nar .byte (own_at i1 (6 : Int32)))), (.int (nar .byte (own_at i1 (7 : Int32))))] x7) T18.heap n0 Z18 V_b18 (by decide) (fun q => (own_cpget _ _ 2 (own_ltn q (by decide))).trans rfl)) hZ (hw _ (List.mem_of_getElem? (i := 31) rfl)) (hw _ (List.mem_of_getElem? (i := 3) rfl)) (by decide) (by decide)) (g := (mkF m 205 #[.val (.int i0), .val (.long i1), .second, .val (.int x7), .val (.ref b1), .val (.ref b18), .val (.int (1 : Int32))] [(.long i1), (.int x7), (.int (2 : Int32)), (.ref b18)])) rfl (by rw [hml]; rfl) (argsL := [(.ref b18), (.int (2 : Int32)), (.int x7), (.long i1)]) (rest := []) (lenOf own_pd6 rfl) rfl (by show 2 * 0 + _ ≤ _; exact Nat.le_of_eq rfl) (hb hby at_205) (fun _ _ => ⟨rfl, (e20q), (by decide : 2 + 0 ≤ _), (by decide : 24 + 0 ≤ _)⟩)
  dsimp only [Pt.U, Pt.locs, Pt.cells, Pt.slots] at X21 l21 y21 z21 st21 hQ21
  subst l21 y21 z21
  obtain ⟨rfl, N21q, e21q⟩ := hQ21
  have N21 := Fr.app N20 N21q
  obtain ⟨lc21, X21, N21⟩ : ∃ lc, Stand p l e room_1 s m #[(.int i0), (.long i1)] below meth c T21 lc 2 24 ∧ Fr n0 lc := ⟨_, X21, N21⟩
  refine Go.of st21 ?_
  show Go p e below Φ T21 (mkF m 208 #[.val (.int i0), .val (.long i1), .second, .val (.int x7), .val (.ref b1), .val (.ref b18), .val (.int (1 : Int32))] [(.int (1 : Int32))])
  refine Go.of (fun t k => XS.ifNo X21.here hx rfl (hb hby at_208) rfl (XT.i0_eq_f (by decide)) k) ?_
  show Go p e below Φ T21 (mkF m 211 #[.val (.int i0), .val (.long i1), .second, .val (.int x7), .val (.ref b1), .val (.ref b18), .val (.int (1 : Int32))] [])
  refine Go.of (fun t k => XS.iconst X21.here hx rfl (hb hby at_211) k) ?_
  show Go p e below Φ T21 (mkF m 212 #[.val (.int i0), .val (.long i1), .second, .val (.int x7), .val (.ref b1), .val (.ref b18), .val (.int (1 : Int32))] [(.int (1 : Int32))])
  refine Go.of (fun t k => XS.goto X21.here hx rfl (pc0 := 212) (pc' := 216) rfl (hb hby at_212) (by decide) (by decide) k) ?_
  show Go p e below Φ T21 (mkF m 216 #[.val (.int i0), .val (.long i1), .second, .val (.int x7), .val (.ref b1), .val (.ref b18), .val (.int (1 : Int32))] [(.int (1 : Int32))])
  refine Go.of (fun t k => XS.istore X21.here hx rfl (hb hby at_216) rfl (l' := #[.val (.int i0), .val (.long i1), .second, .val (.int x7), .val (.ref b1), .val (.ref b18), .val (.int (1 : Int32))]) rfl k) ?_
  show Go p e below Φ T21 (mkF m 218 #[.val (.int i0), .val (.long i1), .second, .val (.int x7), .val (.ref b1), .val (.ref b18), .val (.int (1 : Int32))] [])
  refine Go.of (fun t k => XS.iload X21.here hx rfl (hb hby at_218) rfl  k) ?_
  show Go p e below Φ T21 (mkF m 220 #[.val (.int i0), .val (.long i1), .second, .val (.int x7), .val (.ref b1), .val (.ref b18), .val (.int (1 : Int32))] [(.int (1 : Int32))])
  refine Go.of (fun t k => XS.ifNo X21.here hx rfl (hb hby at_220) rfl (XT.i0_eq_f (by decide)) k) ?_
  show Go p e below Φ T21 (mkF m 223 #[.val (.int i0), .val (.long i1), .second, .val (.int x7), .val (.ref b1), .val (.ref b18), .val (.int (1 : Int32))] [])
  refine Go.of (fun t k => XS.aload X21.here hx rfl (hb hby at_223) rfl rfl  k) ?_
  show Go p e below Φ T21 (mkF m 225 #[.val (.int i0), .val (.long i1), .second, .val (.int x7), .val (.ref b1), .val (.ref b18), .val (.int (1 : Int32))] [(.ref b18)])
  refine Go.of (fun t k => XS.iconst X21.here hx rfl (hb hby at_225) k) ?_
  show Go p e below Φ T21 (mkF m 226 #[.val (.int i0), .val (.long i1), .second, .val (.int x7), .val (.ref b1), .val (.ref b18), .val (.int (1 : Int32))] [(.int (3 : Int32)), (.ref b18)])
  refine Go.of (fun t k => XS.iloadN X21.here hx rfl (hb hby at_226) rfl  k) ?_
  show Go p e below Φ T21 (mkF m 227 #[.val (.int i0), .val (.long i1), .second, .val (.int x7), .val (.ref b1), .val (.ref b18), .val (.int (1 : Int32))] [(.int x7), (.int (3 : Int32)), (.ref b18)])
  refine Go.of (fun t k => XS.lloadN X21.here hx rfl (hb hby at_227) rfl  k) ?_
  show Go p e below Φ T21 (mkF m 228 #[.val (.int i0), .val (.long i1), .second, .val (.int x7), .val (.ref b1), .val (.ref b18), .val (.int (1 : Int32))] [(.long i1), (.int x7), (.int (3 : Int32)), (.ref b18)])
  obtain ⟨_, _, ⟨T22, L22, k22, n22⟩, -, X22, ⟨Lc22, hQ22, l22, y22, z22⟩, st22⟩ := Jvm.LawKit.callS X21 hx (y := (⟨"com/example/dozynki/dozynki/StoreLayoutStagedDefinitionKeyPinLaw", "cell", "([BIIJ)Z"⟩ : MethodName)) hown (mvT hZ (hw _ (List.mem_of_getElem? (i := 29) rfl))) (mvT hZ (hw _ (List.mem_of_getElem? (i := 30) rfl))) (mvT hZ (hw _ (List.mem_of_getElem? (i := 3) rfl))) (mvT hZ (hw _ (List.mem_of_getElem? (i := 31) rfl))) (by decide) (backOf (W := 0) (rm7 l Z a0 hw [] b18 (3 : Int32) x7 i1 k18 (own_cp [(.int (nar .byte (115 : Int32))), (.int (nar .byte (116 : Int32))), (.int (nar .byte (97 : Int32))), (.int (nar .byte (103 : Int32))), (.int (nar .byte (101 : Int32))), (.int (nar .byte (100 : Int32))), (.int (nar .byte (47 : Int32))), (.int (nar .byte (0 : Int32))), (.int (nar .byte (own_at i1 (0 : Int32)))), (.int (nar .byte (own_at i1 (1 : Int32)))), (.int (nar .byte (own_at i1 (2 : Int32)))), (.int (nar .byte (own_at i1 (3 : Int32)))), (.int (nar .byte (own_at i1 (4 : Int32)))), (.int (nar .byte (own_at i1 (5 : Int32)))), (.int (nar .byte (own_at i1 (6 : Int32)))), (.int (nar .byte (own_at i1 (7 : Int32))))] x7) T18.heap n0 Z18 V_b18 (by decide) (fun q => (own_cpget _ _ 3 (own_ltn q (by decide))).trans rfl)) hZ (hw _ (List.mem_of_getElem? (i := 31) rfl)) (hw _ (List.mem_of_getElem? (i := 3) rfl)) (by decide) (by decide)) (g := (mkF m 228 #[.val (.int i0), .val (.long i1), .second, .val (.int x7), .val (.ref b1), .val (.ref b18), .val (.int (1 : Int32))] [(.long i1), (.int x7), (.int (3 : Int32)), (.ref b18)])) rfl (by rw [hml]; rfl) (argsL := [(.ref b18), (.int (3 : Int32)), (.int x7), (.long i1)]) (rest := []) (lenOf own_pd6 rfl) rfl (by show 2 * 0 + _ ≤ _; exact Nat.le_of_eq rfl) (hb hby at_228) (fun _ _ => ⟨rfl, (e21q), (by decide : 2 + 0 ≤ _), (by decide : 24 + 0 ≤ _)⟩)
  dsimp only [Pt.U, Pt.locs, Pt.cells, Pt.slots] at X22 l22 y22 z22 st22 hQ22
  subst l22 y22 z22
  obtain ⟨rfl, N22q, e22q⟩ := hQ22
  have N22 := Fr.app N21 N22q
  obtain ⟨lc22, X22, N22⟩ : ∃ lc, Stand p l e room_1 s m #[(.int i0), (.long i1)] below meth c T22 lc 2 24 ∧ Fr n0 lc := ⟨_, X22, N22⟩
  refine Go.of st22 ?_
  show Go p e below Φ T22 (mkF m 231 #[.val (.int i0), .val (.long i1), .second, .val (.int x7), .val (.ref b1), .val (.ref b18), .val (.int (1 : Int32))] [(.int (1 : Int32))])
  refine Go.of (fun t k => XS.ifNo X22.here hx rfl (hb hby at_231) rfl (XT.i0_eq_f (by decide)) k) ?_
  show Go p e below Φ T22 (mkF m 234 #[.val (.int i0), .val (.long i1), .second, .val (.int x7), .val (.ref b1), .val (.ref b18), .val (.int (1 : Int32))] [])
  refine Go.of (fun t k => XS.iconst X22.here hx rfl (hb hby at_234) k) ?_
  show Go p e below Φ T22 (mkF m 235 #[.val (.int i0), .val (.long i1), .second, .val (.int x7), .val (.ref b1), .val (.ref b18), .val (.int (1 : Int32))] [(.int (1 : Int32))])
  refine Go.of (fun t k => XS.goto X22.here hx rfl (pc0 := 235) (pc' := 239) rfl (hb hby at_235) (by decide) (by decide) k) ?_
  show Go p e below Φ T22 (mkF m 239 #[.val (.int i0), .val (.long i1), .second, .val (.int x7), .val (.ref b1), .val (.ref b18), .val (.int (1 : Int32))] [(.int (1 : Int32))])
  refine Go.of (fun t k => XS.istore X22.here hx rfl (hb hby at_239) rfl (l' := #[.val (.int i0), .val (.long i1), .second, .val (.int x7), .val (.ref b1), .val (.ref b18), .val (.int (1 : Int32))]) rfl k) ?_
  show Go p e below Φ T22 (mkF m 241 #[.val (.int i0), .val (.long i1), .second, .val (.int x7), .val (.ref b1), .val (.ref b18), .val (.int (1 : Int32))] [])
  refine Go.of (fun t k => XS.iload X22.here hx rfl (hb hby at_241) rfl  k) ?_
  show Go p e below Φ T22 (mkF m 243 #[.val (.int i0), .val (.long i1), .second, .val (.int x7), .val (.ref b1), .val (.ref b18), .val (.int (1 : Int32))] [(.int (1 : Int32))])
  refine Go.of (fun t k => XS.ifNo X22.here hx rfl (hb hby at_243) rfl (XT.i0_eq_f (by decide)) k) ?_
  show Go p e below Φ T22 (mkF m 246 #[.val (.int i0), .val (.long i1), .second, .val (.int x7), .val (.ref b1), .val (.ref b18), .val (.int (1 : Int32))] [])
  refine Go.of (fun t k => XS.aload X22.here hx rfl (hb hby at_246) rfl rfl  k) ?_
  show Go p e below Φ T22 (mkF m 248 #[.val (.int i0), .val (.long i1), .second, .val (.int x7), .val (.ref b1), .val (.ref b18), .val (.int (1 : Int32))] [(.ref b18)])
  refine Go.of (fun t k => XS.iconst X22.here hx rfl (hb hby at_248) k) ?_
  show Go p e below Φ T22 (mkF m 249 #[.val (.int i0), .val (.long i1), .second, .val (.int x7), .val (.ref b1), .val (.ref b18), .val (.int (1 : Int32))] [(.int (4 : Int32)), (.ref b18)])
  refine Go.of (fun t k => XS.iloadN X22.here hx rfl (hb hby at_249) rfl  k) ?_
  show Go p e below Φ T22 (mkF m 250 #[.val (.int i0), .val (.long i1), .second, .val (.int x7), .val (.ref b1), .val (.ref b18), .val (.int (1 : Int32))] [(.int x7), (.int (4 : Int32)), (.ref b18)])
  refine Go.of (fun t k => XS.lloadN X22.here hx rfl (hb hby at_250) rfl  k) ?_
  show Go p e below Φ T22 (mkF m 251 #[.val (.int i0), .val (.long i1), .second, .val (.int x7), .val (.ref b1), .val (.ref b18), .val (.int (1 : Int32))] [(.long i1), (.int x7), (.int (4 : Int32)), (.ref b18)])
  obtain ⟨_, _, ⟨T23, L23, k23, n23⟩, -, X23, ⟨Lc23, hQ23, l23, y23, z23⟩, st23⟩ := Jvm.LawKit.callS X22 hx (y := (⟨"com/example/dozynki/dozynki/StoreLayoutStagedDefinitionKeyPinLaw", "cell", "([BIIJ)Z"⟩ : MethodName)) hown (mvT hZ (hw _ (List.mem_of_getElem? (i := 29) rfl))) (mvT hZ (hw _ (List.mem_of_getElem? (i := 30) rfl))) (mvT hZ (hw _ (List.mem_of_getElem? (i := 3) rfl))) (mvT hZ (hw _ (List.mem_of_getElem? (i := 31) rfl))) (by decide) (backOf (W := 0) (rm7 l Z a0 hw [] b18 (4 : Int32) x7 i1 k18 (own_cp [(.int (nar .byte (115 : Int32))), (.int (nar .byte (116 : Int32))), (.int (nar .byte (97 : Int32))), (.int (nar .byte (103 : Int32))), (.int (nar .byte (101 : Int32))), (.int (nar .byte (100 : Int32))), (.int (nar .byte (47 : Int32))), (.int (nar .byte (0 : Int32))), (.int (nar .byte (own_at i1 (0 : Int32)))), (.int (nar .byte (own_at i1 (1 : Int32)))), (.int (nar .byte (own_at i1 (2 : Int32)))), (.int (nar .byte (own_at i1 (3 : Int32)))), (.int (nar .byte (own_at i1 (4 : Int32)))), (.int (nar .byte (own_at i1 (5 : Int32)))), (.int (nar .byte (own_at i1 (6 : Int32)))), (.int (nar .byte (own_at i1 (7 : Int32))))] x7) T18.heap n0 Z18 V_b18 (by decide) (fun q => (own_cpget _ _ 4 (own_ltn q (by decide))).trans rfl)) hZ (hw _ (List.mem_of_getElem? (i := 31) rfl)) (hw _ (List.mem_of_getElem? (i := 3) rfl)) (by decide) (by decide)) (g := (mkF m 251 #[.val (.int i0), .val (.long i1), .second, .val (.int x7), .val (.ref b1), .val (.ref b18), .val (.int (1 : Int32))] [(.long i1), (.int x7), (.int (4 : Int32)), (.ref b18)])) rfl (by rw [hml]; rfl) (argsL := [(.ref b18), (.int (4 : Int32)), (.int x7), (.long i1)]) (rest := []) (lenOf own_pd6 rfl) rfl (by show 2 * 0 + _ ≤ _; exact Nat.le_of_eq rfl) (hb hby at_251) (fun _ _ => ⟨rfl, (e22q), (by decide : 2 + 0 ≤ _), (by decide : 24 + 0 ≤ _)⟩)
  dsimp only [Pt.U, Pt.locs, Pt.cells, Pt.slots] at X23 l23 y23 z23 st23 hQ23
  subst l23 y23 z23
  obtain ⟨rfl, N23q, e23q⟩ := hQ23
  have N23 := Fr.app N22 N23q
  obtain ⟨lc23, X23, N23⟩ : ∃ lc, Stand p l e room_1 s m #[(.int i0), (.long i1)] below meth c T23 lc 2 24 ∧ Fr n0 lc := ⟨_, X23, N23⟩
  refine Go.of st23 ?_
  show Go p e below Φ T23 (mkF m 254 #[.val (.int i0), .val (.long i1), .second, .val (.int x7), .val (.ref b1), .val (.ref b18), .val (.int (1 : Int32))] [(.int (1 : Int32))])
  refine Go.of (fun t k => XS.ifNo X23.here hx rfl (hb hby at_254) rfl (XT.i0_eq_f (by decide)) k) ?_
  show Go p e below Φ T23 (mkF m 257 #[.val (.int i0), .val (.long i1), .second, .val (.int x7), .val (.ref b1), .val (.ref b18), .val (.int (1 : Int32))] [])
  refine Go.of (fun t k => XS.iconst X23.here hx rfl (hb hby at_257) k) ?_
  show Go p e below Φ T23 (mkF m 258 #[.val (.int i0), .val (.long i1), .second, .val (.int x7), .val (.ref b1), .val (.ref b18), .val (.int (1 : Int32))] [(.int (1 : Int32))])
  refine Go.of (fun t k => XS.goto X23.here hx rfl (pc0 := 258) (pc' := 262) rfl (hb hby at_258) (by decide) (by decide) k) ?_
  show Go p e below Φ T23 (mkF m 262 #[.val (.int i0), .val (.long i1), .second, .val (.int x7), .val (.ref b1), .val (.ref b18), .val (.int (1 : Int32))] [(.int (1 : Int32))])
  refine Go.of (fun t k => XS.istore X23.here hx rfl (hb hby at_262) rfl (l' := #[.val (.int i0), .val (.long i1), .second, .val (.int x7), .val (.ref b1), .val (.ref b18), .val (.int (1 : Int32))]) rfl k) ?_
  show Go p e below Φ T23 (mkF m 264 #[.val (.int i0), .val (.long i1), .second, .val (.int x7), .val (.ref b1), .val (.ref b18), .val (.int (1 : Int32))] [])
  refine Go.of (fun t k => XS.iload X23.here hx rfl (hb hby at_264) rfl  k) ?_
  show Go p e below Φ T23 (mkF m 266 #[.val (.int i0), .val (.long i1), .second, .val (.int x7), .val (.ref b1), .val (.ref b18), .val (.int (1 : Int32))] [(.int (1 : Int32))])
  refine Go.of (fun t k => XS.ifNo X23.here hx rfl (hb hby at_266) rfl (XT.i0_eq_f (by decide)) k) ?_
  show Go p e below Φ T23 (mkF m 269 #[.val (.int i0), .val (.long i1), .second, .val (.int x7), .val (.ref b1), .val (.ref b18), .val (.int (1 : Int32))] [])
  refine Go.of (fun t k => XS.aload X23.here hx rfl (hb hby at_269) rfl rfl  k) ?_
  show Go p e below Φ T23 (mkF m 271 #[.val (.int i0), .val (.long i1), .second, .val (.int x7), .val (.ref b1), .val (.ref b18), .val (.int (1 : Int32))] [(.ref b18)])
  refine Go.of (fun t k => XS.iconst X23.here hx rfl (hb hby at_271) k) ?_
  show Go p e below Φ T23 (mkF m 272 #[.val (.int i0), .val (.long i1), .second, .val (.int x7), .val (.ref b1), .val (.ref b18), .val (.int (1 : Int32))] [(.int (5 : Int32)), (.ref b18)])
  refine Go.of (fun t k => XS.iloadN X23.here hx rfl (hb hby at_272) rfl  k) ?_
  show Go p e below Φ T23 (mkF m 273 #[.val (.int i0), .val (.long i1), .second, .val (.int x7), .val (.ref b1), .val (.ref b18), .val (.int (1 : Int32))] [(.int x7), (.int (5 : Int32)), (.ref b18)])
  refine Go.of (fun t k => XS.lloadN X23.here hx rfl (hb hby at_273) rfl  k) ?_
  show Go p e below Φ T23 (mkF m 274 #[.val (.int i0), .val (.long i1), .second, .val (.int x7), .val (.ref b1), .val (.ref b18), .val (.int (1 : Int32))] [(.long i1), (.int x7), (.int (5 : Int32)), (.ref b18)])
  obtain ⟨_, _, ⟨T24, L24, k24, n24⟩, -, X24, ⟨Lc24, hQ24, l24, y24, z24⟩, st24⟩ := Jvm.LawKit.callS X23 hx (y := (⟨"com/example/dozynki/dozynki/StoreLayoutStagedDefinitionKeyPinLaw", "cell", "([BIIJ)Z"⟩ : MethodName)) hown (mvT hZ (hw _ (List.mem_of_getElem? (i := 29) rfl))) (mvT hZ (hw _ (List.mem_of_getElem? (i := 30) rfl))) (mvT hZ (hw _ (List.mem_of_getElem? (i := 3) rfl))) (mvT hZ (hw _ (List.mem_of_getElem? (i := 31) rfl))) (by decide) (backOf (W := 0) (rm7 l Z a0 hw [] b18 (5 : Int32) x7 i1 k18 (own_cp [(.int (nar .byte (115 : Int32))), (.int (nar .byte (116 : Int32))), (.int (nar .byte (97 : Int32))), (.int (nar .byte (103 : Int32))), (.int (nar .byte (101 : Int32))), (.int (nar .byte (100 : Int32))), (.int (nar .byte (47 : Int32))), (.int (nar .byte (0 : Int32))), (.int (nar .byte (own_at i1 (0 : Int32)))), (.int (nar .byte (own_at i1 (1 : Int32)))), (.int (nar .byte (own_at i1 (2 : Int32)))), (.int (nar .byte (own_at i1 (3 : Int32)))), (.int (nar .byte (own_at i1 (4 : Int32)))), (.int (nar .byte (own_at i1 (5 : Int32)))), (.int (nar .byte (own_at i1 (6 : Int32)))), (.int (nar .byte (own_at i1 (7 : Int32))))] x7) T18.heap n0 Z18 V_b18 (by decide) (fun q => (own_cpget _ _ 5 (own_ltn q (by decide))).trans rfl)) hZ (hw _ (List.mem_of_getElem? (i := 31) rfl)) (hw _ (List.mem_of_getElem? (i := 3) rfl)) (by decide) (by decide)) (g := (mkF m 274 #[.val (.int i0), .val (.long i1), .second, .val (.int x7), .val (.ref b1), .val (.ref b18), .val (.int (1 : Int32))] [(.long i1), (.int x7), (.int (5 : Int32)), (.ref b18)])) rfl (by rw [hml]; rfl) (argsL := [(.ref b18), (.int (5 : Int32)), (.int x7), (.long i1)]) (rest := []) (lenOf own_pd6 rfl) rfl (by show 2 * 0 + _ ≤ _; exact Nat.le_of_eq rfl) (hb hby at_274) (fun _ _ => ⟨rfl, (e23q), (by decide : 2 + 0 ≤ _), (by decide : 24 + 0 ≤ _)⟩)
  dsimp only [Pt.U, Pt.locs, Pt.cells, Pt.slots] at X24 l24 y24 z24 st24 hQ24
  subst l24 y24 z24
  obtain ⟨rfl, N24q, e24q⟩ := hQ24
  have N24 := Fr.app N23 N24q
  obtain ⟨lc24, X24, N24⟩ : ∃ lc, Stand p l e room_1 s m #[(.int i0), (.long i1)] below meth c T24 lc 2 24 ∧ Fr n0 lc := ⟨_, X24, N24⟩
  refine Go.of st24 ?_
  show Go p e below Φ T24 (mkF m 277 #[.val (.int i0), .val (.long i1), .second, .val (.int x7), .val (.ref b1), .val (.ref b18), .val (.int (1 : Int32))] [(.int (1 : Int32))])
  refine Go.of (fun t k => XS.ifNo X24.here hx rfl (hb hby at_277) rfl (XT.i0_eq_f (by decide)) k) ?_
  show Go p e below Φ T24 (mkF m 280 #[.val (.int i0), .val (.long i1), .second, .val (.int x7), .val (.ref b1), .val (.ref b18), .val (.int (1 : Int32))] [])
  refine Go.of (fun t k => XS.iconst X24.here hx rfl (hb hby at_280) k) ?_
  show Go p e below Φ T24 (mkF m 281 #[.val (.int i0), .val (.long i1), .second, .val (.int x7), .val (.ref b1), .val (.ref b18), .val (.int (1 : Int32))] [(.int (1 : Int32))])
  refine Go.of (fun t k => XS.goto X24.here hx rfl (pc0 := 281) (pc' := 285) rfl (hb hby at_281) (by decide) (by decide) k) ?_
  show Go p e below Φ T24 (mkF m 285 #[.val (.int i0), .val (.long i1), .second, .val (.int x7), .val (.ref b1), .val (.ref b18), .val (.int (1 : Int32))] [(.int (1 : Int32))])
  refine Go.of (fun t k => XS.istore X24.here hx rfl (hb hby at_285) rfl (l' := #[.val (.int i0), .val (.long i1), .second, .val (.int x7), .val (.ref b1), .val (.ref b18), .val (.int (1 : Int32))]) rfl k) ?_
  show Go p e below Φ T24 (mkF m 287 #[.val (.int i0), .val (.long i1), .second, .val (.int x7), .val (.ref b1), .val (.ref b18), .val (.int (1 : Int32))] [])
  refine Go.of (fun t k => XS.iload X24.here hx rfl (hb hby at_287) rfl  k) ?_
  show Go p e below Φ T24 (mkF m 289 #[.val (.int i0), .val (.long i1), .second, .val (.int x7), .val (.ref b1), .val (.ref b18), .val (.int (1 : Int32))] [(.int (1 : Int32))])
  refine Go.of (fun t k => XS.ifNo X24.here hx rfl (hb hby at_289) rfl (XT.i0_eq_f (by decide)) k) ?_
  show Go p e below Φ T24 (mkF m 292 #[.val (.int i0), .val (.long i1), .second, .val (.int x7), .val (.ref b1), .val (.ref b18), .val (.int (1 : Int32))] [])
  refine Go.of (fun t k => XS.aload X24.here hx rfl (hb hby at_292) rfl rfl  k) ?_
  show Go p e below Φ T24 (mkF m 294 #[.val (.int i0), .val (.long i1), .second, .val (.int x7), .val (.ref b1), .val (.ref b18), .val (.int (1 : Int32))] [(.ref b18)])
  refine Go.of (fun t k => XS.bipush X24.here hx rfl (hb hby at_294) k) ?_
  show Go p e below Φ T24 (mkF m 296 #[.val (.int i0), .val (.long i1), .second, .val (.int x7), .val (.ref b1), .val (.ref b18), .val (.int (1 : Int32))] [(.int (6 : Int32)), (.ref b18)])
  refine Go.of (fun t k => XS.iloadN X24.here hx rfl (hb hby at_296) rfl  k) ?_
  show Go p e below Φ T24 (mkF m 297 #[.val (.int i0), .val (.long i1), .second, .val (.int x7), .val (.ref b1), .val (.ref b18), .val (.int (1 : Int32))] [(.int x7), (.int (6 : Int32)), (.ref b18)])
  refine Go.of (fun t k => XS.lloadN X24.here hx rfl (hb hby at_297) rfl  k) ?_
  show Go p e below Φ T24 (mkF m 298 #[.val (.int i0), .val (.long i1), .second, .val (.int x7), .val (.ref b1), .val (.ref b18), .val (.int (1 : Int32))] [(.long i1), (.int x7), (.int (6 : Int32)), (.ref b18)])
  obtain ⟨_, _, ⟨T25, L25, k25, n25⟩, -, X25, ⟨Lc25, hQ25, l25, y25, z25⟩, st25⟩ := Jvm.LawKit.callS X24 hx (y := (⟨"com/example/dozynki/dozynki/StoreLayoutStagedDefinitionKeyPinLaw", "cell", "([BIIJ)Z"⟩ : MethodName)) hown (mvT hZ (hw _ (List.mem_of_getElem? (i := 29) rfl))) (mvT hZ (hw _ (List.mem_of_getElem? (i := 30) rfl))) (mvT hZ (hw _ (List.mem_of_getElem? (i := 3) rfl))) (mvT hZ (hw _ (List.mem_of_getElem? (i := 31) rfl))) (by decide) (backOf (W := 0) (rm7 l Z a0 hw [] b18 (6 : Int32) x7 i1 k18 (own_cp [(.int (nar .byte (115 : Int32))), (.int (nar .byte (116 : Int32))), (.int (nar .byte (97 : Int32))), (.int (nar .byte (103 : Int32))), (.int (nar .byte (101 : Int32))), (.int (nar .byte (100 : Int32))), (.int (nar .byte (47 : Int32))), (.int (nar .byte (0 : Int32))), (.int (nar .byte (own_at i1 (0 : Int32)))), (.int (nar .byte (own_at i1 (1 : Int32)))), (.int (nar .byte (own_at i1 (2 : Int32)))), (.int (nar .byte (own_at i1 (3 : Int32)))), (.int (nar .byte (own_at i1 (4 : Int32)))), (.int (nar .byte (own_at i1 (5 : Int32)))), (.int (nar .byte (own_at i1 (6 : Int32)))), (.int (nar .byte (own_at i1 (7 : Int32))))] x7) T18.heap n0 Z18 V_b18 (by decide) (fun q => (own_cpget _ _ 6 (own_ltn q (by decide))).trans rfl)) hZ (hw _ (List.mem_of_getElem? (i := 31) rfl)) (hw _ (List.mem_of_getElem? (i := 3) rfl)) (by decide) (by decide)) (g := (mkF m 298 #[.val (.int i0), .val (.long i1), .second, .val (.int x7), .val (.ref b1), .val (.ref b18), .val (.int (1 : Int32))] [(.long i1), (.int x7), (.int (6 : Int32)), (.ref b18)])) rfl (by rw [hml]; rfl) (argsL := [(.ref b18), (.int (6 : Int32)), (.int x7), (.long i1)]) (rest := []) (lenOf own_pd6 rfl) rfl (by show 2 * 0 + _ ≤ _; exact Nat.le_of_eq rfl) (hb hby at_298) (fun _ _ => ⟨rfl, (e24q), (by decide : 2 + 0 ≤ _), (by decide : 24 + 0 ≤ _)⟩)
  dsimp only [Pt.U, Pt.locs, Pt.cells, Pt.slots] at X25 l25 y25 z25 st25 hQ25
  subst l25 y25 z25
  obtain ⟨rfl, N25q, e25q⟩ := hQ25
  have N25 := Fr.app N24 N25q
  obtain ⟨lc25, X25, N25⟩ : ∃ lc, Stand p l e room_1 s m #[(.int i0), (.long i1)] below meth c T25 lc 2 24 ∧ Fr n0 lc := ⟨_, X25, N25⟩
  refine Go.of st25 ?_
  show Go p e below Φ T25 (mkF m 301 #[.val (.int i0), .val (.long i1), .second, .val (.int x7), .val (.ref b1), .val (.ref b18), .val (.int (1 : Int32))] [(.int (1 : Int32))])
  refine Go.of (fun t k => XS.ifNo X25.here hx rfl (hb hby at_301) rfl (XT.i0_eq_f (by decide)) k) ?_
  show Go p e below Φ T25 (mkF m 304 #[.val (.int i0), .val (.long i1), .second, .val (.int x7), .val (.ref b1), .val (.ref b18), .val (.int (1 : Int32))] [])
  refine Go.of (fun t k => XS.iconst X25.here hx rfl (hb hby at_304) k) ?_
  show Go p e below Φ T25 (mkF m 305 #[.val (.int i0), .val (.long i1), .second, .val (.int x7), .val (.ref b1), .val (.ref b18), .val (.int (1 : Int32))] [(.int (1 : Int32))])
  refine Go.of (fun t k => XS.goto X25.here hx rfl (pc0 := 305) (pc' := 309) rfl (hb hby at_305) (by decide) (by decide) k) ?_
  show Go p e below Φ T25 (mkF m 309 #[.val (.int i0), .val (.long i1), .second, .val (.int x7), .val (.ref b1), .val (.ref b18), .val (.int (1 : Int32))] [(.int (1 : Int32))])
  refine Go.of (fun t k => XS.istore X25.here hx rfl (hb hby at_309) rfl (l' := #[.val (.int i0), .val (.long i1), .second, .val (.int x7), .val (.ref b1), .val (.ref b18), .val (.int (1 : Int32))]) rfl k) ?_
  show Go p e below Φ T25 (mkF m 311 #[.val (.int i0), .val (.long i1), .second, .val (.int x7), .val (.ref b1), .val (.ref b18), .val (.int (1 : Int32))] [])
  refine Go.of (fun t k => XS.iload X25.here hx rfl (hb hby at_311) rfl  k) ?_
  show Go p e below Φ T25 (mkF m 313 #[.val (.int i0), .val (.long i1), .second, .val (.int x7), .val (.ref b1), .val (.ref b18), .val (.int (1 : Int32))] [(.int (1 : Int32))])
  refine Go.of (fun t k => XS.ifNo X25.here hx rfl (hb hby at_313) rfl (XT.i0_eq_f (by decide)) k) ?_
  show Go p e below Φ T25 (mkF m 316 #[.val (.int i0), .val (.long i1), .second, .val (.int x7), .val (.ref b1), .val (.ref b18), .val (.int (1 : Int32))] [])
  refine Go.of (fun t k => XS.aload X25.here hx rfl (hb hby at_316) rfl rfl  k) ?_
  show Go p e below Φ T25 (mkF m 318 #[.val (.int i0), .val (.long i1), .second, .val (.int x7), .val (.ref b1), .val (.ref b18), .val (.int (1 : Int32))] [(.ref b18)])
  refine Go.of (fun t k => XS.bipush X25.here hx rfl (hb hby at_318) k) ?_
  show Go p e below Φ T25 (mkF m 320 #[.val (.int i0), .val (.long i1), .second, .val (.int x7), .val (.ref b1), .val (.ref b18), .val (.int (1 : Int32))] [(.int (7 : Int32)), (.ref b18)])
  refine Go.of (fun t k => XS.iloadN X25.here hx rfl (hb hby at_320) rfl  k) ?_
  show Go p e below Φ T25 (mkF m 321 #[.val (.int i0), .val (.long i1), .second, .val (.int x7), .val (.ref b1), .val (.ref b18), .val (.int (1 : Int32))] [(.int x7), (.int (7 : Int32)), (.ref b18)])
  refine Go.of (fun t k => XS.lloadN X25.here hx rfl (hb hby at_321) rfl  k) ?_
  show Go p e below Φ T25 (mkF m 322 #[.val (.int i0), .val (.long i1), .second, .val (.int x7), .val (.ref b1), .val (.ref b18), .val (.int (1 : Int32))] [(.long i1), (.int x7), (.int (7 : Int32)), (.ref b18)])
  obtain ⟨_, _, ⟨T26, L26, k26, n26⟩, -, X26, ⟨Lc26, hQ26, l26, y26, z26⟩, st26⟩ := Jvm.LawKit.callS X25 hx (y := (⟨"com/example/dozynki/dozynki/StoreLayoutStagedDefinitionKeyPinLaw", "cell", "([BIIJ)Z"⟩ : MethodName)) hown (mvT hZ (hw _ (List.mem_of_getElem? (i := 29) rfl))) (mvT hZ (hw _ (List.mem_of_getElem? (i := 30) rfl))) (mvT hZ (hw _ (List.mem_of_getElem? (i := 3) rfl))) (mvT hZ (hw _ (List.mem_of_getElem? (i := 31) rfl))) (by decide) (backOf (W := 0) (rm7 l Z a0 hw [] b18 (7 : Int32) x7 i1 k18 (own_cp [(.int (nar .byte (115 : Int32))), (.int (nar .byte (116 : Int32))), (.int (nar .byte (97 : Int32))), (.int (nar .byte (103 : Int32))), (.int (nar .byte (101 : Int32))), (.int (nar .byte (100 : Int32))), (.int (nar .byte (47 : Int32))), (.int (nar .byte (0 : Int32))), (.int (nar .byte (own_at i1 (0 : Int32)))), (.int (nar .byte (own_at i1 (1 : Int32)))), (.int (nar .byte (own_at i1 (2 : Int32)))), (.int (nar .byte (own_at i1 (3 : Int32)))), (.int (nar .byte (own_at i1 (4 : Int32)))), (.int (nar .byte (own_at i1 (5 : Int32)))), (.int (nar .byte (own_at i1 (6 : Int32)))), (.int (nar .byte (own_at i1 (7 : Int32))))] x7) T18.heap n0 Z18 V_b18 (by decide) (fun q => (own_cpget _ _ 7 (own_ltn q (by decide))).trans rfl)) hZ (hw _ (List.mem_of_getElem? (i := 31) rfl)) (hw _ (List.mem_of_getElem? (i := 3) rfl)) (by decide) (by decide)) (g := (mkF m 322 #[.val (.int i0), .val (.long i1), .second, .val (.int x7), .val (.ref b1), .val (.ref b18), .val (.int (1 : Int32))] [(.long i1), (.int x7), (.int (7 : Int32)), (.ref b18)])) rfl (by rw [hml]; rfl) (argsL := [(.ref b18), (.int (7 : Int32)), (.int x7), (.long i1)]) (rest := []) (lenOf own_pd6 rfl) rfl (by show 2 * 0 + _ ≤ _; exact Nat.le_of_eq rfl) (hb hby at_322) (fun _ _ => ⟨rfl, (e25q), (by decide : 2 + 0 ≤ _), (by decide : 24 + 0 ≤ _)⟩)
  dsimp only [Pt.U, Pt.locs, Pt.cells, Pt.slots] at X26 l26 y26 z26 st26 hQ26
  subst l26 y26 z26
  obtain ⟨rfl, N26q, e26q⟩ := hQ26
  have N26 := Fr.app N25 N26q
  obtain ⟨lc26, X26, N26⟩ : ∃ lc, Stand p l e room_1 s m #[(.int i0), (.long i1)] below meth c T26 lc 2 24 ∧ Fr n0 lc := ⟨_, X26, N26⟩
  refine Go.of st26 ?_
  show Go p e below Φ T26 (mkF m 325 #[.val (.int i0), .val (.long i1), .second, .val (.int x7), .val (.ref b1), .val (.ref b18), .val (.int (1 : Int32))] [(.int (1 : Int32))])
  refine Go.of (fun t k => XS.ifNo X26.here hx rfl (hb hby at_325) rfl (XT.i0_eq_f (by decide)) k) ?_
  show Go p e below Φ T26 (mkF m 328 #[.val (.int i0), .val (.long i1), .second, .val (.int x7), .val (.ref b1), .val (.ref b18), .val (.int (1 : Int32))] [])
  refine Go.of (fun t k => XS.iconst X26.here hx rfl (hb hby at_328) k) ?_
  show Go p e below Φ T26 (mkF m 329 #[.val (.int i0), .val (.long i1), .second, .val (.int x7), .val (.ref b1), .val (.ref b18), .val (.int (1 : Int32))] [(.int (1 : Int32))])
  refine Go.of (fun t k => XS.goto X26.here hx rfl (pc0 := 329) (pc' := 333) rfl (hb hby at_329) (by decide) (by decide) k) ?_
  show Go p e below Φ T26 (mkF m 333 #[.val (.int i0), .val (.long i1), .second, .val (.int x7), .val (.ref b1), .val (.ref b18), .val (.int (1 : Int32))] [(.int (1 : Int32))])
  refine Go.of (fun t k => XS.istore X26.here hx rfl (hb hby at_333) rfl (l' := #[.val (.int i0), .val (.long i1), .second, .val (.int x7), .val (.ref b1), .val (.ref b18), .val (.int (1 : Int32))]) rfl k) ?_
  show Go p e below Φ T26 (mkF m 335 #[.val (.int i0), .val (.long i1), .second, .val (.int x7), .val (.ref b1), .val (.ref b18), .val (.int (1 : Int32))] [])
  refine Go.of (fun t k => XS.iload X26.here hx rfl (hb hby at_335) rfl  k) ?_
  show Go p e below Φ T26 (mkF m 337 #[.val (.int i0), .val (.long i1), .second, .val (.int x7), .val (.ref b1), .val (.ref b18), .val (.int (1 : Int32))] [(.int (1 : Int32))])
  rw [hΦ]
  refine Go.ret X26 hx Bd.notSynchronized Bd.returns rfl (Or.inl ⟨rfl, Or.inr (Or.inl rfl), _, rfl⟩) (hb hby at_337) (by decide) (by decide) ?_
  rw [(e26q)]
  exact ⟨rfl, N26⟩
set_option maxRecDepth 65536 in
set_option maxHeartbeats 40000000 in
theorem comes_1 {Post : Tables → Env → Array Value → State → Outcome → State → Prop} (hpost : ∀ tb e args s v u, (limb_1_1.after args s (.returned v) u = true ∧ limb_1_2.after args s (.returned v) u = true ∧ True) → FrameEnd s (.returned v) u (Jvm.fieldLocs frame_1_writes args s ++ Jvm.arrayLocs frame_1_arrays args s ++ Jvm.staticLocs frame_1_statics s) 16 128 → Post tb e args s (.returned v) u) :
    ArmFor flags0 classFile x code maxLocals ret World_1 tables_1 room_1 Calls_1 rest_1 Pre_1 Post := by
  intro l hfl _ _ p e ha hc hk s m args below hf hA hF happ hP
  obtain ⟨hcalls, hrest, hpre⟩ := hP
  obtain ⟨-, -, -, hnamed, -, -, -, hat⟩ := (Spec.applies_iff hf).mp happ
  obtain ⟨hg, hn⟩ := and_e (Cond.before_iff.mp (show (Jvm.Cond.and given_1 narrow_1).before args s = true from hpre))
  obtain ⟨g1, g2⟩ := and_e hg
  obtain ⟨g3, g4⟩ := and_e g2
  obtain ⟨w0, w1, rfl⟩ : ∃ w0 w1 : Value, args = #[w0, w1] := by
    have hs : args.size = 2 := by simpa [Cond.value, given_1] using g1
    obtain ⟨L⟩ := args
    match L, hs with
    | [w0, w1], _ => exact ⟨w0, w1, rfl⟩
  have hw := fun d (hd : d ∈ tables_1) => atoms_spec (ws := Jvm.Cond.code x code maxLocals ret :: tables_1) hat d (List.mem_cons_of_mem _ hd)
  have hfit : Fit s := fun {y c} hc i hi => by
    obtain ⟨ha, rfl⟩ := Array.getElem?_eq_some_iff.mp hc
    have q := List.all_eq_true.mp ((Array.all_eq_true_iff_forall_mem.mp hF) _ (Array.getElem_mem ha)) i (List.mem_range.mpr hi)
    simpa [Array.getElem?_eq_getElem hi] using q
  obtain ⟨i0, ei0⟩ := is_v g3
  obtain rfl : w0 = (.int i0) := Option.some.inj ei0
  obtain ⟨i1, ei1⟩ := isL_v g4
  obtain rfl : w1 = (.long i1) := Option.some.inj ei1
  obtain ⟨m1a, m1b⟩ := and_e hn
  obtain ⟨sS, eS⟩ := arr_v m1a
  obtain ⟨clS, AS⟩ := Arr.start eS m1a
  have SS := own_len7 eS AS m1b
  obtain ⟨n, o, h1, h2, h3, _, L, rfl, ⟨rfl, N⟩, hq⟩ := rm0 l s _ hw tables_1 i0 i1 sS clS s.heap s.heap.size (Nat.le_refl _) (Old.start s) (Sta.start eS (Or.inr ⟨(hw _ (List.mem_of_getElem? (i := 7) rfl)), (hw _ (List.mem_of_getElem? (i := 10) rfl))⟩)) AS SS p e ha hc hk s m _ below hf ((Spec.applies_iff_loose hf).mp happ).1 ⟨rfl, State.Warmed39.refl s, rfl⟩ trivial
  refine ⟨n, _, h1, h2, h3, hpost _ _ _ _ _ _ ⟨Cond.after_iff.mpr rfl, Cond.after_iff.mpr (eq_i res_at (Term.int_eval (1)) rfl), trivial⟩ ⟨hq.1, hq.2.1, (hq.2.2.sift fun y hy => Or.inr (N y hy)).mono (by decide) (by decide)⟩⟩
theorem main_1_1 : Claimed_1_1 := comes_1 fun _ _ _ _ _ _ h hF => ⟨h.1, hF⟩
theorem main_1_2 : Claimed_1_2 := comes_1 fun _ _ _ _ _ _ h hF => ⟨h.2.1, hF⟩
end Jvm.Pilot.@@N@@
namespace Jvm.Pilot.@@N@@
open Jvm Jvm.ClassFile Sem Op Lib Jvm.Free Jvm.Stand Jvm.Pilot.@@N@@.Jvm.D
/-! MADE BY PROGRAM (witnessworld.py) out of the Statement's table words and the real class files: 12 classes; the members and pool entries that the words name. The judged class is class 1, her method 4. -/
namespace start1
open Jvm.ClassFile
def u (s : String) : CpInfo := .utf8 (stringToUtf16 s)
/-- a pool by its gaps: so many unusable entries, then the entry; so many at the end -/
def gap : Nat → List CpInfo → List CpInfo
  | 0, r => r
  | n + 1, r => .unusable :: gap n r
def poolList (es : List (Nat × CpInfo)) (last : Nat) : List CpInfo := es.foldr (fun e r => gap e.1 (e.2 :: r)) (gap last [])
def pool (es : List (Nat × CpInfo)) (last : Nat) : Array CpInfo := ⟨poolList es last⟩
def fileOf (pool : Array CpInfo) (this : Nat) (attrs : Array Attribute := #[]) (ms : Array MethodInfo := #[]) (fl : Nat := 33) (sup : Nat := 0) (ifs : Array Nat := #[]) (fds : Array FieldInfo := #[]) : ClassFile where
  minorVersion := 0
  majorVersion := 65
  constantPool := pool
  accessFlags := fl
  thisClass := this
  superClass := sup
  interfaces := ifs
  fields := fds
  methods := ms
  attributes := attrs
def plain (name : String) (sup : Option ClassId) : Class where
  name := name
  kind := .ordinary
  loader := none
  accessFlags := 33
  super := sup
  interfaces := #[]
  cf := none
  fields := #[]
  methods := #[]
  instanceTypes := #[]
  staticTypes := #[]
  resolved := #[]
  callSites := []
  init := .initialized
  statics := none
  mirror := none

def pool0 : Array CpInfo := pool [(5, u "<init>"), (0, u "()V"), (1, .class_ 10), (1, u "java/lang/Object")] 113

def k0m0 : Method := { name := "<init>", desc := "()V", sig := { parameters := [], returnType := none }, accessFlags := 1, code := none }
/-- java/lang/Object -/
def k0 : Class := { plain "java/lang/Object" none with
  accessFlags := 33
  interfaces := #[]
  cf := some (fileOf pool0 8 #[] #[{ accessFlags := 1, nameIndex := 5, descriptorIndex := 6, attributes := #[] }] 33 0 #[] #[])
  fields := #[]
  methods := #[k0m0]
  instanceTypes := #[]
  staticTypes := #[]
  resolved := Array.replicate 124 none
  statics := none }

def pool1 : Array CpInfo := pool [(2, .class_ 4), (1, u "java/lang/Object"), (0, u "<init>"), (0, u "()V"), (0, .methodref 8 9), (0, .class_ 10), (0, .nameAndType 11 12), (0, u "com/example/dozynki/dozynki/StoreLayoutStagedDefinitionKeyPinLaw"), (0, u "at"), (0, u "(JI)B"), (0, .methodref 8 14), (0, .nameAndType 15 16), (0, u "put"), (0, u "([BIJ)V"), (0, .methodref 18 19), (0, .class_ 20), (0, .nameAndType 21 22), (0, u "com/example/dozynki/dozynki/StoreLayout"), (0, u "stagedDefinitionKey"), (0, u "([B)[B"), (0, .methodref 8 24), (0, .nameAndType 25 26), (0, u "cell"), (0, u "([BIIJ)Z"), (3, u "law"), (0, u "(IJ)Z")] 4

def k1m0 : Method := { name := "<init>", desc := "()V", sig := { parameters := [], returnType := none }, accessFlags := 2, code := none }
def k1c1 : Code := { maxStack := 4, maxLocals := 3, code := method_2_code, exceptionTable := #[], attributes := #[] }
def k1m1 : Method := { name := "at", desc := "(JI)B", sig := { parameters := [.long, .int], returnType := some .byte }, accessFlags := 10, code := some k1c1 }
def k1c2 : Code := { maxStack := 5, maxLocals := 4, code := method_3_code, exceptionTable := #[], attributes := #[] }
def k1m2 : Method := { name := "put", desc := "([BIJ)V", sig := { parameters := [(.array .byte), .int, .long], returnType := none }, accessFlags := 10, code := some k1c2 }
def k1c3 : Code := { maxStack := 4, maxLocals := 5, code := method_4_code, exceptionTable := #[], attributes := #[] }
def k1m3 : Method := { name := "cell", desc := "([BIIJ)Z", sig := { parameters := [(.array .byte), .int, .int, .long], returnType := some .boolean }, accessFlags := 10, code := some k1c3 }
def k1c4 : Code := { maxStack := 5, maxLocals := 7, code := code, exceptionTable := #[], attributes := #[] }
def k1m4 : Method := { name := "law", desc := "(IJ)Z", sig := { parameters := [.int, .long], returnType := some .boolean }, accessFlags := 9, code := some k1c4 }
/-- com/example/dozynki/dozynki/StoreLayoutStagedDefinitionKeyPinLaw -/
def k1 : Class := { plain "com/example/dozynki/dozynki/StoreLayoutStagedDefinitionKeyPinLaw" (some 0) with
  accessFlags := 49
  interfaces := #[]
  cf := some (fileOf pool1 8 #[] #[{ accessFlags := 2, nameIndex := 5, descriptorIndex := 6, attributes := #[] }, { accessFlags := 10, nameIndex := 11, descriptorIndex := 12, attributes := #[] }, { accessFlags := 10, nameIndex := 15, descriptorIndex := 16, attributes := #[] }, { accessFlags := 10, nameIndex := 25, descriptorIndex := 26, attributes := #[] }, { accessFlags := 9, nameIndex := 30, descriptorIndex := 31, attributes := #[] }] 49 2 #[] #[])
  fields := #[]
  methods := #[k1m0, k1m1, k1m2, k1m3, k1m4]
  instanceTypes := #[]
  staticTypes := #[]
  resolved := Array.replicate 36 none
  statics := none }

def pool2 : Array CpInfo := pool [(4, .class_ 6), (1, u "java/lang/Object"), (0, u "<init>"), (0, u "()V"), (1, .class_ 12), (1, u "com/example/dozynki/dozynki/StoreLayout"), (61, .class_ 76), (1, u "java/util/Arrays"), (13, .methodref 74 91), (0, .nameAndType 92 93), (0, u "copyOfRange"), (0, u "([BII)[B"), (0, .fieldref 10 95), (0, .nameAndType 96 97), (0, u "STAGED"), (0, u "[B"), (6, u "STAGED_END"), (83, .class_ 189), (0, u "com/example/dozynki/dozynki/StoreLayout$DamagedException"), (5, .class_ 197), (1, u "com/example/dozynki/dozynki/StoreLayout$RecordFields"), (4, u "I"), (125, u "LAYOUT_KEY"), (4, u "CREATED_KEY"), (4, u "LOAD_KEY"), (4, u "UPGRADED_KEY"), (4, u "ITEMS"), (4, u "DATESTAMPS"), (4, u "SETS"), (6, u "EMPTY"), (0, u "VERSION"), (0, u "Ljava/lang/String;"), (3, u "VERSION_1"), (2, u "VERSION_2"), (2, u "VERSION_UPGRADING"), (2, u "STAMP_BYTES"), (1, u "SET_END"), (0, u "B"), (1, u "DELETED"), (29, u "([B)[B"), (0, u "stagedDefinitionKey")] 60

def k2m0 : Method := { name := "<init>", desc := "()V", sig := { parameters := [], returnType := none }, accessFlags := 2, code := none }
def k2c1 : Code := { maxStack := 3, maxLocals := 1, code := prog_34_method_25_code, exceptionTable := #[], attributes := #[] }
def k2m1 : Method := { name := "stagedDefinitionKey", desc := "([B)[B", sig := { parameters := [(.array .byte)], returnType := some (.array .byte) }, accessFlags := 8, code := some k2c1 }
/-- com/example/dozynki/dozynki/StoreLayout -/
def k2 : Class := { plain "com/example/dozynki/dozynki/StoreLayout" (some 0) with
  accessFlags := 32
  interfaces := #[]
  cf := some (fileOf pool2 10 #[.nestMembers #[188, 195]] #[{ accessFlags := 2, nameIndex := 7, descriptorIndex := 8, attributes := #[] }, { accessFlags := 8, nameIndex := 416, descriptorIndex := 415, attributes := #[] }] 32 4 #[] #[{ accessFlags := 24, nameIndex := 366, descriptorIndex := 367, attributes := #[] }, { accessFlags := 24, nameIndex := 371, descriptorIndex := 367, attributes := #[] }, { accessFlags := 24, nameIndex := 374, descriptorIndex := 367, attributes := #[] }, { accessFlags := 24, nameIndex := 377, descriptorIndex := 367, attributes := #[] }, { accessFlags := 24, nameIndex := 328, descriptorIndex := 97, attributes := #[] }, { accessFlags := 24, nameIndex := 333, descriptorIndex := 97, attributes := #[] }, { accessFlags := 24, nameIndex := 338, descriptorIndex := 97, attributes := #[] }, { accessFlags := 24, nameIndex := 343, descriptorIndex := 97, attributes := #[] }, { accessFlags := 24, nameIndex := 380, descriptorIndex := 202, attributes := #[] }, { accessFlags := 24, nameIndex := 348, descriptorIndex := 97, attributes := #[] }, { accessFlags := 24, nameIndex := 353, descriptorIndex := 97, attributes := #[] }, { accessFlags := 24, nameIndex := 358, descriptorIndex := 97, attributes := #[] }, { accessFlags := 24, nameIndex := 96, descriptorIndex := 97, attributes := #[] }, { accessFlags := 24, nameIndex := 104, descriptorIndex := 97, attributes := #[] }, { accessFlags := 24, nameIndex := 365, descriptorIndex := 97, attributes := #[] }, { accessFlags := 26, nameIndex := 382, descriptorIndex := 383, attributes := #[] }, { accessFlags := 26, nameIndex := 385, descriptorIndex := 383, attributes := #[] }])
  fields := #[{ name := "VERSION", type := (.object "java/lang/String"), accessFlags := 24, slot := 0, constantValue := 0 }, { name := "VERSION_1", type := (.object "java/lang/String"), accessFlags := 24, slot := 1, constantValue := 0 }, { name := "VERSION_2", type := (.object "java/lang/String"), accessFlags := 24, slot := 2, constantValue := 0 }, { name := "VERSION_UPGRADING", type := (.object "java/lang/String"), accessFlags := 24, slot := 3, constantValue := 0 }, { name := "LAYOUT_KEY", type := (.array .byte), accessFlags := 24, slot := 4, constantValue := 0 }, { name := "CREATED_KEY", type := (.array .byte), accessFlags := 24, slot := 5, constantValue := 0 }, { name := "LOAD_KEY", type := (.array .byte), accessFlags := 24, slot := 6, constantValue := 0 }, { name := "UPGRADED_KEY", type := (.array .byte), accessFlags := 24, slot := 7, constantValue := 0 }, { name := "STAMP_BYTES", type := .int, accessFlags := 24, slot := 8, constantValue := 0 }, { name := "ITEMS", type := (.array .byte), accessFlags := 24, slot := 9, constantValue := 0 }, { name := "DATESTAMPS", type := (.array .byte), accessFlags := 24, slot := 10, constantValue := 0 }, { name := "SETS", type := (.array .byte), accessFlags := 24, slot := 11, constantValue := 0 }, { name := "STAGED", type := (.array .byte), accessFlags := 24, slot := 12, constantValue := 0 }, { name := "STAGED_END", type := (.array .byte), accessFlags := 24, slot := 13, constantValue := 0 }, { name := "EMPTY", type := (.array .byte), accessFlags := 24, slot := 14, constantValue := 0 }, { name := "SET_END", type := .byte, accessFlags := 26, slot := 15, constantValue := 0 }, { name := "DELETED", type := .byte, accessFlags := 26, slot := 16, constantValue := 0 }]
  methods := #[k2m0, k2m1]
  instanceTypes := #[]
  staticTypes := #[(.object "java/lang/String"), (.object "java/lang/String"), (.object "java/lang/String"), (.object "java/lang/String"), (.array .byte), (.array .byte), (.array .byte), (.array .byte), .int, (.array .byte), (.array .byte), (.array .byte), (.array .byte), (.array .byte), (.array .byte), .byte, .byte]
  resolved := Array.replicate 477 none
  statics := some 0 }

def pool3 : Array CpInfo := pool [(2, .class_ 4), (1, u "java/lang/Object"), (0, u "<init>"), (0, u "()V"), (7, .class_ 16), (1, u "java/util/Arrays"), (57, .class_ 76), (1, u "java/util/Arrays$NaturalOrder"), (36, .class_ 115), (1, u "java/util/Arrays$LegacyMergeSort"), (1, u "Z"), (21, u "copyOfRange"), (10, .methodref 151 152), (0, .class_ 153), (0, .nameAndType 154 155), (0, u "java/lang/System"), (0, u "arraycopy"), (0, u "(Ljava/lang/Object;ILjava/lang/Object;II)V"), (148, .methodref 305 306), (0, .class_ 307), (0, .nameAndType 308 309), (0, u "java/lang/Math"), (0, u "min"), (0, u "(II)I"), (29, .methodref 14 340), (0, .nameAndType 341 342), (0, u "copyOfRangeByte"), (0, u "([BII)[B"), (0, .methodref 14 344), (0, .nameAndType 345 346), (0, u "checkLength"), (0, u "(II)V"), (28, .class_ 376), (0, u "java/util/Arrays$ArrayList"), (68, u "$assertionsDisabled"), (269, u "MIN_ARRAY_SORT_GRAN"), (0, u "I"), (2, u "INSERTIONSORT_THRESHOLD"), (255, .class_ 976), (0, u "java/util/Arrays$ArrayItr")] 52

def k3m0 : Method := { name := "<init>", desc := "()V", sig := { parameters := [], returnType := none }, accessFlags := 2, code := none }
def k3c1 : Code := { maxStack := 4, maxLocals := 2, code := jdk_65_method_131_code, exceptionTable := #[], attributes := #[] }
def k3m1 : Method := { name := "checkLength", desc := "(II)V", sig := { parameters := [.int, .int], returnType := none }, accessFlags := 10, code := some k3c1 }
def k3c2 : Code := { maxStack := 3, maxLocals := 3, code := jdk_65_method_132_code, exceptionTable := #[], attributes := #[] }
def k3m2 : Method := { name := "copyOfRange", desc := "([BII)[B", sig := { parameters := [(.array .byte), .int, .int], returnType := some (.array .byte) }, accessFlags := 9, code := some k3c2 }
def k3c3 : Code := { maxStack := 6, maxLocals := 5, code := jdk_65_method_133_code, exceptionTable := #[], attributes := #[] }
def k3m3 : Method := { name := "copyOfRangeByte", desc := "([BII)[B", sig := { parameters := [(.array .byte), .int, .int], returnType := some (.array .byte) }, accessFlags := 10, code := some k3c3 }
/-- java/util/Arrays -/
def k3 : Class := { plain "java/util/Arrays" (some 0) with
  accessFlags := 49
  interfaces := #[]
  cf := some (fileOf pool3 14 #[.nestMembers #[975, 375, 113, 74]] #[{ accessFlags := 2, nameIndex := 5, descriptorIndex := 6, attributes := #[] }, { accessFlags := 10, nameIndex := 345, descriptorIndex := 346, attributes := #[] }, { accessFlags := 9, nameIndex := 139, descriptorIndex := 342, attributes := #[] }, { accessFlags := 10, nameIndex := 341, descriptorIndex := 342, attributes := #[] }] 49 2 #[] #[{ accessFlags := 26, nameIndex := 715, descriptorIndex := 716, attributes := #[] }, { accessFlags := 26, nameIndex := 719, descriptorIndex := 716, attributes := #[] }, { accessFlags := 4120, nameIndex := 445, descriptorIndex := 117, attributes := #[] }])
  fields := #[{ name := "MIN_ARRAY_SORT_GRAN", type := .int, accessFlags := 26, slot := 0, constantValue := 0 }, { name := "INSERTIONSORT_THRESHOLD", type := .int, accessFlags := 26, slot := 1, constantValue := 0 }, { name := "$assertionsDisabled", type := .boolean, accessFlags := 4120, slot := 2, constantValue := 0 }]
  methods := #[k3m0, k3m1, k3m2, k3m3]
  instanceTypes := #[]
  staticTypes := #[.int, .int, .boolean]
  resolved := Array.replicate 1029 none
  statics := none }

def pool4 : Array CpInfo := pool [(1, .class_ 2), (0, u "java/lang/Math"), (1, .class_ 6), (1, u "java/lang/Object"), (0, u "<init>"), (0, u "()V"), (89, .class_ 100), (1, u "java/lang/Math$RandomNumberGeneratorHolder"), (71, u "negativeZeroFloatBits"), (0, u "J"), (2, u "negativeZeroDoubleBits"), (24, u "min"), (43, u "$assertionsDisabled"), (0, u "Z"), (88, u "(II)I"), (2, u "twoToTheDoubleScaleDown"), (0, u "D"), (4, u "twoToTheDoubleScaleUp"), (9, u "E"), (3, u "PI"), (2, u "TAU"), (2, u "DEGREES_TO_RADIANS"), (0, u "RADIANS_TO_DEGREES")] 94

def k4m0 : Method := { name := "<init>", desc := "()V", sig := { parameters := [], returnType := none }, accessFlags := 2, code := none }
def k4c1 : Code := { maxStack := 2, maxLocals := 2, code := jdk_29_method_69_code, exceptionTable := #[], attributes := #[] }
def k4m1 : Method := { name := "min", desc := "(II)I", sig := { parameters := [.int, .int], returnType := some .int }, accessFlags := 9, code := some k4c1 }
/-- java/lang/Math -/
def k4 : Class := { plain "java/lang/Math" (some 0) with
  accessFlags := 49
  interfaces := #[]
  cf := some (fileOf pool4 1 #[.nestMembers #[98]] #[{ accessFlags := 2, nameIndex := 7, descriptorIndex := 8, attributes := #[] }, { accessFlags := 9, nameIndex := 201, descriptorIndex := 335, attributes := #[] }] 49 4 #[] #[{ accessFlags := 25, nameIndex := 354, descriptorIndex := 339, attributes := #[] }, { accessFlags := 25, nameIndex := 358, descriptorIndex := 339, attributes := #[] }, { accessFlags := 25, nameIndex := 361, descriptorIndex := 339, attributes := #[] }, { accessFlags := 26, nameIndex := 364, descriptorIndex := 339, attributes := #[] }, { accessFlags := 26, nameIndex := 365, descriptorIndex := 339, attributes := #[] }, { accessFlags := 26, nameIndex := 172, descriptorIndex := 173, attributes := #[] }, { accessFlags := 26, nameIndex := 176, descriptorIndex := 173, attributes := #[] }, { accessFlags := 8, nameIndex := 344, descriptorIndex := 339, attributes := #[] }, { accessFlags := 8, nameIndex := 338, descriptorIndex := 339, attributes := #[] }, { accessFlags := 4120, nameIndex := 245, descriptorIndex := 246, attributes := #[] }])
  fields := #[{ name := "E", type := .double, accessFlags := 25, slot := 0, constantValue := 0 }, { name := "PI", type := .double, accessFlags := 25, slot := 1, constantValue := 0 }, { name := "TAU", type := .double, accessFlags := 25, slot := 2, constantValue := 0 }, { name := "DEGREES_TO_RADIANS", type := .double, accessFlags := 26, slot := 3, constantValue := 0 }, { name := "RADIANS_TO_DEGREES", type := .double, accessFlags := 26, slot := 4, constantValue := 0 }, { name := "negativeZeroFloatBits", type := .long, accessFlags := 26, slot := 5, constantValue := 0 }, { name := "negativeZeroDoubleBits", type := .long, accessFlags := 26, slot := 6, constantValue := 0 }, { name := "twoToTheDoubleScaleUp", type := .double, accessFlags := 8, slot := 7, constantValue := 0 }, { name := "twoToTheDoubleScaleDown", type := .double, accessFlags := 8, slot := 8, constantValue := 0 }, { name := "$assertionsDisabled", type := .boolean, accessFlags := 4120, slot := 9, constantValue := 0 }]
  methods := #[k4m0, k4m1]
  instanceTypes := #[]
  staticTypes := #[.double, .double, .double, .double, .double, .long, .long, .double, .double, .boolean]
  resolved := Array.replicate 460 none
  statics := none }

def pool5 : Array CpInfo := pool [(2, .class_ 4), (1, u "java/lang/Object"), (0, u "<init>"), (0, u "()V"), (1, .class_ 10), (1, u "java/lang/System"), (0, u "allowSecurityManager"), (0, u "I"), (16, u "cons"), (0, u "Ljava/io/Console;"), (77, .class_ 110), (1, u "java/lang/System$CallersHolder"), (43, u "initialErrStream"), (0, u "Ljava/io/PrintStream;"), (19, u "security"), (0, u "Ljava/lang/SecurityManager;"), (31, .class_ 209), (0, u "java/lang/System$1"), (7, u "props"), (0, u "Ljava/util/Properties;"), (2, u "lineSeparator"), (0, u "Ljava/lang/String;"), (96, .class_ 321), (1, u "java/lang/System$LoggerFinder"), (5, .class_ 328), (0, u "java/lang/System$Logger"), (67, u "err"), (2, u "out"), (91, u "notSupportedJnuEncoding"), (15, u "in"), (17, u "initialIn"), (0, u "Ljava/io/InputStream;"), (35, u "bootLayer"), (0, u "Ljava/lang/ModuleLayer;"), (99, .class_ 664), (0, u "java/lang/System$2"), (9, u "NEVER"), (2, u "MAYBE"), (49, u "arraycopy"), (0, u "(Ljava/lang/Object;ILjava/lang/Object;II)V"), (72, .class_ 802), (0, u "java/lang/System$Logger$Level")] 31

def k5m0 : Method := { name := "<init>", desc := "()V", sig := { parameters := [], returnType := none }, accessFlags := 2, code := none }
def k5m1 : Method := { name := "arraycopy", desc := "(Ljava/lang/Object;ILjava/lang/Object;II)V", sig := { parameters := [(.object "java/lang/Object"), .int, (.object "java/lang/Object"), .int, .int], returnType := none }, accessFlags := 265, code := none }
/-- java/lang/System -/
def k5 : Class := { plain "java/lang/System" (some 0) with
  accessFlags := 49
  interfaces := #[]
  cf := some (fileOf pool5 8 #[.nestMembers #[319, 327, 801, 108, 663, 208]] #[{ accessFlags := 2, nameIndex := 5, descriptorIndex := 6, attributes := #[] }, { accessFlags := 265, nameIndex := 727, descriptorIndex := 728, attributes := #[] }] 49 2 #[] #[{ accessFlags := 25, nameIndex := 507, descriptorIndex := 526, attributes := #[] }, { accessFlags := 25, nameIndex := 399, descriptorIndex := 155, attributes := #[] }, { accessFlags := 25, nameIndex := 396, descriptorIndex := 155, attributes := #[] }, { accessFlags := 10, nameIndex := 525, descriptorIndex := 526, attributes := #[] }, { accessFlags := 26, nameIndex := 674, descriptorIndex := 12, attributes := #[] }, { accessFlags := 26, nameIndex := 677, descriptorIndex := 12, attributes := #[] }, { accessFlags := 10, nameIndex := 11, descriptorIndex := 12, attributes := #[] }, { accessFlags := 74, nameIndex := 175, descriptorIndex := 176, attributes := #[] }, { accessFlags := 10, nameIndex := 491, descriptorIndex := 222, attributes := #[] }, { accessFlags := 74, nameIndex := 29, descriptorIndex := 30, attributes := #[] }, { accessFlags := 74, nameIndex := 154, descriptorIndex := 155, attributes := #[] }, { accessFlags := 10, nameIndex := 217, descriptorIndex := 218, attributes := #[] }, { accessFlags := 10, nameIndex := 221, descriptorIndex := 222, attributes := #[] }, { accessFlags := 8, nameIndex := 562, descriptorIndex := 563, attributes := #[] }])
  fields := #[{ name := "in", type := (.object "java/io/InputStream"), accessFlags := 25, slot := 0, constantValue := 0 }, { name := "out", type := (.object "java/io/PrintStream"), accessFlags := 25, slot := 1, constantValue := 0 }, { name := "err", type := (.object "java/io/PrintStream"), accessFlags := 25, slot := 2, constantValue := 0 }, { name := "initialIn", type := (.object "java/io/InputStream"), accessFlags := 10, slot := 3, constantValue := 0 }, { name := "NEVER", type := .int, accessFlags := 26, slot := 4, constantValue := 0 }, { name := "MAYBE", type := .int, accessFlags := 26, slot := 5, constantValue := 0 }, { name := "allowSecurityManager", type := .int, accessFlags := 10, slot := 6, constantValue := 0 }, { name := "security", type := (.object "java/lang/SecurityManager"), accessFlags := 74, slot := 7, constantValue := 0 }, { name := "notSupportedJnuEncoding", type := (.object "java/lang/String"), accessFlags := 10, slot := 8, constantValue := 0 }, { name := "cons", type := (.object "java/io/Console"), accessFlags := 74, slot := 9, constantValue := 0 }, { name := "initialErrStream", type := (.object "java/io/PrintStream"), accessFlags := 74, slot := 10, constantValue := 0 }, { name := "props", type := (.object "java/util/Properties"), accessFlags := 10, slot := 11, constantValue := 0 }, { name := "lineSeparator", type := (.object "java/lang/String"), accessFlags := 10, slot := 12, constantValue := 0 }, { name := "bootLayer", type := (.object "java/lang/ModuleLayer"), accessFlags := 8, slot := 13, constantValue := 0 }]
  methods := #[k5m0, k5m1]
  instanceTypes := #[]
  staticTypes := #[(.object "java/io/InputStream"), (.object "java/io/PrintStream"), (.object "java/io/PrintStream"), (.object "java/io/InputStream"), .int, .int, .int, (.object "java/lang/SecurityManager"), (.object "java/lang/String"), (.object "java/io/Console"), (.object "java/io/PrintStream"), (.object "java/util/Properties"), (.object "java/lang/String"), (.object "java/lang/ModuleLayer")]
  resolved := Array.replicate 834 none
  statics := none }

def pool6 : Array CpInfo := pool [(1, u "java/lang/Cloneable"), (0, .class_ 1), (0, u "java/lang/Object"), (0, .class_ 3)] 3

/-- java/lang/Cloneable -/
def k6 : Class := { plain "java/lang/Cloneable" (some 0) with
  accessFlags := 1537
  interfaces := #[]
  cf := some (fileOf pool6 2 #[] #[] 1537 4 #[] #[])
  fields := #[]
  methods := #[]
  instanceTypes := #[]
  staticTypes := #[]
  resolved := Array.replicate 8 none
  statics := none }

def pool7 : Array CpInfo := pool [(1, u "java/io/Serializable"), (0, .class_ 1), (0, u "java/lang/Object"), (0, .class_ 3)] 3

/-- java/io/Serializable -/
def k7 : Class := { plain "java/io/Serializable" (some 0) with
  accessFlags := 1537
  interfaces := #[]
  cf := some (fileOf pool7 2 #[] #[] 1537 4 #[] #[])
  fields := #[]
  methods := #[]
  instanceTypes := #[]
  staticTypes := #[]
  resolved := Array.replicate 8 none
  statics := none }

/-- the primitive byte -/
def k8 : Class := { plain "byte" none with kind := .primitive 'B', accessFlags := 0x411 }
/-- [B -/
def k9 : Class := { plain "[B" (some 0) with kind := .array 8 .byte, interfaces := #[6, 7], accessFlags := 1041 }

/-- the primitive int -/
def k10 : Class := { plain "int" none with kind := .primitive 'I', accessFlags := 0x411 }
/-- [I -/
def k11 : Class := { plain "[I" (some 0) with kind := .array 10 .int, interfaces := #[6, 7], accessFlags := 1041 }

def heap : Heap := #[{ cls := 2, slots := #[.null, .null, .null, .null, .null, .null, .null, .null, .int 0, .null, .null, .null, .ref 1, .null, .null, .int 0, .int 0], vm := .statics 2 },
  { cls := 9, slots := #[.int 1, .int 1, .int 1, .int 1, .int 1, .int 1, .int 1], vm := .none }]
def classes : Array Class := #[k0, k1, k2, k3, k4, k5, k6, k7, k8, k9, k10, k11]
def interned : List (Array UInt16 × Addr) := []
def slotsUsed : Nat := 24
def theMethod : MethodId := ⟨1, 4⟩
def args0 : Array Value := #[.int 3, .long 5]
def aboutOver (below : List Frame) : State where
  vm := { classes := classes, interned := interned.toArray }
  heap := heap
  slotsUsed := slotsUsed
  threads := #[{ frames := .invoking theMethod args0 :: below }]
def below0 : List Frame := [.native { method := ⟨0, 0⟩, args := #[] }]
def about1 : State := aboutOver below0
def p0 : Program := .bare "" "" ""
def e0 : Env := launch0.env 0 0 0
theorem w_frames : about1.frames = Frame.invoking theMethod args0 :: below0 := rfl
set_option maxRecDepth 65536 in
theorem w_args : argsFit about1.vm theMethod args0 = true := by decide +kernel
set_option maxRecDepth 65536 in
theorem w_heap : heapFits about1 = true := by decide +kernel
set_option maxRecDepth 65536 in
theorem w_runnable : about1.curStatus? = some .runnable := by decide +kernel
set_option maxRecDepth 65536 in
theorem w_alone : about1.alone = true := by decide +kernel
set_option maxRecDepth 65536 in
theorem w_named : about1.methodNamed? x = some theMethod := by decide +kernel
set_option maxRecDepth 65536 in
theorem w_hears : about1.hears theMethod below0 = true := by decide +kernel
set_option maxRecDepth 65536 in
theorem w_ripe : about1.ripe theMethod args0 below0 = true := by decide +kernel
theorem w_running : about1.status = .running := rfl
set_option maxRecDepth 65536 in
theorem w_room : about1.hasRoom e0.platform room_1 = true :=
  launch0.hasRoom_least _ room_1 (by decide +kernel) (by decide +kernel) (by decide +kernel) (by decide +kernel) (by decide +kernel) (by decide +kernel)
theorem allAtoms_all (ts : List Jvm.Cond) (a : Array Jvm.Value) (st : Jvm.State) : (allAtoms ts).before a st = ts.all (fun c => c.before a st) := by
  induction ts with
  | nil => rfl
  | cons c t ih =>
    show (Jvm.Cond.and c (allAtoms t)).before a st = _
    rw [Jvm.Cond.before_and, ih, List.all_cons]
def words1 : List Jvm.Cond := Jvm.Cond.code x code maxLocals ret :: tables_1
/-- a 'code' word, met by the world's own term for the bytes: nothing is compared byte by byte -/
theorem code_word {y : MethodName} {bytes : ByteArray} {mx : Nat} {rt : Option FieldType} {a : Array Value} {s : State} {m : MethodId} {meth : Method} {c : Code} (h1 : s.methodNamed? y = some m) (h2 : s.vm.method? m = some meth) (h3 : meth.code = some c) (h4 : c.code = bytes)
    (h5 : (c.maxLocals == mx && c.exceptionTable.isEmpty && decide (c.maxStack ≤ mostOperands) && decide (meth.sig.returnType = rt) && !meth.locks && decide (parseMethodDescriptor y.desc = some meth.sig)) = true) : (Jvm.Cond.code y bytes mx rt).before a s = true := by
  simp only [Bool.and_eq_true, beq_iff_eq, Bool.not_eq_true', decide_eq_true_eq] at h5
  obtain ⟨⟨⟨⟨⟨g1, g2⟩, g3⟩, g4⟩, g5⟩, g6⟩ := h5
  simp [Cond.before, Cond.holds, Cond.value, h1, h2, h3, h4, g1, g2, g3, g4, g5, g6]
def isCode : Jvm.Cond → Bool
  | .code _ _ _ _ => true
  | _ => false
theorem all_split {L : List Jvm.Cond} {P : Jvm.Cond → Bool} (h1 : L.all (fun c => isCode c || P c) = true) (h2 : ∀ c ∈ L.filter isCode, P c = true) : L.all P = true := by
  refine List.all_eq_true.mpr fun c hc => ?_
  have h := List.all_eq_true.mp h1 c hc
  rcases Bool.eq_false_or_eq_true (isCode c) with hi | hi
  · exact h2 c (List.mem_filter.mpr ⟨hc, hi⟩)
  · simpa [hi] using h
set_option maxRecDepth 65536 in
theorem w_c0 : (Jvm.Cond.code x code maxLocals ret).before args0 about1 = true := code_word (m := ⟨1, 4⟩) (meth := k1m4) (c := k1c4) (by decide +kernel) rfl rfl rfl (by decide +kernel)
set_option maxRecDepth 65536 in
theorem w_c1 : (Jvm.Cond.code ({ cls := "com/example/dozynki/dozynki/StoreLayoutStagedDefinitionKeyPinLaw", name := "put", desc := "([BIJ)V" } : Jvm.MethodName) method_3_code (4 : Nat) (Option.none : Option Jvm.ClassFile.FieldType)).before args0 about1 = true := code_word (m := ⟨1, 2⟩) (meth := k1m2) (c := k1c2) (by decide +kernel) rfl rfl rfl (by decide +kernel)
set_option maxRecDepth 65536 in
theorem w_c2 : (Jvm.Cond.code ({ cls := "com/example/dozynki/dozynki/StoreLayout", name := "stagedDefinitionKey", desc := "([B)[B" } : Jvm.MethodName) prog_34_method_25_code (1 : Nat) (Option.some (Jvm.ClassFile.FieldType.array Jvm.ClassFile.FieldType.byte))).before args0 about1 = true := code_word (m := ⟨2, 1⟩) (meth := k2m1) (c := k2c1) (by decide +kernel) rfl rfl rfl (by decide +kernel)
set_option maxRecDepth 65536 in
theorem w_c3 : (Jvm.Cond.code ({ cls := "java/util/Arrays", name := "copyOfRange", desc := "([BII)[B" } : Jvm.MethodName) jdk_65_method_132_code (3 : Nat) (Option.some (Jvm.ClassFile.FieldType.array Jvm.ClassFile.FieldType.byte))).before args0 about1 = true := code_word (m := ⟨3, 2⟩) (meth := k3m2) (c := k3c2) (by decide +kernel) rfl rfl rfl (by decide +kernel)
set_option maxRecDepth 65536 in
theorem w_c4 : (Jvm.Cond.code ({ cls := "java/util/Arrays", name := "copyOfRangeByte", desc := "([BII)[B" } : Jvm.MethodName) jdk_65_method_133_code (5 : Nat) (Option.some (Jvm.ClassFile.FieldType.array Jvm.ClassFile.FieldType.byte))).before args0 about1 = true := code_word (m := ⟨3, 3⟩) (meth := k3m3) (c := k3c3) (by decide +kernel) rfl rfl rfl (by decide +kernel)
set_option maxRecDepth 65536 in
theorem w_c5 : (Jvm.Cond.code ({ cls := "java/util/Arrays", name := "checkLength", desc := "(II)V" } : Jvm.MethodName) jdk_65_method_131_code (2 : Nat) (Option.none : Option Jvm.ClassFile.FieldType)).before args0 about1 = true := code_word (m := ⟨3, 1⟩) (meth := k3m1) (c := k3c1) (by decide +kernel) rfl rfl rfl (by decide +kernel)
set_option maxRecDepth 65536 in
theorem w_c6 : (Jvm.Cond.code ({ cls := "java/lang/Math", name := "min", desc := "(II)I" } : Jvm.MethodName) jdk_29_method_69_code (2 : Nat) (Option.some Jvm.ClassFile.FieldType.int)).before args0 about1 = true := code_word (m := ⟨4, 1⟩) (meth := k4m1) (c := k4c1) (by decide +kernel) rfl rfl rfl (by decide +kernel)
set_option maxRecDepth 65536 in
theorem w_c7 : (Jvm.Cond.code ({ cls := "com/example/dozynki/dozynki/StoreLayoutStagedDefinitionKeyPinLaw", name := "cell", desc := "([BIIJ)Z" } : Jvm.MethodName) method_4_code (5 : Nat) (Option.some Jvm.ClassFile.FieldType.boolean)).before args0 about1 = true := code_word (m := ⟨1, 3⟩) (meth := k1m3) (c := k1c3) (by decide +kernel) rfl rfl rfl (by decide +kernel)
set_option maxRecDepth 65536 in
theorem w_c8 : (Jvm.Cond.code ({ cls := "com/example/dozynki/dozynki/StoreLayoutStagedDefinitionKeyPinLaw", name := "at", desc := "(JI)B" } : Jvm.MethodName) method_2_code (3 : Nat) (Option.some Jvm.ClassFile.FieldType.byte)).before args0 about1 = true := code_word (m := ⟨1, 1⟩) (meth := k1m1) (c := k1c1) (by decide +kernel) rfl rfl rfl (by decide +kernel)
def codes1 : List Jvm.Cond := [Jvm.Cond.code x code maxLocals ret, Jvm.Cond.code ({ cls := "com/example/dozynki/dozynki/StoreLayoutStagedDefinitionKeyPinLaw", name := "put", desc := "([BIJ)V" } : Jvm.MethodName) method_3_code (4 : Nat) (Option.none : Option Jvm.ClassFile.FieldType), Jvm.Cond.code ({ cls := "com/example/dozynki/dozynki/StoreLayout", name := "stagedDefinitionKey", desc := "([B)[B" } : Jvm.MethodName) prog_34_method_25_code (1 : Nat) (Option.some (Jvm.ClassFile.FieldType.array Jvm.ClassFile.FieldType.byte)), Jvm.Cond.code ({ cls := "java/util/Arrays", name := "copyOfRange", desc := "([BII)[B" } : Jvm.MethodName) jdk_65_method_132_code (3 : Nat) (Option.some (Jvm.ClassFile.FieldType.array Jvm.ClassFile.FieldType.byte)), Jvm.Cond.code ({ cls := "java/util/Arrays", name := "copyOfRangeByte", desc := "([BII)[B" } : Jvm.MethodName) jdk_65_method_133_code (5 : Nat) (Option.some (Jvm.ClassFile.FieldType.array Jvm.ClassFile.FieldType.byte)), Jvm.Cond.code ({ cls := "java/util/Arrays", name := "checkLength", desc := "(II)V" } : Jvm.MethodName) jdk_65_method_131_code (2 : Nat) (Option.none : Option Jvm.ClassFile.FieldType), Jvm.Cond.code ({ cls := "java/lang/Math", name := "min", desc := "(II)I" } : Jvm.MethodName) jdk_29_method_69_code (2 : Nat) (Option.some Jvm.ClassFile.FieldType.int), Jvm.Cond.code ({ cls := "com/example/dozynki/dozynki/StoreLayoutStagedDefinitionKeyPinLaw", name := "cell", desc := "([BIIJ)Z" } : Jvm.MethodName) method_4_code (5 : Nat) (Option.some Jvm.ClassFile.FieldType.boolean), Jvm.Cond.code ({ cls := "com/example/dozynki/dozynki/StoreLayoutStagedDefinitionKeyPinLaw", name := "at", desc := "(JI)B" } : Jvm.MethodName) method_2_code (3 : Nat) (Option.some Jvm.ClassFile.FieldType.byte)]
set_option maxRecDepth 65536 in
theorem codes_eq : words1.filter isCode = codes1 := rfl
theorem w_codes : ∀ c ∈ words1.filter isCode, c.before args0 about1 = true := by
  rw [codes_eq]
  intro c hc
  simp only [codes1, List.mem_cons, List.not_mem_nil, or_false] at hc
  rcases hc with rfl | rfl | rfl | rfl | rfl | rfl | rfl | rfl | rfl
  · exact w_c0
  · exact w_c1
  · exact w_c2
  · exact w_c3
  · exact w_c4
  · exact w_c5
  · exact w_c6
  · exact w_c7
  · exact w_c8
set_option maxRecDepth 65536 in
theorem w_t1 : (words1.take 24).all (fun c => isCode c || c.before args0 about1) = true := by decide +kernel
set_option maxRecDepth 65536 in
theorem w_t2 : (words1.drop 24).all (fun c => isCode c || c.before args0 about1) = true := by decide +kernel
theorem w_tables : (allAtoms (Jvm.Cond.code x code maxLocals ret :: tables_1)).before args0 about1 = true := by
  rw [allAtoms_all]
  show words1.all (fun c => c.before args0 about1) = true
  refine all_split ?_ w_codes
  rw [← List.take_append_drop 24 words1, List.all_append, w_t1, w_t2]
  rfl
set_option maxRecDepth 65536 in
theorem w_case : (Jvm.Cond.and given_1 narrow_1).before args0 about1 = true := by decide +kernel
theorem w_applies : (headSpec (Jvm.Cond.code x code maxLocals ret :: tables_1) room_1).applies x e0.platform about1 = true :=
  (Spec.applies_iff w_frames).mpr ⟨w_running, w_runnable, w_alone, w_named, w_hears, w_ripe, w_room, w_tables⟩
theorem atStart : AtStart classFile x code maxLocals ret World_1 tables_1 room_1 Calls_1 rest_1 Pre_1 launch0 p0 e0 about1 theMethod args0 below0 :=
  ⟨lists_1, trivial, launch0.admits_env _ _ _, launch0.least_env, fairChoices_fair.cas, fairChoices_fair.clock, w_frames, w_args, w_heap, w_applies, trivial, trivial, w_case⟩
end start1
theorem witness_1 : WitnessClaimed_1 := ⟨start1.p0, start1.e0, start1.about1, start1.theMethod, start1.args0, start1.below0, start1.atStart⟩
end Jvm.Pilot.@@N@@
