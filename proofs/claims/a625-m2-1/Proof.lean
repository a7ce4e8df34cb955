import JvmDerived
import JvmDerived.Pilot.@@N@@Statement
import JvmDerived.Pilot.@@N@@Code
set_option linter.unusedVariables false
set_option linter.unusedSimpArgs false
namespace Jvm.Pilot.@@N@@
open Jvm Jvm.ClassFile Sem Op Lib Jvm.Free Jvm.Stand Jvm.LawKit Jvm.RoadKit Bundle Jvm.Pilot.@@N@@.Jvm.D
section Own
variable {p : Program} {l : Launch} {e : Env} {R : Room} {s : State} {m : MethodId} {args : Array Value} {below : List Frame} {meth : Method} {c : Code} {T T' : State} {locs : List Loc} {cells slots : Nat} {Φ : State → Outcome → Prop} {g g' : JFrame}
/-- from (T, g) the run comes to an end that Φ takes -/
def Go (p : Program) (e : Env) (below : List Frame) (Φ : State → Outcome → Prop) (T : State) (g : JFrame) : Prop := ∃ t o, Steps p.tables e below (T.setTop g) t ∧ Φ t o
theorem Go.of (h : ∀ t, Steps p.tables e below (T'.setTop g') t → Steps p.tables e below (T.setTop g) t) (k : Go p e below Φ T' g') : Go p e below Φ T g := by
  obtain ⟨t, o, h1, h2⟩ := k
  exact ⟨t, o, h t h1, h2⟩
theorem Go.tr (h : Steps p.tables e below (T.setTop g) (T'.setTop g')) (k : Go p e below Φ T' g') : Go p e below Φ T g := by
  obtain ⟨t, o, h1, h2⟩ := k
  exact ⟨t, o, h.trans h1, h2⟩
/-- what a body owes at its end -/
def EndQ (s : State) (below : List Frame) (Q : Option Value → Heap → List Loc → Prop) (C S : Nat) (t : State) (o : Outcome) : Prop := t.status = .running ∧ Ended t below o ∧ ∃ v L, o = .returned v ∧ Q v t.heap L ∧ FrameEnd s o t L C S
theorem Go.ret (X : Stand p l e R s m args below meth c T locs cells slots) (hx : p.tables.exec = Jvm.exec) (hlocks : meth.locks = false) {pc : Nat} {Ls : Array Slot} {w : Value} {t : FieldType} {i : Instr} {rest : List Value} (hret : meth.sig.returnType = some t) (hn : narrow t w = w)
    (hi : (i = .ireturn ∧ (t = .int ∨ t = .boolean ∨ t = .byte ∨ t = .char ∨ t = .short) ∧ ∃ z, w = .int z) ∨ (i = .lreturn ∧ t = .long ∧ ∃ z, w = .long z) ∨ (i = .dreturn ∧ t = .double ∧ ∃ z, w = .double z) ∨ (i = .freturn ∧ t = .float ∧ ∃ z, w = .float z) ∨ (i = .areturn ∧ t.isReference = true ∧ w.isRef = true))
    (hd : decode c.code pc = .ok (i, 1)) {Q : Option Value → Heap → List Loc → Prop} {C S : Nat} (hC : cells ≤ C) (hS : slots ≤ S) (hQ : Q (some w) T.heap locs) : Go p e below (EndQ s below Q C S) T (mkF m pc Ls (w :: rest)) := by
  obtain ⟨fs, hr, hrun, hended, hW, hsame⟩ := X.leave (v := some w) (fun h => by rw [hret] at h; cases h) hlocks
  exact ⟨_, _, retOut X hx hret hn hi hd hr, hrun, hended, _, _, rfl, hQ, ⟨_, rfl⟩, hW, hsame.mono hC hS⟩
theorem Go.retV (X : Stand p l e R s m args below meth c T locs cells slots) (hx : p.tables.exec = Jvm.exec) (hlocks : meth.locks = false) {pc : Nat} {Ls : Array Slot} (hret : meth.sig.returnType = none)
    (hd : decode c.code pc = .ok (.return_, 1)) {Q : Option Value → Heap → List Loc → Prop} {C S : Nat} (hC : cells ≤ C) (hS : slots ≤ S) (hQ : Q none T.heap locs) : Go p e below (EndQ s below Q C S) T (mkF m pc Ls []) := by
  obtain ⟨fs, hr, hrun, hended, hW, hsame⟩ := X.leave (v := none) (fun _ => rfl) hlocks
  exact ⟨_, _, X.returnOut hx hret hd hr, hrun, hended, _, _, rfl, hQ, ⟨_, rfl⟩, hW, hsame.mono hC hS⟩
def own_ushr (x y : Int32) : Int32 := (x.toUInt32 >>> (y &&& 31).toUInt32).toInt32
def own_ushrL (x : Int64) (y : Int32) : Int64 := (x.toUInt64 >>> (y &&& 0x3f).toInt64.toUInt64).toInt64
theorem own_one {v : Int32} (h : v = 1) : narrow .boolean (.int v) = .int v := by rw [h]; rfl
theorem own_nar_ref {t : FieldType} {v : Value} (h : v.isRef = true) (ht : t.isReference = true := by rfl) : narrow t v = v := by cases v <;> simp [Value.isRef] at h <;> cases t <;> first | rfl | cases ht
theorem own_fits_ref {t : FieldType} {v : Value} (h : v.isRef = true) (ht : t.isReference = true := by rfl) : fits t v = true := by cases v <;> simp [Value.isRef] at h <;> cases t <;> first | rfl | cases ht
end Own
theorem own_d1_0 : decode method_2_code 0 = .ok (.iload_n 2, 1) := by decide +kernel
theorem own_d1_1 : decode method_2_code 1 = .ok (.iload_n 3, 1) := by decide +kernel
theorem own_d1_2 : decode method_2_code 2 = .ok (.iushr, 1) := by decide +kernel
theorem own_d1_3 : decode method_2_code 3 = .ok (.iconst 1, 1) := by decide +kernel
theorem own_d1_4 : decode method_2_code 4 = .ok (.iand, 1) := by decide +kernel
theorem own_d1_5 : decode method_2_code 5 = .ok (.ifCond .eq 5, 3) := by decide +kernel
theorem own_d1_8 : decode method_2_code 8 = .ok (.iconst 0, 1) := by decide +kernel
theorem own_d1_9 : decode method_2_code 9 = .ok (.ireturn, 1) := by decide +kernel
theorem own_d1_10 : decode method_2_code 10 = .ok (.lload_n 0, 1) := by decide +kernel
theorem own_d1_11 : decode method_2_code 11 = .ok (.bipush 8, 2) := by decide +kernel
theorem own_d1_13 : decode method_2_code 13 = .ok (.iload_n 3, 1) := by decide +kernel
theorem own_d1_14 : decode method_2_code 14 = .ok (.imul, 1) := by decide +kernel
theorem own_d1_15 : decode method_2_code 15 = .ok (.lushr, 1) := by decide +kernel
theorem own_d1_16 : decode method_2_code 16 = .ok (.l2i, 1) := by decide +kernel
theorem own_d1_17 : decode method_2_code 17 = .ok (.i2b, 1) := by decide +kernel
theorem own_d1_18 : decode method_2_code 18 = .ok (.ireturn, 1) := by decide +kernel
theorem own_d2_0 : decode prog_34_method_12_code 0 = .ok (.aload_n 0, 1) := by decide +kernel
theorem own_d2_1 : decode prog_34_method_12_code 1 = .ok (.invokestatic 69, 3) := by decide +kernel
theorem own_d2_4 : decode prog_34_method_12_code 4 = .ok (.aload_n 0, 1) := by decide +kernel
theorem own_d2_5 : decode prog_34_method_12_code 5 = .ok (.arraylength, 1) := by decide +kernel
theorem own_d2_6 : decode prog_34_method_12_code 6 = .ok (.if_icmp .ne 7, 3) := by decide +kernel
theorem own_d2_9 : decode prog_34_method_12_code 9 = .ok (.iconst 1, 1) := by decide +kernel
theorem own_d2_10 : decode prog_34_method_12_code 10 = .ok (.goto 4, 3) := by decide +kernel
theorem own_d2_13 : decode prog_34_method_12_code 13 = .ok (.iconst 0, 1) := by decide +kernel
theorem own_d2_14 : decode prog_34_method_12_code 14 = .ok (.ireturn, 1) := by decide +kernel
theorem own_d3_0 : decode prog_34_method_14_code 0 = .ok (.iconst 0, 1) := by decide +kernel
theorem own_d3_1 : decode prog_34_method_14_code 1 = .ok (.istore_n 1, 1) := by decide +kernel
theorem own_d3_2 : decode prog_34_method_14_code 2 = .ok (.iload_n 1, 1) := by decide +kernel
theorem own_d3_3 : decode prog_34_method_14_code 3 = .ok (.aload_n 0, 1) := by decide +kernel
theorem own_d3_4 : decode prog_34_method_14_code 4 = .ok (.arraylength, 1) := by decide +kernel
theorem own_d3_5 : decode prog_34_method_14_code 5 = .ok (.if_icmp .ge 15, 3) := by decide +kernel
theorem own_d3_8 : decode prog_34_method_14_code 8 = .ok (.aload_n 0, 1) := by decide +kernel
theorem own_d3_9 : decode prog_34_method_14_code 9 = .ok (.iload_n 1, 1) := by decide +kernel
theorem own_d3_10 : decode prog_34_method_14_code 10 = .ok (.baload, 1) := by decide +kernel
theorem own_d3_11 : decode prog_34_method_14_code 11 = .ok (.ifCond .eq 9, 3) := by decide +kernel
theorem own_d3_14 : decode prog_34_method_14_code 14 = .ok (.iinc 1 1, 3) := by decide +kernel
theorem own_d3_17 : decode prog_34_method_14_code 17 = .ok (.goto (-15), 3) := by decide +kernel
theorem own_d3_20 : decode prog_34_method_14_code 20 = .ok (.iload_n 1, 1) := by decide +kernel
theorem own_d3_21 : decode prog_34_method_14_code 21 = .ok (.ireturn, 1) := by decide +kernel
theorem own_pn0 : plainName "com/example/dozynki/dozynki/StoreLayoutDefinesSetPinLaw" = true := by first | (simp [plainName, overriddenIn]; done) | decide +kernel
theorem own_pn1 : plainName "com/example/dozynki/dozynki/StoreLayout" = true := by first | (simp [plainName, overriddenIn]; done) | decide +kernel
theorem own_pd0 : parseMethodDescriptor "([B)I" = some ⟨[(.array .byte)], some .int⟩ := by decide +kernel
theorem own_pd1 : parseMethodDescriptor "(JII)B" = some ⟨[.long, .int, .int], some .byte⟩ := by decide +kernel
theorem own_pd2 : parseMethodDescriptor "([B)Z" = some ⟨[(.array .byte)], some .boolean⟩ := by decide +kernel
def own_byte (d : Int64) (zm : Int32) (i : Int32) : Int32 := (if ((own_ushr zm i) &&& (1 : Int32)) = (0 : Int32) then (((own_ushrL d ((8 : Int32) * i)).toInt32).toInt8.toInt32) else (0 : Int32))
theorem own_ef1 (m : MethodId) (d : Int64) (zm : Int32) (i : Int32) : entryFrame m #[(.long d), (.int zm), (.int i)] 4 = mkF m 0 #[.val (.long d), .second, .val (.int zm), .val (.int i)] [] := by first | (simp [entryFrame, mkF, argsToLocals, Value.category]; done) | rfl
def Q1 (Z : State) (d : Int64) (zm : Int32) (i : Int32) (h0 : Heap) (n0 : Nat) (vr : Option Value) (hr : Heap) (Lr : List Loc) : Prop := vr = some (.int (own_byte d zm i)) ∧ Fr n0 Lr ∧ hr = h0
set_option maxRecDepth 65536 in
set_option maxHeartbeats 40000000 in
theorem rm1 (l : Launch) (Z : State) (a0 : Array Value) (hw : ∀ d ∈ tables_1, d.before a0 Z = true) (ws : List Jvm.Cond) (d : Int64) (zm : Int32) (i : Int32) (h0 : Heap) (n0 : Nat) (Z0 : n0 ≤ h0.size) :
    MetFree l (⟨"com/example/dozynki/dozynki/StoreLayoutDefinesSetPinLaw", "byteAt", "(JII)B"⟩ : MethodName) (head1 (Jvm.Cond.code (⟨"com/example/dozynki/dozynki/StoreLayoutDefinesSetPinLaw", "byteAt", "(JII)B"⟩ : MethodName) method_2_code 4 (some .byte) :: ws) ({ frames := 0, cells := 0, slots := 0, locals := 0 } : Room)) (fun aQ UQ => aQ = #[(.long d), (.int zm), (.int i)] ∧ Z.Warmed39 UQ.vm ∧ UQ.heap = h0) (fun _ _ _ _ _ => True) (fun _ UQ oQ VQ => ∃ vQ LQ, oQ = .returned vQ ∧ Q1 Z d zm i h0 n0 vQ VQ.heap LQ ∧ FrameEnd UQ oQ VQ LQ ({ frames := 0, cells := 0, slots := 0, locals := 0 } : Room).cells ({ frames := 0, cells := 0, slots := 0, locals := 0 } : Room).slots) := by
  refine MetFree.of_bodySF (plainFor_of_name own_pn0) hisR ?_
  intro p e s m args below meth c s₁ Bd hml0 hP hK
  obtain ⟨rfl, hZ, hh⟩ := hP
  have hx := Bd.exec
  have hby := Bd.bytes
  have hml : c.maxLocals = 4 := hml0
  have hown : s.vm.findClass "com/example/dozynki/dozynki/StoreLayoutDefinesSetPinLaw" = some m.cls := findClass_of_methodNamed Bd.named
  have hnm := (name_of_methodNamed Bd.named Bd.method).1
  have X0 : Stand p l e ({ frames := 0, cells := 0, slots := 0, locals := 0 } : Room) s m #[(.long d), (.int zm), (.int i)] below meth c s₁ [] 0 0 := Stand.of_body Bd
  have e0 : s₁.heap = h0 := by rw [← hh, Bd.state]; rfl
  have N0 := Fr.nil n0
  show Go p e below (EndQ s below (Q1 Z d zm i h0 n0) ({ frames := 0, cells := 0, slots := 0, locals := 0 } : Room).cells ({ frames := 0, cells := 0, slots := 0, locals := 0 } : Room).slots) s₁ (entryFrame m #[(.long d), (.int zm), (.int i)] 4)
  obtain ⟨Φ, hΦ⟩ : ∃ Φ, Φ = EndQ s below (Q1 Z d zm i h0 n0) ({ frames := 0, cells := 0, slots := 0, locals := 0 } : Room).cells ({ frames := 0, cells := 0, slots := 0, locals := 0 } : Room).slots := ⟨_, rfl⟩
  rw [← hΦ, own_ef1]
  show Go p e below Φ s₁ (mkF m 0 #[.val (.long d), .second, .val (.int zm), .val (.int i)] [])
  refine Go.of (fun t k => XS.iloadN X0.here hx rfl (hb hby own_d1_0) rfl  k) ?_
  show Go p e below Φ s₁ (mkF m 1 #[.val (.long d), .second, .val (.int zm), .val (.int i)] [(.int zm)])
  refine Go.of (fun t k => XS.iloadN X0.here hx rfl (hb hby own_d1_1) rfl  k) ?_
  show Go p e below Φ s₁ (mkF m 2 #[.val (.long d), .second, .val (.int zm), .val (.int i)] [(.int i), (.int zm)])
  refine Go.of (fun t k => XS.iushr X0.here hx rfl (hb hby own_d1_2) rfl k) ?_
  show Go p e below Φ s₁ (mkF m 3 #[.val (.long d), .second, .val (.int zm), .val (.int i)] [(.int (own_ushr zm i))])
  refine Go.of (fun t k => XS.iconst X0.here hx rfl (hb hby own_d1_3) k) ?_
  show Go p e below Φ s₁ (mkF m 4 #[.val (.long d), .second, .val (.int zm), .val (.int i)] [(.int (1 : Int32)), (.int (own_ushr zm i))])
  refine Go.of (fun t k => XS.iand X0.here hx rfl (hb hby own_d1_4) rfl k) ?_
  show Go p e below Φ s₁ (mkF m 5 #[.val (.long d), .second, .val (.int zm), .val (.int i)] [(.int ((own_ushr zm i) &&& (1 : Int32)))])
  by_cases hc5 : ((own_ushr zm i) &&& (1 : Int32)) = (0 : Int32)
  · refine Go.of (fun t k => XS.ifYes X0.here hx rfl (pc0 := 5) (pc' := 10) rfl (hb hby own_d1_5) rfl (XT.i0_eq_t hc5) (by decide) (by decide) k) ?_
    show Go p e below Φ s₁ (mkF m 10 #[.val (.long d), .second, .val (.int zm), .val (.int i)] [])
    refine Go.of (fun t k => XS.lloadN X0.here hx rfl (hb hby own_d1_10) rfl  k) ?_
    show Go p e below Φ s₁ (mkF m 11 #[.val (.long d), .second, .val (.int zm), .val (.int i)] [(.long d)])
    refine Go.of (fun t k => XS.bipush X0.here hx rfl (hb hby own_d1_11) k) ?_
    show Go p e below Φ s₁ (mkF m 13 #[.val (.long d), .second, .val (.int zm), .val (.int i)] [(.int (8 : Int32)), (.long d)])
    refine Go.of (fun t k => XS.iloadN X0.here hx rfl (hb hby own_d1_13) rfl  k) ?_
    show Go p e below Φ s₁ (mkF m 14 #[.val (.long d), .second, .val (.int zm), .val (.int i)] [(.int i), (.int (8 : Int32)), (.long d)])
    refine Go.of (fun t k => XS.imul X0.here hx rfl (hb hby own_d1_14) rfl k) ?_
    show Go p e below Φ s₁ (mkF m 15 #[.val (.long d), .second, .val (.int zm), .val (.int i)] [(.int ((8 : Int32) * i)), (.long d)])
    refine Go.of (fun t k => XS.lushr X0.here hx rfl (hb hby own_d1_15) rfl k) ?_
    show Go p e below Φ s₁ (mkF m 16 #[.val (.long d), .second, .val (.int zm), .val (.int i)] [(.long (own_ushrL d ((8 : Int32) * i)))])
    refine Go.of (fun t k => XS.l2i X0.here hx rfl (hb hby own_d1_16) rfl k) ?_
    show Go p e below Φ s₁ (mkF m 17 #[.val (.long d), .second, .val (.int zm), .val (.int i)] [(.int ((own_ushrL d ((8 : Int32) * i)).toInt32))])
    refine Go.of (fun t k => XS.i2b X0.here hx rfl (hb hby own_d1_17) rfl k) ?_
    show Go p e below Φ s₁ (mkF m 18 #[.val (.long d), .second, .val (.int zm), .val (.int i)] [(.int (((own_ushrL d ((8 : Int32) * i)).toInt32).toInt8.toInt32))])
    rw [hΦ]
    refine Go.ret X0 hx Bd.notSynchronized Bd.returns (XT.narrow_b _) (Or.inl ⟨rfl, Or.inr (Or.inr (Or.inl rfl)), _, rfl⟩) (hb hby own_d1_18) (by decide) (by decide) ?_
    rw [e0]
    exact ⟨by rw [own_byte, if_pos hc5], N0, rfl⟩
  · refine Go.of (fun t k => XS.ifNo X0.here hx rfl (hb hby own_d1_5) rfl (XT.i0_eq_f hc5) k) ?_
    show Go p e below Φ s₁ (mkF m 8 #[.val (.long d), .second, .val (.int zm), .val (.int i)] [])
    refine Go.of (fun t k => XS.iconst X0.here hx rfl (hb hby own_d1_8) k) ?_
    show Go p e below Φ s₁ (mkF m 9 #[.val (.long d), .second, .val (.int zm), .val (.int i)] [(.int (0 : Int32))])
    rw [hΦ]
    refine Go.ret X0 hx Bd.notSynchronized Bd.returns rfl (Or.inl ⟨rfl, Or.inr (Or.inr (Or.inl rfl)), _, rfl⟩) (hb hby own_d1_9) (by decide) (by decide) ?_
    rw [e0]
    exact ⟨by rw [own_byte, if_neg hc5], N0, rfl⟩
def own_end : List Int32 → Int32
  | [] => 0
  | b :: t => if b = 0 then 0 else own_end t + 1
theorem own_toInt (i : Nat) (h : i < 1000) : (Int32.ofNat i).toInt = (i : Int) := Int32.toInt_ofNat_small (by omega)
theorem own_nlt {i n : Nat} (h : n ≤ i) (hi : i < 1000) : ¬ (Int32.ofNat i < Int32.ofNat n) := by
  rw [Int32.lt_iff_toInt_lt, own_toInt i hi, own_toInt n (by omega)]; omega
theorem own_ilt {i n : Nat} (h : i < n) (hi : n < 1000) : Int32.ofNat i < Int32.ofNat n := by
  rw [Int32.lt_iff_toInt_lt, own_toInt i (by omega), own_toInt n hi]; omega
theorem own_inb {i n : Nat} (h : i < n) (hi : n < 1000) : ¬ (Int32.ofNat i < 0) ∧ Int32.ofNat i < Int32.ofNat n :=
  ⟨own_nlt (n := 0) (Nat.zero_le _) (by omega), own_ilt h hi⟩
theorem own_clamp (i : Nat) (h : i < 1000) : (Int32.ofNat i).toNatClampNeg = i := clamp_of rfl (by omega)
theorem own_getD (bs : List Int32) (i : Nat) (h : i < bs.length) (hi : i < 1000) : (bs.map Value.int).getD (Int32.ofNat i).toNatClampNeg (.int (0 : Int32)) = .int (bs[i]'h) := by
  rw [own_clamp i hi, List.getD_eq_getElem?_getD, List.getElem?_map, List.getElem?_eq_getElem h]; rfl
theorem own_drop (bs : List Int32) (i : Nat) (h : i < bs.length) : own_end (bs.drop i) = if (bs[i]'h) = 0 then 0 else own_end (bs.drop (i + 1)) + 1 := by
  rw [List.drop_eq_getElem_cons h]; rfl
theorem own_step (bs : List Int32) (i : Nat) (h : i < bs.length) (hz : ¬ ((bs[i]'h) = (0 : Int32))) (hd : own_end bs = Int32.ofNat i + own_end (bs.drop i)) : own_end bs = Int32.ofNat (i + 1) + own_end (bs.drop (i + 1)) := by
  rw [hd, own_drop bs i h, if_neg hz, inc_ofNat, Int32.add_comm (own_end _) 1, Int32.add_assoc]
theorem own_stop (bs : List Int32) (i : Nat) (h : i = bs.length) (hd : own_end bs = Int32.ofNat i + own_end (bs.drop i)) : Int32.ofNat i = own_end bs := by
  rw [hd, h, List.drop_length]; exact (Int32.add_zero _).symm
theorem own_zero (bs : List Int32) (i : Nat) (h : i < bs.length) (hz : (bs[i]'h) = (0 : Int32)) (hd : own_end bs = Int32.ofNat i + own_end (bs.drop i)) : Int32.ofNat i = own_end bs := by
  rw [hd, own_drop bs i h, if_pos hz]; exact (Int32.add_zero _).symm
theorem own_ef3 (m : MethodId) (a : Addr) : entryFrame m #[(.ref a)] 2 = mkF m 0 #[.val (.ref a), .unset] [] := by first | (simp [entryFrame, mkF, argsToLocals, Value.category]; done) | rfl
def Q3 (Z : State) (a : Addr) (k : ClassId) (n : Int32) (bs : List Int32) (h0 : Heap) (n0 : Nat) (vr : Option Value) (hr : Heap) (Lr : List Loc) : Prop := vr = some (.int (own_end bs)) ∧ Fr n0 Lr ∧ hr = h0
set_option maxRecDepth 65536 in
set_option maxHeartbeats 40000000 in
theorem rm3 (l : Launch) (Z : State) (a0 : Array Value) (hw : ∀ d ∈ tables_1, d.before a0 Z = true) (ws : List Jvm.Cond) (a : Addr) (k : ClassId) (n : Int32) (bs : List Int32) (h0 : Heap) (n0 : Nat) (Z0 : n0 ≤ h0.size) (V_a : Arv Z h0 a k .byte n (bs.map Value.int) (.int (0 : Int32))) (hn : n = Int32.ofNat bs.length) (hl : bs.length < 100) :
    MetFree l (⟨"com/example/dozynki/dozynki/StoreLayout", "setSpecEnd", "([B)I"⟩ : MethodName) (head1 (Jvm.Cond.code (⟨"com/example/dozynki/dozynki/StoreLayout", "setSpecEnd", "([B)I"⟩ : MethodName) prog_34_method_14_code 2 (some .int) :: ws) ({ frames := 0, cells := 0, slots := 0, locals := 0 } : Room)) (fun aQ UQ => aQ = #[(.ref a)] ∧ Z.Warmed39 UQ.vm ∧ UQ.heap = h0) (fun _ _ _ _ _ => True) (fun _ UQ oQ VQ => ∃ vQ LQ, oQ = .returned vQ ∧ Q3 Z a k n bs h0 n0 vQ VQ.heap LQ ∧ FrameEnd UQ oQ VQ LQ ({ frames := 0, cells := 0, slots := 0, locals := 0 } : Room).cells ({ frames := 0, cells := 0, slots := 0, locals := 0 } : Room).slots) := by
  refine MetFree.of_bodySF (plainFor_of_name own_pn1) hisR ?_
  intro p e s m args below meth c s₁ Bd hml0 hP hK
  obtain ⟨rfl, hZ, hh⟩ := hP
  have hx := Bd.exec
  have hby := Bd.bytes
  have hml : c.maxLocals = 2 := hml0
  have hown : s.vm.findClass "com/example/dozynki/dozynki/StoreLayout" = some m.cls := findClass_of_methodNamed Bd.named
  have hnm := (name_of_methodNamed Bd.named Bd.method).1
  have X0 : Stand p l e ({ frames := 0, cells := 0, slots := 0, locals := 0 } : Room) s m #[(.ref a)] below meth c s₁ [] 0 0 := Stand.of_body Bd
  have e0 : s₁.heap = h0 := by rw [← hh, Bd.state]; rfl
  have N0 := Fr.nil n0
  show Go p e below (EndQ s below (Q3 Z a k n bs h0 n0) ({ frames := 0, cells := 0, slots := 0, locals := 0 } : Room).cells ({ frames := 0, cells := 0, slots := 0, locals := 0 } : Room).slots) s₁ (entryFrame m #[(.ref a)] 2)
  obtain ⟨Φ, hΦ⟩ : ∃ Φ, Φ = EndQ s below (Q3 Z a k n bs h0 n0) ({ frames := 0, cells := 0, slots := 0, locals := 0 } : Room).cells ({ frames := 0, cells := 0, slots := 0, locals := 0 } : Room).slots := ⟨_, rfl⟩
  rw [← hΦ, own_ef3]
  show Go p e below Φ s₁ (mkF m 0 #[.val (.ref a), .unset] [])
  refine Go.of (fun t k => XS.iconst X0.here hx rfl (hb hby own_d3_0) k) ?_
  show Go p e below Φ s₁ (mkF m 1 #[.val (.ref a), .unset] [(.int (0 : Int32))])
  refine Go.of (fun t k => XS.istoreN X0.here hx rfl (hb hby own_d3_1) rfl (l' := #[.val (.ref a), .val (.int (0 : Int32))]) rfl k) ?_
  show Go p e below Φ s₁ (mkF m 2 #[.val (.ref a), .val (.int (0 : Int32))] [])
  suffices key : ∀ (r i : Nat), i + r = bs.length → own_end bs = Int32.ofNat i + own_end (bs.drop i) → ∀ T, Stand p l e ({ frames := 0, cells := 0, slots := 0, locals := 0 } : Room) s m #[(.ref a)] below meth c T [] 0 0 → T.heap = h0 → Go p e below Φ T (mkF m 2 #[.val (.ref a), .val (.int (Int32.ofNat i))] []) by
    exact key bs.length 0 (Nat.zero_add _) (by rw [List.drop_zero]; exact (Int32.zero_add _).symm) _ X0 e0
  intro r
  induction r with
  | zero =>
    intro i hi hd T X eT
    have hno : ¬ (Int32.ofNat i < n) := by rw [hn]; exact own_nlt (by omega) (by omega)
    refine Go.of (fun t k => XS.iloadN X.here hx rfl (hb hby own_d3_2) rfl  k) ?_
    show Go p e below Φ T (mkF m 3 #[.val (.ref a), .val (.int (Int32.ofNat i))] [(.int (Int32.ofNat i))])
    refine Go.of (fun t k => XS.aloadN X.here hx rfl (hb hby own_d3_3) rfl rfl  k) ?_
    show Go p e below Φ T (mkF m 4 #[.val (.ref a), .val (.int (Int32.ofNat i))] [(.ref a), (.int (Int32.ofNat i))])
    obtain ⟨cl4, Ar4, q4, S4, N4, H4, G4⟩ := id V_a
    refine Go.of (fun t k => X.arraylength hx (by rw [eT]; exact Ar4.1) (State.isArrayOf_alike hZ.alike Ar4.2.1) (g := (mkF m 4 #[.val (.ref a), .val (.int (Int32.ofNat i))] [(.ref a), (.int (Int32.ofNat i))])) rfl rfl (hb hby own_d3_4) t k) ?_
    rw [len_of S4 N4]
    show Go p e below Φ T (mkF m 5 #[.val (.ref a), .val (.int (Int32.ofNat i))] [(.int n), (.int (Int32.ofNat i))])
    refine Go.of (fun t k => XS.icmpYes X.here hx rfl (pc0 := 5) (pc' := 20) rfl (hb hby own_d3_5) rfl (XT.ii_ge_t hno) (by decide) (by decide) k) ?_
    show Go p e below Φ T (mkF m 20 #[.val (.ref a), .val (.int (Int32.ofNat i))] [])
    refine Go.of (fun t k => XS.iloadN X.here hx rfl (hb hby own_d3_20) rfl  k) ?_
    show Go p e below Φ T (mkF m 21 #[.val (.ref a), .val (.int (Int32.ofNat i))] [(.int (Int32.ofNat i))])
    rw [hΦ]
    refine Go.ret X hx Bd.notSynchronized Bd.returns rfl (Or.inl ⟨rfl, Or.inl rfl, _, rfl⟩) (hb hby own_d3_21) (by decide) (by decide) ?_
    rw [eT]
    exact ⟨congrArg (fun z => some (Value.int z)) (own_stop bs i (by omega) hd), N0, rfl⟩
  | succ r ih =>
    intro i hi hd T X eT
    have hlt : i < bs.length := by omega
    have hyes : Int32.ofNat i < n := by rw [hn]; exact own_ilt hlt (by omega)
    refine Go.of (fun t k => XS.iloadN X.here hx rfl (hb hby own_d3_2) rfl  k) ?_
    show Go p e below Φ T (mkF m 3 #[.val (.ref a), .val (.int (Int32.ofNat i))] [(.int (Int32.ofNat i))])
    refine Go.of (fun t k => XS.aloadN X.here hx rfl (hb hby own_d3_3) rfl rfl  k) ?_
    show Go p e below Φ T (mkF m 4 #[.val (.ref a), .val (.int (Int32.ofNat i))] [(.ref a), (.int (Int32.ofNat i))])
    obtain ⟨cl4, Ar4, q4, S4, N4, H4, G4⟩ := id V_a
    refine Go.of (fun t k => X.arraylength hx (by rw [eT]; exact Ar4.1) (State.isArrayOf_alike hZ.alike Ar4.2.1) (g := (mkF m 4 #[.val (.ref a), .val (.int (Int32.ofNat i))] [(.ref a), (.int (Int32.ofNat i))])) rfl rfl (hb hby own_d3_4) t k) ?_
    rw [len_of S4 N4]
    show Go p e below Φ T (mkF m 5 #[.val (.ref a), .val (.int (Int32.ofNat i))] [(.int n), (.int (Int32.ofNat i))])
    refine Go.of (fun t k => XS.icmpNo X.here hx rfl (hb hby own_d3_5) rfl (XT.ii_ge_f hyes) k) ?_
    show Go p e below Φ T (mkF m 8 #[.val (.ref a), .val (.int (Int32.ofNat i))] [])
    refine Go.of (fun t k => XS.aloadN X.here hx rfl (hb hby own_d3_8) rfl rfl  k) ?_
    show Go p e below Φ T (mkF m 9 #[.val (.ref a), .val (.int (Int32.ofNat i))] [(.ref a)])
    refine Go.of (fun t k => XS.iloadN X.here hx rfl (hb hby own_d3_9) rfl  k) ?_
    show Go p e below Φ T (mkF m 10 #[.val (.ref a), .val (.int (Int32.ofNat i))] [(.int (Int32.ofNat i)), (.ref a)])
    obtain ⟨cl10, Ar10, q10, S10, N10, H10, G10⟩ := id V_a
    have hin10 : ¬ ((Int32.ofNat i) < 0 ∨ cl10.slots.size ≤ ((Int32.ofNat i)).toNatClampNeg) := inb_of S10 (by rw [hn]; exact own_inb hlt (by omega))
    have hat10 : cl10.slots[((Int32.ofNat i)).toNatClampNeg]? = some (.int (bs[i]'hlt)) := H10.at hin10 (own_getD bs i hlt (by omega))
    refine Go.of (fun t k => X.baloadBytes hx (j := (Int32.ofNat i)) (v := (.int (bs[i]'hlt))) (by rw [eT]; exact Ar10.1) (State.isArrayOf_alike hZ.alike Ar10.2.1) Ar10.2.2 hin10 hat10 (g := (mkF m 10 #[.val (.ref a), .val (.int (Int32.ofNat i))] [(.int (Int32.ofNat i)), (.ref a)])) rfl rfl (hb hby own_d3_10) t k) ?_
    show Go p e below Φ T (mkF m 11 #[.val (.ref a), .val (.int (Int32.ofNat i))] [(.int (bs[i]'hlt))])
    by_cases hc11 : (bs[i]'hlt) = (0 : Int32)
    · refine Go.of (fun t k => XS.ifYes X.here hx rfl (pc0 := 11) (pc' := 20) rfl (hb hby own_d3_11) rfl (XT.i0_eq_t hc11) (by decide) (by decide) k) ?_
      show Go p e below Φ T (mkF m 20 #[.val (.ref a), .val (.int (Int32.ofNat i))] [])
      refine Go.of (fun t k => XS.iloadN X.here hx rfl (hb hby own_d3_20) rfl  k) ?_
      show Go p e below Φ T (mkF m 21 #[.val (.ref a), .val (.int (Int32.ofNat i))] [(.int (Int32.ofNat i))])
      rw [hΦ]
      refine Go.ret X hx Bd.notSynchronized Bd.returns rfl (Or.inl ⟨rfl, Or.inl rfl, _, rfl⟩) (hb hby own_d3_21) (by decide) (by decide) ?_
      rw [eT]
      exact ⟨congrArg (fun z => some (Value.int z)) (own_zero bs i hlt hc11 hd), N0, rfl⟩
    · refine Go.of (fun t k => XS.ifNo X.here hx rfl (hb hby own_d3_11) rfl (XT.i0_eq_f hc11) k) ?_
      show Go p e below Φ T (mkF m 14 #[.val (.ref a), .val (.int (Int32.ofNat i))] [])
      refine Go.of (fun t k => XS.iinc X.here hx rfl (hb hby own_d3_14) rfl (l' := #[.val (.ref a), .val (.int ((Int32.ofNat i) + (1 : Int32)))]) rfl k) ?_
      show Go p e below Φ T (mkF m 17 #[.val (.ref a), .val (.int ((Int32.ofNat i) + (1 : Int32)))] [])
      rw [show Int32.ofNat i + (1 : Int32) = Int32.ofNat (i + 1) from (inc_ofNat i).symm]
      show Go p e below Φ T (mkF m 17 #[.val (.ref a), .val (.int (Int32.ofNat (i + 1)))] [])
      refine Go.of (fun t k => XS.goto X.here hx rfl (pc0 := 17) (pc' := 2) rfl (hb hby own_d3_17) (by decide) (by decide) k) ?_
      show Go p e below Φ T (mkF m 2 #[.val (.ref a), .val (.int (Int32.ofNat (i + 1)))] [])
      exact ih (i + 1) (by omega) (own_step bs i hlt hc11 hd) _ X eT
def own_defs (n : Int32) (bs : List Int32) : Int32 := (if (own_end bs) = n then (1 : Int32) else (0 : Int32))
theorem own_ef2 (m : MethodId) (a : Addr) : entryFrame m #[(.ref a)] 1 = mkF m 0 #[.val (.ref a)] [] := by first | (simp [entryFrame, mkF, argsToLocals, Value.category]; done) | rfl
def Q2 (Z : State) (a : Addr) (k : ClassId) (n : Int32) (bs : List Int32) (h0 : Heap) (n0 : Nat) (vr : Option Value) (hr : Heap) (Lr : List Loc) : Prop := vr = some (.int (own_defs n bs)) ∧ Fr n0 Lr ∧ hr = h0
set_option maxRecDepth 65536 in
set_option maxHeartbeats 40000000 in
theorem rm2 (l : Launch) (Z : State) (a0 : Array Value) (hw : ∀ d ∈ tables_1, d.before a0 Z = true) (ws : List Jvm.Cond) (a : Addr) (k : ClassId) (n : Int32) (bs : List Int32) (h0 : Heap) (n0 : Nat) (Z0 : n0 ≤ h0.size) (V_a : Arv Z h0 a k .byte n (bs.map Value.int) (.int (0 : Int32))) (hn : n = Int32.ofNat bs.length) (hl : bs.length < 100) :
    MetFree l (⟨"com/example/dozynki/dozynki/StoreLayout", "definesSet", "([B)Z"⟩ : MethodName) (head1 (Jvm.Cond.code (⟨"com/example/dozynki/dozynki/StoreLayout", "definesSet", "([B)Z"⟩ : MethodName) prog_34_method_12_code 1 (some .boolean) :: ws) ({ frames := 1, cells := 0, slots := 0, locals := 13 } : Room)) (fun aQ UQ => aQ = #[(.ref a)] ∧ Z.Warmed39 UQ.vm ∧ UQ.heap = h0) (fun _ _ _ _ _ => True) (fun _ UQ oQ VQ => ∃ vQ LQ, oQ = .returned vQ ∧ Q2 Z a k n bs h0 n0 vQ VQ.heap LQ ∧ FrameEnd UQ oQ VQ LQ ({ frames := 1, cells := 0, slots := 0, locals := 13 } : Room).cells ({ frames := 1, cells := 0, slots := 0, locals := 13 } : Room).slots) := by
  refine MetFree.of_bodySF (plainFor_of_name own_pn1) hisR ?_
  intro p e s m args below meth c s₁ Bd hml0 hP hK
  obtain ⟨rfl, hZ, hh⟩ := hP
  have hx := Bd.exec
  have hby := Bd.bytes
  have hml : c.maxLocals = 1 := hml0
  have hown : s.vm.findClass "com/example/dozynki/dozynki/StoreLayout" = some m.cls := findClass_of_methodNamed Bd.named
  have hnm := (name_of_methodNamed Bd.named Bd.method).1
  have X0 : Stand p l e ({ frames := 1, cells := 0, slots := 0, locals := 13 } : Room) s m #[(.ref a)] below meth c s₁ [] 0 0 := Stand.of_body Bd
  have e0 : s₁.heap = h0 := by rw [← hh, Bd.state]; rfl
  have N0 := Fr.nil n0
  show Go p e below (EndQ s below (Q2 Z a k n bs h0 n0) ({ frames := 1, cells := 0, slots := 0, locals := 13 } : Room).cells ({ frames := 1, cells := 0, slots := 0, locals := 13 } : Room).slots) s₁ (entryFrame m #[(.ref a)] 1)
  obtain ⟨Φ, hΦ⟩ : ∃ Φ, Φ = EndQ s below (Q2 Z a k n bs h0 n0) ({ frames := 1, cells := 0, slots := 0, locals := 13 } : Room).cells ({ frames := 1, cells := 0, slots := 0, locals := 13 } : Room).slots := ⟨_, rfl⟩
  rw [← hΦ, own_ef2]
  show Go p e below Φ s₁ (mkF m 0 #[.val (.ref a)] [])
  refine Go.of (fun t k => XS.aloadN X0.here hx rfl (hb hby own_d2_0) rfl rfl  k) ?_
  show Go p e below Φ s₁ (mkF m 1 #[.val (.ref a)] [(.ref a)])
  obtain ⟨_, _, ⟨T1, L1, k1, n1⟩, -, X1, ⟨Lc1, hQ1, l1, y1, z1⟩, st1⟩ := Jvm.LawKit.callS X0 hx (y := (⟨"com/example/dozynki/dozynki/StoreLayout", "setSpecEnd", "([B)I"⟩ : MethodName)) hown (mvT hZ (hw _ (List.mem_of_getElem? (i := 9) rfl))) (mvT hZ (hw _ (List.mem_of_getElem? (i := 10) rfl))) (mvT hZ (hw _ (List.mem_of_getElem? (i := 7) rfl))) (mvT hZ (hw _ (List.mem_of_getElem? (i := 11) rfl))) (by decide) (backOf (W := 0) (rm3 l Z a0 hw [] a k n bs h0 n0 Z0 V_a hn hl) hZ (hw _ (List.mem_of_getElem? (i := 11) rfl)) (hw _ (List.mem_of_getElem? (i := 7) rfl)) (by decide) (by decide)) (g := (mkF m 1 #[.val (.ref a)] [(.ref a)])) rfl (by rw [hml]; rfl) (argsL := [(.ref a)]) (rest := []) (lenOf own_pd0 rfl) rfl (by show 2 * 0 + _ ≤ _; exact Nat.le_of_eq rfl) (hb hby own_d2_1) (fun _ _ => ⟨rfl, e0, (by decide : 0 + 0 ≤ _), (by decide : 0 + 0 ≤ _)⟩)
  dsimp only [Pt.U, Pt.locs, Pt.cells, Pt.slots] at X1 l1 y1 z1 st1 hQ1
  subst l1 y1 z1
  obtain ⟨rfl, N1q, e1q⟩ := hQ1
  have N1 := Fr.app N0 N1q
  obtain ⟨lc1, X1, N1⟩ : ∃ lc, Stand p l e ({ frames := 1, cells := 0, slots := 0, locals := 13 } : Room) s m #[(.ref a)] below meth c T1 lc 0 0 ∧ Fr n0 lc := ⟨_, X1, N1⟩
  refine Go.of st1 ?_
  show Go p e below Φ T1 (mkF m 4 #[.val (.ref a)] [(.int (own_end bs))])
  refine Go.of (fun t k => XS.aloadN X1.here hx rfl (hb hby own_d2_4) rfl rfl  k) ?_
  show Go p e below Φ T1 (mkF m 5 #[.val (.ref a)] [(.ref a), (.int (own_end bs))])
  obtain ⟨cl5, Ar5, q5, S5, N5, H5, G5⟩ := id V_a
  refine Go.of (fun t k => X1.arraylength hx (by rw [(e1q)]; exact Ar5.1) (State.isArrayOf_alike hZ.alike Ar5.2.1) (g := (mkF m 5 #[.val (.ref a)] [(.ref a), (.int (own_end bs))])) rfl rfl (hb hby own_d2_5) t k) ?_
  rw [len_of S5 N5]
  show Go p e below Φ T1 (mkF m 6 #[.val (.ref a)] [(.int n), (.int (own_end bs))])
  by_cases hc6 : (own_end bs) = n
  · refine Go.of (fun t k => XS.icmpNo X1.here hx rfl (hb hby own_d2_6) rfl (XT.ii_ne_f hc6) k) ?_
    show Go p e below Φ T1 (mkF m 9 #[.val (.ref a)] [])
    refine Go.of (fun t k => XS.iconst X1.here hx rfl (hb hby own_d2_9) k) ?_
    show Go p e below Φ T1 (mkF m 10 #[.val (.ref a)] [(.int (1 : Int32))])
    refine Go.of (fun t k => XS.goto X1.here hx rfl (pc0 := 10) (pc' := 14) rfl (hb hby own_d2_10) (by decide) (by decide) k) ?_
    show Go p e below Φ T1 (mkF m 14 #[.val (.ref a)] [(.int (1 : Int32))])
    rw [hΦ]
    refine Go.ret X1 hx Bd.notSynchronized Bd.returns rfl (Or.inl ⟨rfl, Or.inr (Or.inl rfl), _, rfl⟩) (hb hby own_d2_14) (by decide) (by decide) ?_
    rw [(e1q)]
    exact ⟨by rw [own_defs, if_pos hc6], N1, rfl⟩
  · refine Go.of (fun t k => XS.icmpYes X1.here hx rfl (pc0 := 6) (pc' := 13) rfl (hb hby own_d2_6) rfl (XT.ii_ne_t hc6) (by decide) (by decide) k) ?_
    show Go p e below Φ T1 (mkF m 13 #[.val (.ref a)] [])
    refine Go.of (fun t k => XS.iconst X1.here hx rfl (hb hby own_d2_13) k) ?_
    show Go p e below Φ T1 (mkF m 14 #[.val (.ref a)] [(.int (0 : Int32))])
    rw [hΦ]
    refine Go.ret X1 hx Bd.notSynchronized Bd.returns rfl (Or.inl ⟨rfl, Or.inr (Or.inl rfl), _, rfl⟩) (hb hby own_d2_14) (by decide) (by decide) ?_
    rw [(e1q)]
    exact ⟨by rw [own_defs, if_neg hc6], N1, rfl⟩
theorem own_nb (d : Int64) (z i : Int32) : nar .byte (own_byte d z i) = own_byte d z i := by
  rw [own_byte]
  split
  · exact Value.int.inj (XT.narrow_b _)
  · rfl
theorem own_ne {x : Int32} {k : Int} (c : Int32) (hc : c.toInt = k) (h : ¬ (x = c)) : x.toInt ≠ k := fun q => h (Int32.toInt_inj.mp (q.trans hc.symm))
theorem own_n5 (i0 x7 : Int32) (hx7 : x7 = ((i0 &&& (7 : Int32)) % (6 : Int32))) (h0 : ¬ (x7 = (0 : Int32))) (h1 : ¬ (x7 = (1 : Int32))) (h2 : ¬ (x7 = (2 : Int32))) (h3 : ¬ (x7 = (3 : Int32))) (h4 : ¬ (x7 = (4 : Int32))) : x7 = (5 : Int32) := by
  have m := c_mask i0 7 3 (by decide) (by decide)
  have r := (c_irem (i0 &&& 7) 6 6 (by decide)).1 (by rw [m]; omega)
  rw [← hx7, m] at r
  have k0 := own_ne (k := 0) (0 : Int32) (by decide) h0
  have k1 := own_ne (k := 1) (1 : Int32) (by decide) h1
  have k2 := own_ne (k := 2) (2 : Int32) (by decide) h2
  have k3 := own_ne (k := 3) (3 : Int32) (by decide) h3
  have k4 := own_ne (k := 4) (4 : Int32) (by decide) h4
  apply Int32.toInt_inj.mp
  have k5 : (5 : Int32).toInt = 5 := by decide
  rw [k5]
  omega
theorem own_c0 : own_defs (0 : Int32) [] = (1 : Int32) := by decide
theorem own_c1 (a : Int32) : own_defs (1 : Int32) [a] = (if (if a = (0 : Int32) then (1 : Int32) else (0 : Int32)) = (0 : Int32) then (1 : Int32) else (0 : Int32)) := by
  rw [own_defs]; simp only [own_end]
  by_cases h1 : a = 0 <;> simp only [h1, if_true, if_false] <;> decide
theorem own_c2 (a b : Int32) : own_defs (2 : Int32) [a, b] = (if (if a = (0 : Int32) then (1 : Int32) else (if b = (0 : Int32) then (1 : Int32) else (0 : Int32))) = (0 : Int32) then (1 : Int32) else (0 : Int32)) := by
  rw [own_defs]; simp only [own_end]
  by_cases h1 : a = 0 <;> by_cases h2 : b = 0 <;> simp only [h1, h2, if_true, if_false] <;> decide
theorem own_c3 (a b c : Int32) : own_defs (3 : Int32) [a, b, c] = (if (if a = (0 : Int32) then (1 : Int32) else (if b = (0 : Int32) then (1 : Int32) else (if c = (0 : Int32) then (1 : Int32) else (0 : Int32)))) = (0 : Int32) then (1 : Int32) else (0 : Int32)) := by
  rw [own_defs]; simp only [own_end]
  by_cases h1 : a = 0 <;> by_cases h2 : b = 0 <;> by_cases h3 : c = 0 <;> simp only [h1, h2, h3, if_true, if_false] <;> decide
theorem own_c4 (a b c d : Int32) : own_defs (4 : Int32) [a, b, c, d] = (if (if a = (0 : Int32) then (1 : Int32) else (if b = (0 : Int32) then (1 : Int32) else (if c = (0 : Int32) then (1 : Int32) else (if d = (0 : Int32) then (1 : Int32) else (0 : Int32))))) = (0 : Int32) then (1 : Int32) else (0 : Int32)) := by
  rw [own_defs]; simp only [own_end]
  by_cases h1 : a = 0 <;> by_cases h2 : b = 0 <;> by_cases h3 : c = 0 <;> by_cases h4 : d = 0 <;> simp only [h1, h2, h3, h4, if_true, if_false] <;> decide
theorem own_c5 (a b c d f : Int32) : own_defs (5 : Int32) [a, b, c, d, f] = (if (if a = (0 : Int32) then (1 : Int32) else (if b = (0 : Int32) then (1 : Int32) else (if c = (0 : Int32) then (1 : Int32) else (if d = (0 : Int32) then (1 : Int32) else (if f = (0 : Int32) then (1 : Int32) else (0 : Int32)))))) = (0 : Int32) then (1 : Int32) else (0 : Int32)) := by
  rw [own_defs]; simp only [own_end]
  by_cases h1 : a = 0 <;> by_cases h2 : b = 0 <;> by_cases h3 : c = 0 <;> by_cases h4 : d = 0 <;> by_cases h5 : f = 0 <;> simp only [h1, h2, h3, h4, h5, if_true, if_false] <;> decide
theorem own_plain (i0 : Int32) (i1 : Int64) (x7 : Int32) (hx7 : x7 = ((i0 &&& (7 : Int32)) % (6 : Int32))) (x14 : Int32) (hx14 : x14 = ((own_ushr i0 (3 : Int32)) &&& (31 : Int32))) (x23 : Int32) (hx23 : x23 = (own_byte i1 x14 (0 : Int32))) (x32 : Int32) (hx32 : x32 = (own_byte i1 x14 (1 : Int32))) (x41 : Int32) (hx41 : x41 = (own_byte i1 x14 (2 : Int32))) (x50 : Int32) (hx50 : x50 = (own_byte i1 x14 (3 : Int32))) (x59 : Int32) (hx59 : x59 = (own_byte i1 x14 (4 : Int32))) (v288 : Int32) (hv288 : v288 = (if (own_defs (0 : Int32) []) = (1 : Int32) then (1 : Int32) else (0 : Int32))) (hc62 : x7 = (0 : Int32)) : v288 = (1 : Int32) := by
  rw [hv288, own_c0, if_pos rfl]
theorem own_plain2 (i0 : Int32) (i1 : Int64) (x7 : Int32) (hx7 : x7 = ((i0 &&& (7 : Int32)) % (6 : Int32))) (x14 : Int32) (hx14 : x14 = ((own_ushr i0 (3 : Int32)) &&& (31 : Int32))) (x23 : Int32) (hx23 : x23 = (own_byte i1 x14 (0 : Int32))) (x32 : Int32) (hx32 : x32 = (own_byte i1 x14 (1 : Int32))) (x41 : Int32) (hx41 : x41 = (own_byte i1 x14 (2 : Int32))) (x50 : Int32) (hx50 : x50 = (own_byte i1 x14 (3 : Int32))) (x59 : Int32) (hx59 : x59 = (own_byte i1 x14 (4 : Int32))) (v259 : Int32) (hv259 : v259 = (if x23 = (0 : Int32) then (1 : Int32) else (0 : Int32))) (v271 : Int32) (hv271 : v271 = (if v259 = (0 : Int32) then (1 : Int32) else (0 : Int32))) (v288 : Int32) (hv288 : v288 = (if (own_defs (1 : Int32) [(nar .byte x23)]) = v271 then (1 : Int32) else (0 : Int32))) (hc62 : ¬ (x7 = (0 : Int32))) (hc75 : x7 = (1 : Int32)) : v288 = (1 : Int32) := by
  have e1 : nar .byte x23 = x23 := by rw [hx23]; exact own_nb _ _ _
  rw [hv288, e1, own_c1, hv271, hv259, if_pos rfl]
theorem own_plain3 (i0 : Int32) (i1 : Int64) (x7 : Int32) (hx7 : x7 = ((i0 &&& (7 : Int32)) % (6 : Int32))) (x14 : Int32) (hx14 : x14 = ((own_ushr i0 (3 : Int32)) &&& (31 : Int32))) (x23 : Int32) (hx23 : x23 = (own_byte i1 x14 (0 : Int32))) (x32 : Int32) (hx32 : x32 = (own_byte i1 x14 (1 : Int32))) (x41 : Int32) (hx41 : x41 = (own_byte i1 x14 (2 : Int32))) (x50 : Int32) (hx50 : x50 = (own_byte i1 x14 (3 : Int32))) (x59 : Int32) (hx59 : x59 = (own_byte i1 x14 (4 : Int32))) (v259 : Int32) (hv259 : v259 = (if x23 = (0 : Int32) then (1 : Int32) else (if x32 = (0 : Int32) then (1 : Int32) else (0 : Int32)))) (v271 : Int32) (hv271 : v271 = (if v259 = (0 : Int32) then (1 : Int32) else (0 : Int32))) (v288 : Int32) (hv288 : v288 = (if (own_defs (2 : Int32) [(nar .byte x23), (nar .byte x32)]) = v271 then (1 : Int32) else (0 : Int32))) (hc62 : ¬ (x7 = (0 : Int32))) (hc75 : ¬ (x7 = (1 : Int32))) (hc93 : x7 = (2 : Int32)) : v288 = (1 : Int32) := by
  have e1 : nar .byte x23 = x23 := by rw [hx23]; exact own_nb _ _ _
  have e2 : nar .byte x32 = x32 := by rw [hx32]; exact own_nb _ _ _
  rw [hv288, e1, e2, own_c2, hv271, hv259, if_pos rfl]
theorem own_plain4 (i0 : Int32) (i1 : Int64) (x7 : Int32) (hx7 : x7 = ((i0 &&& (7 : Int32)) % (6 : Int32))) (x14 : Int32) (hx14 : x14 = ((own_ushr i0 (3 : Int32)) &&& (31 : Int32))) (x23 : Int32) (hx23 : x23 = (own_byte i1 x14 (0 : Int32))) (x32 : Int32) (hx32 : x32 = (own_byte i1 x14 (1 : Int32))) (x41 : Int32) (hx41 : x41 = (own_byte i1 x14 (2 : Int32))) (x50 : Int32) (hx50 : x50 = (own_byte i1 x14 (3 : Int32))) (x59 : Int32) (hx59 : x59 = (own_byte i1 x14 (4 : Int32))) (v259 : Int32) (hv259 : v259 = (if x23 = (0 : Int32) then (1 : Int32) else (if x32 = (0 : Int32) then (1 : Int32) else (if x41 = (0 : Int32) then (1 : Int32) else (0 : Int32))))) (v271 : Int32) (hv271 : v271 = (if v259 = (0 : Int32) then (1 : Int32) else (0 : Int32))) (v288 : Int32) (hv288 : v288 = (if (own_defs (3 : Int32) [(nar .byte x23), (nar .byte x32), (nar .byte x41)]) = v271 then (1 : Int32) else (0 : Int32))) (hc62 : ¬ (x7 = (0 : Int32))) (hc75 : ¬ (x7 = (1 : Int32))) (hc93 : ¬ (x7 = (2 : Int32))) (hc116 : x7 = (3 : Int32)) : v288 = (1 : Int32) := by
  have e1 : nar .byte x23 = x23 := by rw [hx23]; exact own_nb _ _ _
  have e2 : nar .byte x32 = x32 := by rw [hx32]; exact own_nb _ _ _
  have e3 : nar .byte x41 = x41 := by rw [hx41]; exact own_nb _ _ _
  rw [hv288, e1, e2, e3, own_c3, hv271, hv259, if_pos rfl]
theorem own_plain5 (i0 : Int32) (i1 : Int64) (x7 : Int32) (hx7 : x7 = ((i0 &&& (7 : Int32)) % (6 : Int32))) (x14 : Int32) (hx14 : x14 = ((own_ushr i0 (3 : Int32)) &&& (31 : Int32))) (x23 : Int32) (hx23 : x23 = (own_byte i1 x14 (0 : Int32))) (x32 : Int32) (hx32 : x32 = (own_byte i1 x14 (1 : Int32))) (x41 : Int32) (hx41 : x41 = (own_byte i1 x14 (2 : Int32))) (x50 : Int32) (hx50 : x50 = (own_byte i1 x14 (3 : Int32))) (x59 : Int32) (hx59 : x59 = (own_byte i1 x14 (4 : Int32))) (v259 : Int32) (hv259 : v259 = (if x23 = (0 : Int32) then (1 : Int32) else (if x32 = (0 : Int32) then (1 : Int32) else (if x41 = (0 : Int32) then (1 : Int32) else (if x50 = (0 : Int32) then (1 : Int32) else (0 : Int32)))))) (v271 : Int32) (hv271 : v271 = (if v259 = (0 : Int32) then (1 : Int32) else (0 : Int32))) (v288 : Int32) (hv288 : v288 = (if (own_defs (4 : Int32) [(nar .byte x23), (nar .byte x32), (nar .byte x41), (nar .byte x50)]) = v271 then (1 : Int32) else (0 : Int32))) (hc62 : ¬ (x7 = (0 : Int32))) (hc75 : ¬ (x7 = (1 : Int32))) (hc93 : ¬ (x7 = (2 : Int32))) (hc116 : ¬ (x7 = (3 : Int32))) (hc144 : x7 = (4 : Int32)) : v288 = (1 : Int32) := by
  have e1 : nar .byte x23 = x23 := by rw [hx23]; exact own_nb _ _ _
  have e2 : nar .byte x32 = x32 := by rw [hx32]; exact own_nb _ _ _
  have e3 : nar .byte x41 = x41 := by rw [hx41]; exact own_nb _ _ _
  have e4 : nar .byte x50 = x50 := by rw [hx50]; exact own_nb _ _ _
  rw [hv288, e1, e2, e3, e4, own_c4, hv271, hv259, if_pos rfl]
theorem own_plain6 (i0 : Int32) (i1 : Int64) (x7 : Int32) (hx7 : x7 = ((i0 &&& (7 : Int32)) % (6 : Int32))) (x14 : Int32) (hx14 : x14 = ((own_ushr i0 (3 : Int32)) &&& (31 : Int32))) (x23 : Int32) (hx23 : x23 = (own_byte i1 x14 (0 : Int32))) (x32 : Int32) (hx32 : x32 = (own_byte i1 x14 (1 : Int32))) (x41 : Int32) (hx41 : x41 = (own_byte i1 x14 (2 : Int32))) (x50 : Int32) (hx50 : x50 = (own_byte i1 x14 (3 : Int32))) (x59 : Int32) (hx59 : x59 = (own_byte i1 x14 (4 : Int32))) (v259 : Int32) (hv259 : v259 = (if x23 = (0 : Int32) then (1 : Int32) else (if x32 = (0 : Int32) then (1 : Int32) else (if x41 = (0 : Int32) then (1 : Int32) else (if x50 = (0 : Int32) then (1 : Int32) else (if x59 = (0 : Int32) then (1 : Int32) else (0 : Int32))))))) (v271 : Int32) (hv271 : v271 = (if v259 = (0 : Int32) then (1 : Int32) else (0 : Int32))) (v288 : Int32) (hv288 : v288 = (if (own_defs (5 : Int32) [(nar .byte x23), (nar .byte x32), (nar .byte x41), (nar .byte x50), (nar .byte x59)]) = v271 then (1 : Int32) else (0 : Int32))) (hc62 : ¬ (x7 = (0 : Int32))) (hc75 : ¬ (x7 = (1 : Int32))) (hc93 : ¬ (x7 = (2 : Int32))) (hc116 : ¬ (x7 = (3 : Int32))) (hc144 : ¬ (x7 = (4 : Int32))) : v288 = (1 : Int32) := by
  have e1 : nar .byte x23 = x23 := by rw [hx23]; exact own_nb _ _ _
  have e2 : nar .byte x32 = x32 := by rw [hx32]; exact own_nb _ _ _
  have e3 : nar .byte x41 = x41 := by rw [hx41]; exact own_nb _ _ _
  have e4 : nar .byte x50 = x50 := by rw [hx50]; exact own_nb _ _ _
  have e5 : nar .byte x59 = x59 := by rw [hx59]; exact own_nb _ _ _
  rw [hv288, e1, e2, e3, e4, e5, own_c5, hv271, hv259, if_pos rfl]
theorem own_ef0 (m : MethodId) (i0 : Int32) (i1 : Int64) : entryFrame m #[(.int i0), (.long i1)] maxLocals = mkF m 0 #[.val (.int i0), .val (.long i1), .second, .unset, .unset, .unset, .unset, .unset, .unset, .unset, .unset, .unset, .unset] [] := by first | (simp [entryFrame, mkF, argsToLocals, Value.category, maxLocals]; done) | rfl
def Q0 (Z : State) (i0 : Int32) (i1 : Int64) (h0 : Heap) (n0 : Nat) (vr : Option Value) (hr : Heap) (Lr : List Loc) : Prop := vr = some (.int 1) ∧ Fr n0 Lr
set_option maxRecDepth 65536 in
set_option maxHeartbeats 40000000 in
theorem rm0 (l : Launch) (Z : State) (a0 : Array Value) (hw : ∀ d ∈ tables_1, d.before a0 Z = true) (ws : List Jvm.Cond) (i0 : Int32) (i1 : Int64) (h0 : Heap) (n0 : Nat) (Z0 : n0 ≤ h0.size) :
    MetFree l x (head1 (Jvm.Cond.code x code maxLocals ret :: ws) room_1) (fun aQ UQ => aQ = #[(.int i0), (.long i1)] ∧ Z.Warmed39 UQ.vm ∧ UQ.heap = h0) (fun _ _ _ _ _ => True) (fun _ UQ oQ VQ => ∃ vQ LQ, oQ = .returned vQ ∧ Q0 Z i0 i1 h0 n0 vQ VQ.heap LQ ∧ FrameEnd UQ oQ VQ LQ 16 128) := by
  refine MetFree.of_bodySF (plainFor_of_name own_pn0) hisR ?_
  intro p e s m args below meth c s₁ Bd hml0 hP hK
  obtain ⟨rfl, hZ, hh⟩ := hP
  have hx := Bd.exec
  have hby := Bd.bytes
  have hml : c.maxLocals = 13 := hml0
  have hown : s.vm.findClass "com/example/dozynki/dozynki/StoreLayoutDefinesSetPinLaw" = some m.cls := findClass_of_methodNamed Bd.named
  have hnm := (name_of_methodNamed Bd.named Bd.method).1
  have X0 : Stand p l e room_1 s m #[(.int i0), (.long i1)] below meth c s₁ [] 0 0 := Stand.of_body Bd
  have e0 : s₁.heap = h0 := by rw [← hh, Bd.state]; rfl
  have N0 := Fr.nil n0
  show Go p e below (EndQ s below (Q0 Z i0 i1 h0 n0) 16 128) s₁ (entryFrame m #[(.int i0), (.long i1)] maxLocals)
  obtain ⟨Φ, hΦ⟩ : ∃ Φ, Φ = EndQ s below (Q0 Z i0 i1 h0 n0) 16 128 := ⟨_, rfl⟩
  rw [← hΦ, own_ef0]
  show Go p e below Φ s₁ (mkF m 0 #[.val (.int i0), .val (.long i1), .second, .unset, .unset, .unset, .unset, .unset, .unset, .unset, .unset, .unset, .unset] [])
  refine Go.of (fun t k => XS.iloadN X0.here hx rfl (hb hby at_0) rfl  k) ?_
  show Go p e below Φ s₁ (mkF m 1 #[.val (.int i0), .val (.long i1), .second, .unset, .unset, .unset, .unset, .unset, .unset, .unset, .unset, .unset, .unset] [(.int i0)])
  refine Go.of (fun t k => XS.bipush X0.here hx rfl (hb hby at_1) k) ?_
  show Go p e below Φ s₁ (mkF m 3 #[.val (.int i0), .val (.long i1), .second, .unset, .unset, .unset, .unset, .unset, .unset, .unset, .unset, .unset, .unset] [(.int (7 : Int32)), (.int i0)])
  refine Go.of (fun t k => XS.iand X0.here hx rfl (hb hby at_3) rfl k) ?_
  show Go p e below Φ s₁ (mkF m 4 #[.val (.int i0), .val (.long i1), .second, .unset, .unset, .unset, .unset, .unset, .unset, .unset, .unset, .unset, .unset] [(.int (i0 &&& (7 : Int32)))])
  refine Go.of (fun t k => XS.bipush X0.here hx rfl (hb hby at_4) k) ?_
  show Go p e below Φ s₁ (mkF m 6 #[.val (.int i0), .val (.long i1), .second, .unset, .unset, .unset, .unset, .unset, .unset, .unset, .unset, .unset, .unset] [(.int (6 : Int32)), (.int (i0 &&& (7 : Int32)))])
  refine Go.of (fun t k => iremM X0 hx rfl (hb hby at_6) rfl (by decide) k) ?_
  show Go p e below Φ s₁ (mkF m 7 #[.val (.int i0), .val (.long i1), .second, .unset, .unset, .unset, .unset, .unset, .unset, .unset, .unset, .unset, .unset] [(.int ((i0 &&& (7 : Int32)) % (6 : Int32)))])
  obtain ⟨x7, hx7⟩ : ∃ z : Int32, z = ((i0 &&& (7 : Int32)) % (6 : Int32)) := ⟨_, rfl⟩
  rw [← hx7]
  refine Go.of (fun t k => XS.istoreN X0.here hx rfl (hb hby at_7) rfl (l' := #[.val (.int i0), .val (.long i1), .second, .val (.int x7), .unset, .unset, .unset, .unset, .unset, .unset, .unset, .unset, .unset]) rfl k) ?_
  show Go p e below Φ s₁ (mkF m 8 #[.val (.int i0), .val (.long i1), .second, .val (.int x7), .unset, .unset, .unset, .unset, .unset, .unset, .unset, .unset, .unset] [])
  refine Go.of (fun t k => XS.iloadN X0.here hx rfl (hb hby at_8) rfl  k) ?_
  show Go p e below Φ s₁ (mkF m 9 #[.val (.int i0), .val (.long i1), .second, .val (.int x7), .unset, .unset, .unset, .unset, .unset, .unset, .unset, .unset, .unset] [(.int i0)])
  refine Go.of (fun t k => XS.iconst X0.here hx rfl (hb hby at_9) k) ?_
  show Go p e below Φ s₁ (mkF m 10 #[.val (.int i0), .val (.long i1), .second, .val (.int x7), .unset, .unset, .unset, .unset, .unset, .unset, .unset, .unset, .unset] [(.int (3 : Int32)), (.int i0)])
  refine Go.of (fun t k => XS.iushr X0.here hx rfl (hb hby at_10) rfl k) ?_
  show Go p e below Φ s₁ (mkF m 11 #[.val (.int i0), .val (.long i1), .second, .val (.int x7), .unset, .unset, .unset, .unset, .unset, .unset, .unset, .unset, .unset] [(.int (own_ushr i0 (3 : Int32)))])
  refine Go.of (fun t k => XS.bipush X0.here hx rfl (hb hby at_11) k) ?_
  show Go p e below Φ s₁ (mkF m 13 #[.val (.int i0), .val (.long i1), .second, .val (.int x7), .unset, .unset, .unset, .unset, .unset, .unset, .unset, .unset, .unset] [(.int (31 : Int32)), (.int (own_ushr i0 (3 : Int32)))])
  refine Go.of (fun t k => XS.iand X0.here hx rfl (hb hby at_13) rfl k) ?_
  show Go p e below Φ s₁ (mkF m 14 #[.val (.int i0), .val (.long i1), .second, .val (.int x7), .unset, .unset, .unset, .unset, .unset, .unset, .unset, .unset, .unset] [(.int ((own_ushr i0 (3 : Int32)) &&& (31 : Int32)))])
  obtain ⟨x14, hx14⟩ : ∃ z : Int32, z = ((own_ushr i0 (3 : Int32)) &&& (31 : Int32)) := ⟨_, rfl⟩
  rw [← hx14]
  refine Go.of (fun t k => XS.istore X0.here hx rfl (hb hby at_14) rfl (l' := #[.val (.int i0), .val (.long i1), .second, .val (.int x7), .val (.int x14), .unset, .unset, .unset, .unset, .unset, .unset, .unset, .unset]) rfl k) ?_
  show Go p e below Φ s₁ (mkF m 16 #[.val (.int i0), .val (.long i1), .second, .val (.int x7), .val (.int x14), .unset, .unset, .unset, .unset, .unset, .unset, .unset, .unset] [])
  refine Go.of (fun t k => XS.lloadN X0.here hx rfl (hb hby at_16) rfl  k) ?_
  show Go p e below Φ s₁ (mkF m 17 #[.val (.int i0), .val (.long i1), .second, .val (.int x7), .val (.int x14), .unset, .unset, .unset, .unset, .unset, .unset, .unset, .unset] [(.long i1)])
  refine Go.of (fun t k => XS.iload X0.here hx rfl (hb hby at_17) rfl  k) ?_
  show Go p e below Φ s₁ (mkF m 19 #[.val (.int i0), .val (.long i1), .second, .val (.int x7), .val (.int x14), .unset, .unset, .unset, .unset, .unset, .unset, .unset, .unset] [(.int x14), (.long i1)])
  refine Go.of (fun t k => XS.iconst X0.here hx rfl (hb hby at_19) k) ?_
  show Go p e below Φ s₁ (mkF m 20 #[.val (.int i0), .val (.long i1), .second, .val (.int x7), .val (.int x14), .unset, .unset, .unset, .unset, .unset, .unset, .unset, .unset] [(.int (0 : Int32)), (.int x14), (.long i1)])
  obtain ⟨_, _, ⟨T1, L1, k1, n1⟩, -, X1, ⟨Lc1, hQ1, l1, y1, z1⟩, st1⟩ := Jvm.LawKit.callS X0 hx (y := (⟨"com/example/dozynki/dozynki/StoreLayoutDefinesSetPinLaw", "byteAt", "(JII)B"⟩ : MethodName)) hown (mvT hZ (hw _ (List.mem_of_getElem? (i := 0) rfl))) (mvT hZ (hw _ (List.mem_of_getElem? (i := 1) rfl))) (mvT hZ (hw _ (List.mem_of_getElem? (i := 2) rfl))) (mvT hZ (hw _ (List.mem_of_getElem? (i := 3) rfl))) (by decide) (backOf (W := 0) (rm1 l Z a0 hw [] i1 x14 (0 : Int32) h0 n0 Z0) hZ (hw _ (List.mem_of_getElem? (i := 3) rfl)) (hw _ (List.mem_of_getElem? (i := 2) rfl)) (by decide) (by decide)) (g := (mkF m 20 #[.val (.int i0), .val (.long i1), .second, .val (.int x7), .val (.int x14), .unset, .unset, .unset, .unset, .unset, .unset, .unset, .unset] [(.int (0 : Int32)), (.int x14), (.long i1)])) rfl (by rw [hml]; rfl) (argsL := [(.long i1), (.int x14), (.int (0 : Int32))]) (rest := []) (lenOf own_pd1 rfl) rfl (by show 2 * 0 + _ ≤ _; exact Nat.le_of_eq rfl) (hb hby at_20) (fun _ _ => ⟨rfl, e0, (by decide : 0 + 0 ≤ _), (by decide : 0 + 0 ≤ _)⟩)
  dsimp only [Pt.U, Pt.locs, Pt.cells, Pt.slots] at X1 l1 y1 z1 st1 hQ1
  subst l1 y1 z1
  obtain ⟨rfl, N1q, e1q⟩ := hQ1
  have N1 := Fr.app N0 N1q
  obtain ⟨lc1, X1, N1⟩ : ∃ lc, Stand p l e room_1 s m #[(.int i0), (.long i1)] below meth c T1 lc 0 0 ∧ Fr n0 lc := ⟨_, X1, N1⟩
  refine Go.of st1 ?_
  show Go p e below Φ T1 (mkF m 23 #[.val (.int i0), .val (.long i1), .second, .val (.int x7), .val (.int x14), .unset, .unset, .unset, .unset, .unset, .unset, .unset, .unset] [(.int (own_byte i1 x14 (0 : Int32)))])
  obtain ⟨x23, hx23⟩ : ∃ z : Int32, z = (own_byte i1 x14 (0 : Int32)) := ⟨_, rfl⟩
  rw [← hx23]
  refine Go.of (fun t k => XS.istore X1.here hx rfl (hb hby at_23) rfl (l' := #[.val (.int i0), .val (.long i1), .second, .val (.int x7), .val (.int x14), .val (.int x23), .unset, .unset, .unset, .unset, .unset, .unset, .unset]) rfl k) ?_
  show Go p e below Φ T1 (mkF m 25 #[.val (.int i0), .val (.long i1), .second, .val (.int x7), .val (.int x14), .val (.int x23), .unset, .unset, .unset, .unset, .unset, .unset, .unset] [])
  refine Go.of (fun t k => XS.lloadN X1.here hx rfl (hb hby at_25) rfl  k) ?_
  show Go p e below Φ T1 (mkF m 26 #[.val (.int i0), .val (.long i1), .second, .val (.int x7), .val (.int x14), .val (.int x23), .unset, .unset, .unset, .unset, .unset, .unset, .unset] [(.long i1)])
  refine Go.of (fun t k => XS.iload X1.here hx rfl (hb hby at_26) rfl  k) ?_
  show Go p e below Φ T1 (mkF m 28 #[.val (.int i0), .val (.long i1), .second, .val (.int x7), .val (.int x14), .val (.int x23), .unset, .unset, .unset, .unset, .unset, .unset, .unset] [(.int x14), (.long i1)])
  refine Go.of (fun t k => XS.iconst X1.here hx rfl (hb hby at_28) k) ?_
  show Go p e below Φ T1 (mkF m 29 #[.val (.int i0), .val (.long i1), .second, .val (.int x7), .val (.int x14), .val (.int x23), .unset, .unset, .unset, .unset, .unset, .unset, .unset] [(.int (1 : Int32)), (.int x14), (.long i1)])
  obtain ⟨_, _, ⟨T2, L2, k2, n2⟩, -, X2, ⟨Lc2, hQ2, l2, y2, z2⟩, st2⟩ := Jvm.LawKit.callS X1 hx (y := (⟨"com/example/dozynki/dozynki/StoreLayoutDefinesSetPinLaw", "byteAt", "(JII)B"⟩ : MethodName)) hown (mvT hZ (hw _ (List.mem_of_getElem? (i := 0) rfl))) (mvT hZ (hw _ (List.mem_of_getElem? (i := 1) rfl))) (mvT hZ (hw _ (List.mem_of_getElem? (i := 2) rfl))) (mvT hZ (hw _ (List.mem_of_getElem? (i := 3) rfl))) (by decide) (backOf (W := 0) (rm1 l Z a0 hw [] i1 x14 (1 : Int32) h0 n0 Z0) hZ (hw _ (List.mem_of_getElem? (i := 3) rfl)) (hw _ (List.mem_of_getElem? (i := 2) rfl)) (by decide) (by decide)) (g := (mkF m 29 #[.val (.int i0), .val (.long i1), .second, .val (.int x7), .val (.int x14), .val (.int x23), .unset, .unset, .unset, .unset, .unset, .unset, .unset] [(.int (1 : Int32)), (.int x14), (.long i1)])) rfl (by rw [hml]; rfl) (argsL := [(.long i1), (.int x14), (.int (1 : Int32))]) (rest := []) (lenOf own_pd1 rfl) rfl (by show 2 * 0 + _ ≤ _; exact Nat.le_of_eq rfl) (hb hby at_29) (fun _ _ => ⟨rfl, (e1q), (by decide : 0 + 0 ≤ _), (by decide : 0 + 0 ≤ _)⟩)
  dsimp only [Pt.U, Pt.locs, Pt.cells, Pt.slots] at X2 l2 y2 z2 st2 hQ2
  subst l2 y2 z2
  obtain ⟨rfl, N2q, e2q⟩ := hQ2
  have N2 := Fr.app N1 N2q
  obtain ⟨lc2, X2, N2⟩ : ∃ lc, Stand p l e room_1 s m #[(.int i0), (.long i1)] below meth c T2 lc 0 0 ∧ Fr n0 lc := ⟨_, X2, N2⟩
  refine Go.of st2 ?_
  show Go p e below Φ T2 (mkF m 32 #[.val (.int i0), .val (.long i1), .second, .val (.int x7), .val (.int x14), .val (.int x23), .unset, .unset, .unset, .unset, .unset, .unset, .unset] [(.int (own_byte i1 x14 (1 : Int32)))])
  obtain ⟨x32, hx32⟩ : ∃ z : Int32, z = (own_byte i1 x14 (1 : Int32)) := ⟨_, rfl⟩
  rw [← hx32]
  refine Go.of (fun t k => XS.istore X2.here hx rfl (hb hby at_32) rfl (l' := #[.val (.int i0), .val (.long i1), .second, .val (.int x7), .val (.int x14), .val (.int x23), .val (.int x32), .unset, .unset, .unset, .unset, .unset, .unset]) rfl k) ?_
  show Go p e below Φ T2 (mkF m 34 #[.val (.int i0), .val (.long i1), .second, .val (.int x7), .val (.int x14), .val (.int x23), .val (.int x32), .unset, .unset, .unset, .unset, .unset, .unset] [])
  refine Go.of (fun t k => XS.lloadN X2.here hx rfl (hb hby at_34) rfl  k) ?_
  show Go p e below Φ T2 (mkF m 35 #[.val (.int i0), .val (.long i1), .second, .val (.int x7), .val (.int x14), .val (.int x23), .val (.int x32), .unset, .unset, .unset, .unset, .unset, .unset] [(.long i1)])
  refine Go.of (fun t k => XS.iload X2.here hx rfl (hb hby at_35) rfl  k) ?_
  show Go p e below Φ T2 (mkF m 37 #[.val (.int i0), .val (.long i1), .second, .val (.int x7), .val (.int x14), .val (.int x23), .val (.int x32), .unset, .unset, .unset, .unset, .unset, .unset] [(.int x14), (.long i1)])
  refine Go.of (fun t k => XS.iconst X2.here hx rfl (hb hby at_37) k) ?_
  show Go p e below Φ T2 (mkF m 38 #[.val (.int i0), .val (.long i1), .second, .val (.int x7), .val (.int x14), .val (.int x23), .val (.int x32), .unset, .unset, .unset, .unset, .unset, .unset] [(.int (2 : Int32)), (.int x14), (.long i1)])
  obtain ⟨_, _, ⟨T3, L3, k3, n3⟩, -, X3, ⟨Lc3, hQ3, l3, y3, z3⟩, st3⟩ := Jvm.LawKit.callS X2 hx (y := (⟨"com/example/dozynki/dozynki/StoreLayoutDefinesSetPinLaw", "byteAt", "(JII)B"⟩ : MethodName)) hown (mvT hZ (hw _ (List.mem_of_getElem? (i := 0) rfl))) (mvT hZ (hw _ (List.mem_of_getElem? (i := 1) rfl))) (mvT hZ (hw _ (List.mem_of_getElem? (i := 2) rfl))) (mvT hZ (hw _ (List.mem_of_getElem? (i := 3) rfl))) (by decide) (backOf (W := 0) (rm1 l Z a0 hw [] i1 x14 (2 : Int32) h0 n0 Z0) hZ (hw _ (List.mem_of_getElem? (i := 3) rfl)) (hw _ (List.mem_of_getElem? (i := 2) rfl)) (by decide) (by decide)) (g := (mkF m 38 #[.val (.int i0), .val (.long i1), .second, .val (.int x7), .val (.int x14), .val (.int x23), .val (.int x32), .unset, .unset, .unset, .unset, .unset, .unset] [(.int (2 : Int32)), (.int x14), (.long i1)])) rfl (by rw [hml]; rfl) (argsL := [(.long i1), (.int x14), (.int (2 : Int32))]) (rest := []) (lenOf own_pd1 rfl) rfl (by show 2 * 0 + _ ≤ _; exact Nat.le_of_eq rfl) (hb hby at_38) (fun _ _ => ⟨rfl, (e2q), (by decide : 0 + 0 ≤ _), (by decide : 0 + 0 ≤ _)⟩)
  dsimp only [Pt.U, Pt.locs, Pt.cells, Pt.slots] at X3 l3 y3 z3 st3 hQ3
  subst l3 y3 z3
  obtain ⟨rfl, N3q, e3q⟩ := hQ3
  have N3 := Fr.app N2 N3q
  obtain ⟨lc3, X3, N3⟩ : ∃ lc, Stand p l e room_1 s m #[(.int i0), (.long i1)] below meth c T3 lc 0 0 ∧ Fr n0 lc := ⟨_, X3, N3⟩
  refine Go.of st3 ?_
  show Go p e below Φ T3 (mkF m 41 #[.val (.int i0), .val (.long i1), .second, .val (.int x7), .val (.int x14), .val (.int x23), .val (.int x32), .unset, .unset, .unset, .unset, .unset, .unset] [(.int (own_byte i1 x14 (2 : Int32)))])
  obtain ⟨x41, hx41⟩ : ∃ z : Int32, z = (own_byte i1 x14 (2 : Int32)) := ⟨_, rfl⟩
  rw [← hx41]
  refine Go.of (fun t k => XS.istore X3.here hx rfl (hb hby at_41) rfl (l' := #[.val (.int i0), .val (.long i1), .second, .val (.int x7), .val (.int x14), .val (.int x23), .val (.int x32), .val (.int x41), .unset, .unset, .unset, .unset, .unset]) rfl k) ?_
  show Go p e below Φ T3 (mkF m 43 #[.val (.int i0), .val (.long i1), .second, .val (.int x7), .val (.int x14), .val (.int x23), .val (.int x32), .val (.int x41), .unset, .unset, .unset, .unset, .unset] [])
  refine Go.of (fun t k => XS.lloadN X3.here hx rfl (hb hby at_43) rfl  k) ?_
  show Go p e below Φ T3 (mkF m 44 #[.val (.int i0), .val (.long i1), .second, .val (.int x7), .val (.int x14), .val (.int x23), .val (.int x32), .val (.int x41), .unset, .unset, .unset, .unset, .unset] [(.long i1)])
  refine Go.of (fun t k => XS.iload X3.here hx rfl (hb hby at_44) rfl  k) ?_
  show Go p e below Φ T3 (mkF m 46 #[.val (.int i0), .val (.long i1), .second, .val (.int x7), .val (.int x14), .val (.int x23), .val (.int x32), .val (.int x41), .unset, .unset, .unset, .unset, .unset] [(.int x14), (.long i1)])
  refine Go.of (fun t k => XS.iconst X3.here hx rfl (hb hby at_46) k) ?_
  show Go p e below Φ T3 (mkF m 47 #[.val (.int i0), .val (.long i1), .second, .val (.int x7), .val (.int x14), .val (.int x23), .val (.int x32), .val (.int x41), .unset, .unset, .unset, .unset, .unset] [(.int (3 : Int32)), (.int x14), (.long i1)])
  obtain ⟨_, _, ⟨T4, L4, k4, n4⟩, -, X4, ⟨Lc4, hQ4, l4, y4, z4⟩, st4⟩ := Jvm.LawKit.callS X3 hx (y := (⟨"com/example/dozynki/dozynki/StoreLayoutDefinesSetPinLaw", "byteAt", "(JII)B"⟩ : MethodName)) hown (mvT hZ (hw _ (List.mem_of_getElem? (i := 0) rfl))) (mvT hZ (hw _ (List.mem_of_getElem? (i := 1) rfl))) (mvT hZ (hw _ (List.mem_of_getElem? (i := 2) rfl))) (mvT hZ (hw _ (List.mem_of_getElem? (i := 3) rfl))) (by decide) (backOf (W := 0) (rm1 l Z a0 hw [] i1 x14 (3 : Int32) h0 n0 Z0) hZ (hw _ (List.mem_of_getElem? (i := 3) rfl)) (hw _ (List.mem_of_getElem? (i := 2) rfl)) (by decide) (by decide)) (g := (mkF m 47 #[.val (.int i0), .val (.long i1), .second, .val (.int x7), .val (.int x14), .val (.int x23), .val (.int x32), .val (.int x41), .unset, .unset, .unset, .unset, .unset] [(.int (3 : Int32)), (.int x14), (.long i1)])) rfl (by rw [hml]; rfl) (argsL := [(.long i1), (.int x14), (.int (3 : Int32))]) (rest := []) (lenOf own_pd1 rfl) rfl (by show 2 * 0 + _ ≤ _; exact Nat.le_of_eq rfl) (hb hby at_47) (fun _ _ => ⟨rfl, (e3q), (by decide : 0 + 0 ≤ _), (by decide : 0 + 0 ≤ _)⟩)
  dsimp only [Pt.U, Pt.locs, Pt.cells, Pt.slots] at X4 l4 y4 z4 st4 hQ4
  subst l4 y4 z4
  obtain ⟨rfl, N4q, e4q⟩ := hQ4
  have N4 := Fr.app N3 N4q
  obtain ⟨lc4, X4, N4⟩ : ∃ lc, Stand p l e room_1 s m #[(.int i0), (.long i1)] below meth c T4 lc 0 0 ∧ Fr n0 lc := ⟨_, X4, N4⟩
  refine Go.of st4 ?_
  show Go p e below Φ T4 (mkF m 50 #[.val (.int i0), .val (.long i1), .second, .val (.int x7), .val (.int x14), .val (.int x23), .val (.int x32), .val (.int x41), .unset, .unset, .unset, .unset, .unset] [(.int (own_byte i1 x14 (3 : Int32)))])
  obtain ⟨x50, hx50⟩ : ∃ z : Int32, z = (own_byte i1 x14 (3 : Int32)) := ⟨_, rfl⟩
  rw [← hx50]
  refine Go.of (fun t k => XS.istore X4.here hx rfl (hb hby at_50) rfl (l' := #[.val (.int i0), .val (.long i1), .second, .val (.int x7), .val (.int x14), .val (.int x23), .val (.int x32), .val (.int x41), .val (.int x50), .unset, .unset, .unset, .unset]) rfl k) ?_
  show Go p e below Φ T4 (mkF m 52 #[.val (.int i0), .val (.long i1), .second, .val (.int x7), .val (.int x14), .val (.int x23), .val (.int x32), .val (.int x41), .val (.int x50), .unset, .unset, .unset, .unset] [])
  refine Go.of (fun t k => XS.lloadN X4.here hx rfl (hb hby at_52) rfl  k) ?_
  show Go p e below Φ T4 (mkF m 53 #[.val (.int i0), .val (.long i1), .second, .val (.int x7), .val (.int x14), .val (.int x23), .val (.int x32), .val (.int x41), .val (.int x50), .unset, .unset, .unset, .unset] [(.long i1)])
  refine Go.of (fun t k => XS.iload X4.here hx rfl (hb hby at_53) rfl  k) ?_
  show Go p e below Φ T4 (mkF m 55 #[.val (.int i0), .val (.long i1), .second, .val (.int x7), .val (.int x14), .val (.int x23), .val (.int x32), .val (.int x41), .val (.int x50), .unset, .unset, .unset, .unset] [(.int x14), (.long i1)])
  refine Go.of (fun t k => XS.iconst X4.here hx rfl (hb hby at_55) k) ?_
  show Go p e below Φ T4 (mkF m 56 #[.val (.int i0), .val (.long i1), .second, .val (.int x7), .val (.int x14), .val (.int x23), .val (.int x32), .val (.int x41), .val (.int x50), .unset, .unset, .unset, .unset] [(.int (4 : Int32)), (.int x14), (.long i1)])
  obtain ⟨_, _, ⟨T5, L5, k5, n5⟩, -, X5, ⟨Lc5, hQ5, l5, y5, z5⟩, st5⟩ := Jvm.LawKit.callS X4 hx (y := (⟨"com/example/dozynki/dozynki/StoreLayoutDefinesSetPinLaw", "byteAt", "(JII)B"⟩ : MethodName)) hown (mvT hZ (hw _ (List.mem_of_getElem? (i := 0) rfl))) (mvT hZ (hw _ (List.mem_of_getElem? (i := 1) rfl))) (mvT hZ (hw _ (List.mem_of_getElem? (i := 2) rfl))) (mvT hZ (hw _ (List.mem_of_getElem? (i := 3) rfl))) (by decide) (backOf (W := 0) (rm1 l Z a0 hw [] i1 x14 (4 : Int32) h0 n0 Z0) hZ (hw _ (List.mem_of_getElem? (i := 3) rfl)) (hw _ (List.mem_of_getElem? (i := 2) rfl)) (by decide) (by decide)) (g := (mkF m 56 #[.val (.int i0), .val (.long i1), .second, .val (.int x7), .val (.int x14), .val (.int x23), .val (.int x32), .val (.int x41), .val (.int x50), .unset, .unset, .unset, .unset] [(.int (4 : Int32)), (.int x14), (.long i1)])) rfl (by rw [hml]; rfl) (argsL := [(.long i1), (.int x14), (.int (4 : Int32))]) (rest := []) (lenOf own_pd1 rfl) rfl (by show 2 * 0 + _ ≤ _; exact Nat.le_of_eq rfl) (hb hby at_56) (fun _ _ => ⟨rfl, (e4q), (by decide : 0 + 0 ≤ _), (by decide : 0 + 0 ≤ _)⟩)
  dsimp only [Pt.U, Pt.locs, Pt.cells, Pt.slots] at X5 l5 y5 z5 st5 hQ5
  subst l5 y5 z5
  obtain ⟨rfl, N5q, e5q⟩ := hQ5
  have N5 := Fr.app N4 N5q
  obtain ⟨lc5, X5, N5⟩ : ∃ lc, Stand p l e room_1 s m #[(.int i0), (.long i1)] below meth c T5 lc 0 0 ∧ Fr n0 lc := ⟨_, X5, N5⟩
  refine Go.of st5 ?_
  show Go p e below Φ T5 (mkF m 59 #[.val (.int i0), .val (.long i1), .second, .val (.int x7), .val (.int x14), .val (.int x23), .val (.int x32), .val (.int x41), .val (.int x50), .unset, .unset, .unset, .unset] [(.int (own_byte i1 x14 (4 : Int32)))])
  obtain ⟨x59, hx59⟩ : ∃ z : Int32, z = (own_byte i1 x14 (4 : Int32)) := ⟨_, rfl⟩
  rw [← hx59]
  refine Go.of (fun t k => XS.istore X5.here hx rfl (hb hby at_59) rfl (l' := #[.val (.int i0), .val (.long i1), .second, .val (.int x7), .val (.int x14), .val (.int x23), .val (.int x32), .val (.int x41), .val (.int x50), .val (.int x59), .unset, .unset, .unset]) rfl k) ?_
  show Go p e below Φ T5 (mkF m 61 #[.val (.int i0), .val (.long i1), .second, .val (.int x7), .val (.int x14), .val (.int x23), .val (.int x32), .val (.int x41), .val (.int x50), .val (.int x59), .unset, .unset, .unset] [])
  refine Go.of (fun t k => XS.iloadN X5.here hx rfl (hb hby at_61) rfl  k) ?_
  show Go p e below Φ T5 (mkF m 62 #[.val (.int i0), .val (.long i1), .second, .val (.int x7), .val (.int x14), .val (.int x23), .val (.int x32), .val (.int x41), .val (.int x50), .val (.int x59), .unset, .unset, .unset] [(.int x7)])
  by_cases hc62 : x7 = (0 : Int32)
  · refine Go.of (fun t k => XS.ifNo X5.here hx rfl (hb hby at_62) rfl (XT.i0_ne_f hc62) k) ?_
    show Go p e below Φ T5 (mkF m 65 #[.val (.int i0), .val (.long i1), .second, .val (.int x7), .val (.int x14), .val (.int x23), .val (.int x32), .val (.int x41), .val (.int x50), .val (.int x59), .unset, .unset, .unset] [])
    rw [hc62]
    show Go p e below Φ T5 (mkF m 65 #[.val (.int i0), .val (.long i1), .second, .val (.int (0 : Int32)), .val (.int x14), .val (.int x23), .val (.int x32), .val (.int x41), .val (.int x50), .val (.int x59), .unset, .unset, .unset] [])
    refine Go.of (fun t k => XS.iconst X5.here hx rfl (hb hby at_65) k) ?_
    show Go p e below Φ T5 (mkF m 66 #[.val (.int i0), .val (.long i1), .second, .val (.int (0 : Int32)), .val (.int x14), .val (.int x23), .val (.int x32), .val (.int x41), .val (.int x50), .val (.int x59), .unset, .unset, .unset] [(.int (0 : Int32))])
    obtain ⟨T6, h6, k6, X6, e6, E6, A6, st6⟩ := newP X5 hx hZ (hw _ (List.mem_of_getElem? (i := 4) rfl)) (e5q) (g := (mkF m 66 #[.val (.int i0), .val (.long i1), .second, .val (.int (0 : Int32)), .val (.int x14), .val (.int x23), .val (.int x32), .val (.int x41), .val (.int x50), .val (.int x59), .unset, .unset, .unset] [(.int (0 : Int32))])) rfl (hb hby at_66) rfl (by decide) (cap := 0) (by decide) (by decide) (by decide) (by decide)
    obtain ⟨b6, g6⟩ : ∃ z, z = h0.size := ⟨_, rfl⟩
    rw [← g6] at A6 st6
    have g_b6 : n0 ≤ b6 := Nat.le_trans Z0 (Nat.le_of_eq g6.symm)
    have Z6 := Nat.le_trans Z0 E6.1
    have V_b6 : Arv Z h6 b6 k6 .byte (0 : Int32) [] (.int (0 : Int32)) := Arv.new A6 (by decide)
    refine Go.of st6 ?_
    show Go p e below Φ T6 (mkF m 68 #[.val (.int i0), .val (.long i1), .second, .val (.int (0 : Int32)), .val (.int x14), .val (.int x23), .val (.int x32), .val (.int x41), .val (.int x50), .val (.int x59), .unset, .unset, .unset] [(.ref b6)])
    refine Go.of (fun t k => XS.astore X6.here hx rfl (hb hby at_68) rfl rfl (l' := #[.val (.int i0), .val (.long i1), .second, .val (.int (0 : Int32)), .val (.int x14), .val (.int x23), .val (.int x32), .val (.int x41), .val (.int x50), .val (.int x59), .val (.ref b6), .unset, .unset]) rfl k) ?_
    show Go p e below Φ T6 (mkF m 70 #[.val (.int i0), .val (.long i1), .second, .val (.int (0 : Int32)), .val (.int x14), .val (.int x23), .val (.int x32), .val (.int x41), .val (.int x50), .val (.int x59), .val (.ref b6), .unset, .unset] [])
    refine Go.of (fun t k => XS.goto X6.here hx rfl (pc0 := 70) (pc' := 205) rfl (hb hby at_70) (by decide) (by decide) k) ?_
    show Go p e below Φ T6 (mkF m 205 #[.val (.int i0), .val (.long i1), .second, .val (.int (0 : Int32)), .val (.int x14), .val (.int x23), .val (.int x32), .val (.int x41), .val (.int x50), .val (.int x59), .val (.ref b6), .unset, .unset] [])
    refine Go.of (fun t k => XS.iloadN X6.here hx rfl (hb hby at_205) rfl  k) ?_
    show Go p e below Φ T6 (mkF m 206 #[.val (.int i0), .val (.long i1), .second, .val (.int (0 : Int32)), .val (.int x14), .val (.int x23), .val (.int x32), .val (.int x41), .val (.int x50), .val (.int x59), .val (.ref b6), .unset, .unset] [(.int (0 : Int32))])
    suffices j259_7 :  Go p e below Φ T6 (mkF m 259 #[.val (.int i0), .val (.long i1), .second, .val (.int (0 : Int32)), .val (.int x14), .val (.int x23), .val (.int x32), .val (.int x41), .val (.int x50), .val (.int x59), .val (.ref b6), .unset, .unset] [(.int (0 : Int32))]) by
      refine Go.of (fun t k => XS.ifYes X6.here hx rfl (pc0 := 206) (pc' := 214) rfl (hb hby at_206) rfl (XT.i0_le_t (by decide)) (by decide) (by decide) k) ?_
      show Go p e below Φ T6 (mkF m 214 #[.val (.int i0), .val (.long i1), .second, .val (.int (0 : Int32)), .val (.int x14), .val (.int x23), .val (.int x32), .val (.int x41), .val (.int x50), .val (.int x59), .val (.ref b6), .unset, .unset] [])
      refine Go.of (fun t k => XS.iloadN X6.here hx rfl (hb hby at_214) rfl  k) ?_
      show Go p e below Φ T6 (mkF m 215 #[.val (.int i0), .val (.long i1), .second, .val (.int (0 : Int32)), .val (.int x14), .val (.int x23), .val (.int x32), .val (.int x41), .val (.int x50), .val (.int x59), .val (.ref b6), .unset, .unset] [(.int (0 : Int32))])
      refine Go.of (fun t k => XS.iconst X6.here hx rfl (hb hby at_215) k) ?_
      show Go p e below Φ T6 (mkF m 216 #[.val (.int i0), .val (.long i1), .second, .val (.int (0 : Int32)), .val (.int x14), .val (.int x23), .val (.int x32), .val (.int x41), .val (.int x50), .val (.int x59), .val (.ref b6), .unset, .unset] [(.int (1 : Int32)), (.int (0 : Int32))])
      refine Go.of (fun t k => XS.icmpYes X6.here hx rfl (pc0 := 216) (pc' := 224) rfl (hb hby at_216) rfl (XT.ii_le_t (by decide)) (by decide) (by decide) k) ?_
      show Go p e below Φ T6 (mkF m 224 #[.val (.int i0), .val (.long i1), .second, .val (.int (0 : Int32)), .val (.int x14), .val (.int x23), .val (.int x32), .val (.int x41), .val (.int x50), .val (.int x59), .val (.ref b6), .unset, .unset] [])
      refine Go.of (fun t k => XS.iloadN X6.here hx rfl (hb hby at_224) rfl  k) ?_
      show Go p e below Φ T6 (mkF m 225 #[.val (.int i0), .val (.long i1), .second, .val (.int (0 : Int32)), .val (.int x14), .val (.int x23), .val (.int x32), .val (.int x41), .val (.int x50), .val (.int x59), .val (.ref b6), .unset, .unset] [(.int (0 : Int32))])
      refine Go.of (fun t k => XS.iconst X6.here hx rfl (hb hby at_225) k) ?_
      show Go p e below Φ T6 (mkF m 226 #[.val (.int i0), .val (.long i1), .second, .val (.int (0 : Int32)), .val (.int x14), .val (.int x23), .val (.int x32), .val (.int x41), .val (.int x50), .val (.int x59), .val (.ref b6), .unset, .unset] [(.int (2 : Int32)), (.int (0 : Int32))])
      refine Go.of (fun t k => XS.icmpYes X6.here hx rfl (pc0 := 226) (pc' := 234) rfl (hb hby at_226) rfl (XT.ii_le_t (by decide)) (by decide) (by decide) k) ?_
      show Go p e below Φ T6 (mkF m 234 #[.val (.int i0), .val (.long i1), .second, .val (.int (0 : Int32)), .val (.int x14), .val (.int x23), .val (.int x32), .val (.int x41), .val (.int x50), .val (.int x59), .val (.ref b6), .unset, .unset] [])
      refine Go.of (fun t k => XS.iloadN X6.here hx rfl (hb hby at_234) rfl  k) ?_
      show Go p e below Φ T6 (mkF m 235 #[.val (.int i0), .val (.long i1), .second, .val (.int (0 : Int32)), .val (.int x14), .val (.int x23), .val (.int x32), .val (.int x41), .val (.int x50), .val (.int x59), .val (.ref b6), .unset, .unset] [(.int (0 : Int32))])
      refine Go.of (fun t k => XS.iconst X6.here hx rfl (hb hby at_235) k) ?_
      show Go p e below Φ T6 (mkF m 236 #[.val (.int i0), .val (.long i1), .second, .val (.int (0 : Int32)), .val (.int x14), .val (.int x23), .val (.int x32), .val (.int x41), .val (.int x50), .val (.int x59), .val (.ref b6), .unset, .unset] [(.int (3 : Int32)), (.int (0 : Int32))])
      refine Go.of (fun t k => XS.icmpYes X6.here hx rfl (pc0 := 236) (pc' := 244) rfl (hb hby at_236) rfl (XT.ii_le_t (by decide)) (by decide) (by decide) k) ?_
      show Go p e below Φ T6 (mkF m 244 #[.val (.int i0), .val (.long i1), .second, .val (.int (0 : Int32)), .val (.int x14), .val (.int x23), .val (.int x32), .val (.int x41), .val (.int x50), .val (.int x59), .val (.ref b6), .unset, .unset] [])
      refine Go.of (fun t k => XS.iloadN X6.here hx rfl (hb hby at_244) rfl  k) ?_
      show Go p e below Φ T6 (mkF m 245 #[.val (.int i0), .val (.long i1), .second, .val (.int (0 : Int32)), .val (.int x14), .val (.int x23), .val (.int x32), .val (.int x41), .val (.int x50), .val (.int x59), .val (.ref b6), .unset, .unset] [(.int (0 : Int32))])
      refine Go.of (fun t k => XS.iconst X6.here hx rfl (hb hby at_245) k) ?_
      show Go p e below Φ T6 (mkF m 246 #[.val (.int i0), .val (.long i1), .second, .val (.int (0 : Int32)), .val (.int x14), .val (.int x23), .val (.int x32), .val (.int x41), .val (.int x50), .val (.int x59), .val (.ref b6), .unset, .unset] [(.int (4 : Int32)), (.int (0 : Int32))])
      refine Go.of (fun t k => XS.icmpYes X6.here hx rfl (pc0 := 246) (pc' := 258) rfl (hb hby at_246) rfl (XT.ii_le_t (by decide)) (by decide) (by decide) k) ?_
      show Go p e below Φ T6 (mkF m 258 #[.val (.int i0), .val (.long i1), .second, .val (.int (0 : Int32)), .val (.int x14), .val (.int x23), .val (.int x32), .val (.int x41), .val (.int x50), .val (.int x59), .val (.ref b6), .unset, .unset] [])
      refine Go.of (fun t k => XS.iconst X6.here hx rfl (hb hby at_258) k) ?_
      show Go p e below Φ T6 (mkF m 259 #[.val (.int i0), .val (.long i1), .second, .val (.int (0 : Int32)), .val (.int x14), .val (.int x23), .val (.int x32), .val (.int x41), .val (.int x50), .val (.int x59), .val (.ref b6), .unset, .unset] [(.int (0 : Int32))])
      exact j259_7
    show Go p e below Φ T6 (mkF m 259 #[.val (.int i0), .val (.long i1), .second, .val (.int (0 : Int32)), .val (.int x14), .val (.int x23), .val (.int x32), .val (.int x41), .val (.int x50), .val (.int x59), .val (.ref b6), .unset, .unset] [(.int (0 : Int32))])
    refine Go.of (fun t k => XS.istore X6.here hx rfl (hb hby at_259) rfl (l' := #[.val (.int i0), .val (.long i1), .second, .val (.int (0 : Int32)), .val (.int x14), .val (.int x23), .val (.int x32), .val (.int x41), .val (.int x50), .val (.int x59), .val (.ref b6), .val (.int (0 : Int32)), .unset]) rfl k) ?_
    show Go p e below Φ T6 (mkF m 261 #[.val (.int i0), .val (.long i1), .second, .val (.int (0 : Int32)), .val (.int x14), .val (.int x23), .val (.int x32), .val (.int x41), .val (.int x50), .val (.int x59), .val (.ref b6), .val (.int (0 : Int32)), .unset] [])
    refine Go.of (fun t k => XS.iload X6.here hx rfl (hb hby at_261) rfl  k) ?_
    show Go p e below Φ T6 (mkF m 263 #[.val (.int i0), .val (.long i1), .second, .val (.int (0 : Int32)), .val (.int x14), .val (.int x23), .val (.int x32), .val (.int x41), .val (.int x50), .val (.int x59), .val (.ref b6), .val (.int (0 : Int32)), .unset] [(.int (0 : Int32))])
    suffices j271_8 :  Go p e below Φ T6 (mkF m 271 #[.val (.int i0), .val (.long i1), .second, .val (.int (0 : Int32)), .val (.int x14), .val (.int x23), .val (.int x32), .val (.int x41), .val (.int x50), .val (.int x59), .val (.ref b6), .val (.int (0 : Int32)), .unset] [(.int (1 : Int32))]) by
      refine Go.of (fun t k => XS.ifNo X6.here hx rfl (hb hby at_263) rfl (XT.i0_ne_f rfl) k) ?_
      show Go p e below Φ T6 (mkF m 266 #[.val (.int i0), .val (.long i1), .second, .val (.int (0 : Int32)), .val (.int x14), .val (.int x23), .val (.int x32), .val (.int x41), .val (.int x50), .val (.int x59), .val (.ref b6), .val (.int (0 : Int32)), .unset] [])
      refine Go.of (fun t k => XS.iconst X6.here hx rfl (hb hby at_266) k) ?_
      show Go p e below Φ T6 (mkF m 267 #[.val (.int i0), .val (.long i1), .second, .val (.int (0 : Int32)), .val (.int x14), .val (.int x23), .val (.int x32), .val (.int x41), .val (.int x50), .val (.int x59), .val (.ref b6), .val (.int (0 : Int32)), .unset] [(.int (1 : Int32))])
      refine Go.of (fun t k => XS.goto X6.here hx rfl (pc0 := 267) (pc' := 271) rfl (hb hby at_267) (by decide) (by decide) k) ?_
      show Go p e below Φ T6 (mkF m 271 #[.val (.int i0), .val (.long i1), .second, .val (.int (0 : Int32)), .val (.int x14), .val (.int x23), .val (.int x32), .val (.int x41), .val (.int x50), .val (.int x59), .val (.ref b6), .val (.int (0 : Int32)), .unset] [(.int (1 : Int32))])
      exact j271_8
    show Go p e below Φ T6 (mkF m 271 #[.val (.int i0), .val (.long i1), .second, .val (.int (0 : Int32)), .val (.int x14), .val (.int x23), .val (.int x32), .val (.int x41), .val (.int x50), .val (.int x59), .val (.ref b6), .val (.int (0 : Int32)), .unset] [(.int (1 : Int32))])
    refine Go.of (fun t k => XS.istore X6.here hx rfl (hb hby at_271) rfl (l' := #[.val (.int i0), .val (.long i1), .second, .val (.int (0 : Int32)), .val (.int x14), .val (.int x23), .val (.int x32), .val (.int x41), .val (.int x50), .val (.int x59), .val (.ref b6), .val (.int (0 : Int32)), .val (.int (1 : Int32))]) rfl k) ?_
    show Go p e below Φ T6 (mkF m 273 #[.val (.int i0), .val (.long i1), .second, .val (.int (0 : Int32)), .val (.int x14), .val (.int x23), .val (.int x32), .val (.int x41), .val (.int x50), .val (.int x59), .val (.ref b6), .val (.int (0 : Int32)), .val (.int (1 : Int32))] [])
    refine Go.of (fun t k => XS.aload X6.here hx rfl (hb hby at_273) rfl rfl  k) ?_
    show Go p e below Φ T6 (mkF m 275 #[.val (.int i0), .val (.long i1), .second, .val (.int (0 : Int32)), .val (.int x14), .val (.int x23), .val (.int x32), .val (.int x41), .val (.int x50), .val (.int x59), .val (.ref b6), .val (.int (0 : Int32)), .val (.int (1 : Int32))] [(.ref b6)])
    obtain ⟨_, _, ⟨T9, L9, k9, n9⟩, -, X9, ⟨Lc9, hQ9, l9, y9, z9⟩, st9⟩ := Jvm.LawKit.callS X6 hx (y := (⟨"com/example/dozynki/dozynki/StoreLayout", "definesSet", "([B)Z"⟩ : MethodName)) hown (mvT hZ (hw _ (List.mem_of_getElem? (i := 5) rfl))) (mvT hZ (hw _ (List.mem_of_getElem? (i := 6) rfl))) (mvT hZ (hw _ (List.mem_of_getElem? (i := 7) rfl))) (mvT hZ (hw _ (List.mem_of_getElem? (i := 8) rfl))) (by decide) (backOf (W := 0) (rm2 l Z a0 hw [] b6 k6 (0 : Int32) [] h6 n0 Z6 V_b6 rfl (Nat.le_of_ble_eq_true rfl)) hZ (hw _ (List.mem_of_getElem? (i := 8) rfl)) (hw _ (List.mem_of_getElem? (i := 7) rfl)) (by decide) (by decide)) (g := (mkF m 275 #[.val (.int i0), .val (.long i1), .second, .val (.int (0 : Int32)), .val (.int x14), .val (.int x23), .val (.int x32), .val (.int x41), .val (.int x50), .val (.int x59), .val (.ref b6), .val (.int (0 : Int32)), .val (.int (1 : Int32))] [(.ref b6)])) rfl (by rw [hml]; rfl) (argsL := [(.ref b6)]) (rest := []) (lenOf own_pd2 rfl) rfl (by show 2 * 0 + _ ≤ _; exact Nat.le_of_eq rfl) (hb hby at_275) (fun _ _ => ⟨rfl, e6, (by decide : 1 + 0 ≤ _), (by decide : 0 + 0 ≤ _)⟩)
    dsimp only [Pt.U, Pt.locs, Pt.cells, Pt.slots] at X9 l9 y9 z9 st9 hQ9
    subst l9 y9 z9
    obtain ⟨rfl, N9q, e9q⟩ := hQ9
    have N9 := Fr.app N5 N9q
    obtain ⟨lc9, X9, N9⟩ : ∃ lc, Stand p l e room_1 s m #[(.int i0), (.long i1)] below meth c T9 lc 1 0 ∧ Fr n0 lc := ⟨_, X9, N9⟩
    refine Go.of st9 ?_
    show Go p e below Φ T9 (mkF m 278 #[.val (.int i0), .val (.long i1), .second, .val (.int (0 : Int32)), .val (.int x14), .val (.int x23), .val (.int x32), .val (.int x41), .val (.int x50), .val (.int x59), .val (.ref b6), .val (.int (0 : Int32)), .val (.int (1 : Int32))] [(.int (own_defs (0 : Int32) []))])
    refine Go.of (fun t k => XS.iload X9.here hx rfl (hb hby at_278) rfl  k) ?_
    show Go p e below Φ T9 (mkF m 280 #[.val (.int i0), .val (.long i1), .second, .val (.int (0 : Int32)), .val (.int x14), .val (.int x23), .val (.int x32), .val (.int x41), .val (.int x50), .val (.int x59), .val (.ref b6), .val (.int (0 : Int32)), .val (.int (1 : Int32))] [(.int (1 : Int32)), (.int (own_defs (0 : Int32) []))])
    suffices j288_10 :  ∀ v288 : Int32, v288 = (if (own_defs (0 : Int32) []) = (1 : Int32) then (1 : Int32) else (0 : Int32)) → Go p e below Φ T9 (mkF m 288 #[.val (.int i0), .val (.long i1), .second, .val (.int (0 : Int32)), .val (.int x14), .val (.int x23), .val (.int x32), .val (.int x41), .val (.int x50), .val (.int x59), .val (.ref b6), .val (.int (0 : Int32)), .val (.int (1 : Int32))] [(.int v288)]) by
      by_cases hc280 : (own_defs (0 : Int32) []) = (1 : Int32)
      · refine Go.of (fun t k => XS.icmpNo X9.here hx rfl (hb hby at_280) rfl (XT.ii_ne_f hc280) k) ?_
        show Go p e below Φ T9 (mkF m 283 #[.val (.int i0), .val (.long i1), .second, .val (.int (0 : Int32)), .val (.int x14), .val (.int x23), .val (.int x32), .val (.int x41), .val (.int x50), .val (.int x59), .val (.ref b6), .val (.int (0 : Int32)), .val (.int (1 : Int32))] [])
        refine Go.of (fun t k => XS.iconst X9.here hx rfl (hb hby at_283) k) ?_
        show Go p e below Φ T9 (mkF m 284 #[.val (.int i0), .val (.long i1), .second, .val (.int (0 : Int32)), .val (.int x14), .val (.int x23), .val (.int x32), .val (.int x41), .val (.int x50), .val (.int x59), .val (.ref b6), .val (.int (0 : Int32)), .val (.int (1 : Int32))] [(.int (1 : Int32))])
        refine Go.of (fun t k => XS.goto X9.here hx rfl (pc0 := 284) (pc' := 288) rfl (hb hby at_284) (by decide) (by decide) k) ?_
        show Go p e below Φ T9 (mkF m 288 #[.val (.int i0), .val (.long i1), .second, .val (.int (0 : Int32)), .val (.int x14), .val (.int x23), .val (.int x32), .val (.int x41), .val (.int x50), .val (.int x59), .val (.ref b6), .val (.int (0 : Int32)), .val (.int (1 : Int32))] [(.int (1 : Int32))])
        exact j288_10 _ (by rw [if_pos hc280])
      · refine Go.of (fun t k => XS.icmpYes X9.here hx rfl (pc0 := 280) (pc' := 287) rfl (hb hby at_280) rfl (XT.ii_ne_t hc280) (by decide) (by decide) k) ?_
        show Go p e below Φ T9 (mkF m 287 #[.val (.int i0), .val (.long i1), .second, .val (.int (0 : Int32)), .val (.int x14), .val (.int x23), .val (.int x32), .val (.int x41), .val (.int x50), .val (.int x59), .val (.ref b6), .val (.int (0 : Int32)), .val (.int (1 : Int32))] [])
        refine Go.of (fun t k => XS.iconst X9.here hx rfl (hb hby at_287) k) ?_
        show Go p e below Φ T9 (mkF m 288 #[.val (.int i0), .val (.long i1), .second, .val (.int (0 : Int32)), .val (.int x14), .val (.int x23), .val (.int x32), .val (.int x41), .val (.int x50), .val (.int x59), .val (.ref b6), .val (.int (0 : Int32)), .val (.int (1 : Int32))] [(.int (0 : Int32))])
        exact j288_10 _ (by rw [if_neg hc280])
    intro v288 hv288
    show Go p e below Φ T9 (mkF m 288 #[.val (.int i0), .val (.long i1), .second, .val (.int (0 : Int32)), .val (.int x14), .val (.int x23), .val (.int x32), .val (.int x41), .val (.int x50), .val (.int x59), .val (.ref b6), .val (.int (0 : Int32)), .val (.int (1 : Int32))] [(.int v288)])
    rw [hΦ]
    refine Go.ret X9 hx Bd.notSynchronized Bd.returns (own_one (own_plain i0 i1 x7 hx7 x14 hx14 x23 hx23 x32 hx32 x41 hx41 x50 hx50 x59 hx59 v288 hv288 hc62)) (Or.inl ⟨rfl, Or.inr (Or.inl rfl), _, rfl⟩) (hb hby at_288) (by decide) (by decide) ?_
    rw [(e9q)]
    exact ⟨congrArg (fun z => some (Value.int z)) (own_plain i0 i1 x7 hx7 x14 hx14 x23 hx23 x32 hx32 x41 hx41 x50 hx50 x59 hx59 v288 hv288 hc62), N9⟩
  · refine Go.of (fun t k => XS.ifYes X5.here hx rfl (pc0 := 62) (pc' := 73) rfl (hb hby at_62) rfl (XT.i0_ne_t hc62) (by decide) (by decide) k) ?_
    show Go p e below Φ T5 (mkF m 73 #[.val (.int i0), .val (.long i1), .second, .val (.int x7), .val (.int x14), .val (.int x23), .val (.int x32), .val (.int x41), .val (.int x50), .val (.int x59), .unset, .unset, .unset] [])
    refine Go.of (fun t k => XS.iloadN X5.here hx rfl (hb hby at_73) rfl  k) ?_
    show Go p e below Φ T5 (mkF m 74 #[.val (.int i0), .val (.long i1), .second, .val (.int x7), .val (.int x14), .val (.int x23), .val (.int x32), .val (.int x41), .val (.int x50), .val (.int x59), .unset, .unset, .unset] [(.int x7)])
    refine Go.of (fun t k => XS.iconst X5.here hx rfl (hb hby at_74) k) ?_
    show Go p e below Φ T5 (mkF m 75 #[.val (.int i0), .val (.long i1), .second, .val (.int x7), .val (.int x14), .val (.int x23), .val (.int x32), .val (.int x41), .val (.int x50), .val (.int x59), .unset, .unset, .unset] [(.int (1 : Int32)), (.int x7)])
    by_cases hc75 : x7 = (1 : Int32)
    · refine Go.of (fun t k => XS.icmpNo X5.here hx rfl (hb hby at_75) rfl (XT.ii_ne_f hc75) k) ?_
      show Go p e below Φ T5 (mkF m 78 #[.val (.int i0), .val (.long i1), .second, .val (.int x7), .val (.int x14), .val (.int x23), .val (.int x32), .val (.int x41), .val (.int x50), .val (.int x59), .unset, .unset, .unset] [])
      rw [hc75]
      show Go p e below Φ T5 (mkF m 78 #[.val (.int i0), .val (.long i1), .second, .val (.int (1 : Int32)), .val (.int x14), .val (.int x23), .val (.int x32), .val (.int x41), .val (.int x50), .val (.int x59), .unset, .unset, .unset] [])
      refine Go.of (fun t k => XS.iconst X5.here hx rfl (hb hby at_78) k) ?_
      show Go p e below Φ T5 (mkF m 79 #[.val (.int i0), .val (.long i1), .second, .val (.int (1 : Int32)), .val (.int x14), .val (.int x23), .val (.int x32), .val (.int x41), .val (.int x50), .val (.int x59), .unset, .unset, .unset] [(.int (1 : Int32))])
      obtain ⟨T11, h11, k11, X11, e11, E11, A11, st11⟩ := newP X5 hx hZ (hw _ (List.mem_of_getElem? (i := 4) rfl)) (e5q) (g := (mkF m 79 #[.val (.int i0), .val (.long i1), .second, .val (.int (1 : Int32)), .val (.int x14), .val (.int x23), .val (.int x32), .val (.int x41), .val (.int x50), .val (.int x59), .unset, .unset, .unset] [(.int (1 : Int32))])) rfl (hb hby at_79) rfl (by decide) (cap := 1) (by decide) (by decide) (by decide) (by decide)
      obtain ⟨b11, g11⟩ : ∃ z, z = h0.size := ⟨_, rfl⟩
      rw [← g11] at A11 st11
      have g_b11 : n0 ≤ b11 := Nat.le_trans Z0 (Nat.le_of_eq g11.symm)
      have Z11 := Nat.le_trans Z0 E11.1
      have V_b11 : Arv Z h11 b11 k11 .byte (1 : Int32) [(.int (0 : Int32))] (.int (0 : Int32)) := (Arv.new A11 (by decide)).pad (pad_rep [] (.int (0 : Int32)) 1)
      refine Go.of st11 ?_
      show Go p e below Φ T11 (mkF m 81 #[.val (.int i0), .val (.long i1), .second, .val (.int (1 : Int32)), .val (.int x14), .val (.int x23), .val (.int x32), .val (.int x41), .val (.int x50), .val (.int x59), .unset, .unset, .unset] [(.ref b11)])
      refine Go.of (fun t k => XS.dup X11.here hx rfl (hb hby at_81) rfl rfl k) ?_
      show Go p e below Φ T11 (mkF m 82 #[.val (.int i0), .val (.long i1), .second, .val (.int (1 : Int32)), .val (.int x14), .val (.int x23), .val (.int x32), .val (.int x41), .val (.int x50), .val (.int x59), .unset, .unset, .unset] [(.ref b11), (.ref b11)])
      refine Go.of (fun t k => XS.iconst X11.here hx rfl (hb hby at_82) k) ?_
      show Go p e below Φ T11 (mkF m 83 #[.val (.int i0), .val (.long i1), .second, .val (.int (1 : Int32)), .val (.int x14), .val (.int x23), .val (.int x32), .val (.int x41), .val (.int x50), .val (.int x59), .unset, .unset, .unset] [(.int (0 : Int32)), (.ref b11), (.ref b11)])
      refine Go.of (fun t k => XS.iload X11.here hx rfl (hb hby at_83) rfl  k) ?_
      show Go p e below Φ T11 (mkF m 85 #[.val (.int i0), .val (.long i1), .second, .val (.int (1 : Int32)), .val (.int x14), .val (.int x23), .val (.int x32), .val (.int x41), .val (.int x50), .val (.int x59), .unset, .unset, .unset] [(.int x23), (.int (0 : Int32)), (.ref b11), (.ref b11)])
      obtain ⟨cl85, Ar85, q85, S85, N85, H85, G85⟩ := id V_b11
      have hin85 : ¬ ((0 : Int32) < 0 ∨ cl85.slots.size ≤ ((0 : Int32)).toNatClampNeg) := inb_of S85 ⟨by decide, by decide⟩
      obtain ⟨T12, h12, X12, e12, W12, st12⟩ := stB X11 hx hZ e11 Ar85 (j := (0 : Int32)) hin85 (g := (mkF m 85 #[.val (.int i0), .val (.long i1), .second, .val (.int (1 : Int32)), .val (.int x14), .val (.int x23), .val (.int x32), .val (.int x41), .val (.int x50), .val (.int x59), .unset, .unset, .unset] [(.int x23), (.int (0 : Int32)), (.ref b11), (.ref b11)])) rfl rfl (hb hby at_85)
      have V_b11 : Arv Z h12 b11 k11 .byte (1 : Int32) [(.int (nar .byte x23))] (.int (0 : Int32)) := Arv.set Ar85 q85 S85 N85 H85 G85 (fits_nar_byte _) W12 0 rfl (Nat.le_of_ble_eq_true rfl)
      have N12 := Fr.snoc X12 N5 g_b11
      have Z12 := Nat.le_trans Z11 (Keep.of_wr W12).1
      obtain ⟨lc12, X12, N12⟩ : ∃ lc, Stand p l e room_1 s m #[(.int i0), (.long i1)] below meth c T12 lc 1 1 ∧ Fr n0 lc := ⟨_, X12, N12⟩
      refine Go.of st12 ?_
      show Go p e below Φ T12 (mkF m 86 #[.val (.int i0), .val (.long i1), .second, .val (.int (1 : Int32)), .val (.int x14), .val (.int x23), .val (.int x32), .val (.int x41), .val (.int x50), .val (.int x59), .unset, .unset, .unset] [(.ref b11)])
      refine Go.of (fun t k => XS.astore X12.here hx rfl (hb hby at_86) rfl rfl (l' := #[.val (.int i0), .val (.long i1), .second, .val (.int (1 : Int32)), .val (.int x14), .val (.int x23), .val (.int x32), .val (.int x41), .val (.int x50), .val (.int x59), .val (.ref b11), .unset, .unset]) rfl k) ?_
      show Go p e below Φ T12 (mkF m 88 #[.val (.int i0), .val (.long i1), .second, .val (.int (1 : Int32)), .val (.int x14), .val (.int x23), .val (.int x32), .val (.int x41), .val (.int x50), .val (.int x59), .val (.ref b11), .unset, .unset] [])
      refine Go.of (fun t k => XS.goto X12.here hx rfl (pc0 := 88) (pc' := 205) rfl (hb hby at_88) (by decide) (by decide) k) ?_
      show Go p e below Φ T12 (mkF m 205 #[.val (.int i0), .val (.long i1), .second, .val (.int (1 : Int32)), .val (.int x14), .val (.int x23), .val (.int x32), .val (.int x41), .val (.int x50), .val (.int x59), .val (.ref b11), .unset, .unset] [])
      refine Go.of (fun t k => XS.iloadN X12.here hx rfl (hb hby at_205) rfl  k) ?_
      show Go p e below Φ T12 (mkF m 206 #[.val (.int i0), .val (.long i1), .second, .val (.int (1 : Int32)), .val (.int x14), .val (.int x23), .val (.int x32), .val (.int x41), .val (.int x50), .val (.int x59), .val (.ref b11), .unset, .unset] [(.int (1 : Int32))])
      suffices j259_13 :  ∀ v259 : Int32, v259 = (if x23 = (0 : Int32) then (1 : Int32) else (0 : Int32)) → Go p e below Φ T12 (mkF m 259 #[.val (.int i0), .val (.long i1), .second, .val (.int (1 : Int32)), .val (.int x14), .val (.int x23), .val (.int x32), .val (.int x41), .val (.int x50), .val (.int x59), .val (.ref b11), .unset, .unset] [(.int v259)]) by
        refine Go.of (fun t k => XS.ifNo X12.here hx rfl (hb hby at_206) rfl (XT.i0_le_f (by decide)) k) ?_
        show Go p e below Φ T12 (mkF m 209 #[.val (.int i0), .val (.long i1), .second, .val (.int (1 : Int32)), .val (.int x14), .val (.int x23), .val (.int x32), .val (.int x41), .val (.int x50), .val (.int x59), .val (.ref b11), .unset, .unset] [])
        refine Go.of (fun t k => XS.iload X12.here hx rfl (hb hby at_209) rfl  k) ?_
        show Go p e below Φ T12 (mkF m 211 #[.val (.int i0), .val (.long i1), .second, .val (.int (1 : Int32)), .val (.int x14), .val (.int x23), .val (.int x32), .val (.int x41), .val (.int x50), .val (.int x59), .val (.ref b11), .unset, .unset] [(.int x23)])
        by_cases hc211 : x23 = (0 : Int32)
        · refine Go.of (fun t k => XS.ifYes X12.here hx rfl (pc0 := 211) (pc' := 254) rfl (hb hby at_211) rfl (XT.i0_eq_t hc211) (by decide) (by decide) k) ?_
          show Go p e below Φ T12 (mkF m 254 #[.val (.int i0), .val (.long i1), .second, .val (.int (1 : Int32)), .val (.int x14), .val (.int x23), .val (.int x32), .val (.int x41), .val (.int x50), .val (.int x59), .val (.ref b11), .unset, .unset] [])
          refine Go.of (fun t k => XS.iconst X12.here hx rfl (hb hby at_254) k) ?_
          show Go p e below Φ T12 (mkF m 255 #[.val (.int i0), .val (.long i1), .second, .val (.int (1 : Int32)), .val (.int x14), .val (.int x23), .val (.int x32), .val (.int x41), .val (.int x50), .val (.int x59), .val (.ref b11), .unset, .unset] [(.int (1 : Int32))])
          refine Go.of (fun t k => XS.goto X12.here hx rfl (pc0 := 255) (pc' := 259) rfl (hb hby at_255) (by decide) (by decide) k) ?_
          show Go p e below Φ T12 (mkF m 259 #[.val (.int i0), .val (.long i1), .second, .val (.int (1 : Int32)), .val (.int x14), .val (.int x23), .val (.int x32), .val (.int x41), .val (.int x50), .val (.int x59), .val (.ref b11), .unset, .unset] [(.int (1 : Int32))])
          exact j259_13 _ (by rw [if_pos hc211])
        · refine Go.of (fun t k => XS.ifNo X12.here hx rfl (hb hby at_211) rfl (XT.i0_eq_f hc211) k) ?_
          show Go p e below Φ T12 (mkF m 214 #[.val (.int i0), .val (.long i1), .second, .val (.int (1 : Int32)), .val (.int x14), .val (.int x23), .val (.int x32), .val (.int x41), .val (.int x50), .val (.int x59), .val (.ref b11), .unset, .unset] [])
          refine Go.of (fun t k => XS.iloadN X12.here hx rfl (hb hby at_214) rfl  k) ?_
          show Go p e below Φ T12 (mkF m 215 #[.val (.int i0), .val (.long i1), .second, .val (.int (1 : Int32)), .val (.int x14), .val (.int x23), .val (.int x32), .val (.int x41), .val (.int x50), .val (.int x59), .val (.ref b11), .unset, .unset] [(.int (1 : Int32))])
          refine Go.of (fun t k => XS.iconst X12.here hx rfl (hb hby at_215) k) ?_
          show Go p e below Φ T12 (mkF m 216 #[.val (.int i0), .val (.long i1), .second, .val (.int (1 : Int32)), .val (.int x14), .val (.int x23), .val (.int x32), .val (.int x41), .val (.int x50), .val (.int x59), .val (.ref b11), .unset, .unset] [(.int (1 : Int32)), (.int (1 : Int32))])
          refine Go.of (fun t k => XS.icmpYes X12.here hx rfl (pc0 := 216) (pc' := 224) rfl (hb hby at_216) rfl (XT.ii_le_t (by decide)) (by decide) (by decide) k) ?_
          show Go p e below Φ T12 (mkF m 224 #[.val (.int i0), .val (.long i1), .second, .val (.int (1 : Int32)), .val (.int x14), .val (.int x23), .val (.int x32), .val (.int x41), .val (.int x50), .val (.int x59), .val (.ref b11), .unset, .unset] [])
          refine Go.of (fun t k => XS.iloadN X12.here hx rfl (hb hby at_224) rfl  k) ?_
          show Go p e below Φ T12 (mkF m 225 #[.val (.int i0), .val (.long i1), .second, .val (.int (1 : Int32)), .val (.int x14), .val (.int x23), .val (.int x32), .val (.int x41), .val (.int x50), .val (.int x59), .val (.ref b11), .unset, .unset] [(.int (1 : Int32))])
          refine Go.of (fun t k => XS.iconst X12.here hx rfl (hb hby at_225) k) ?_
          show Go p e below Φ T12 (mkF m 226 #[.val (.int i0), .val (.long i1), .second, .val (.int (1 : Int32)), .val (.int x14), .val (.int x23), .val (.int x32), .val (.int x41), .val (.int x50), .val (.int x59), .val (.ref b11), .unset, .unset] [(.int (2 : Int32)), (.int (1 : Int32))])
          refine Go.of (fun t k => XS.icmpYes X12.here hx rfl (pc0 := 226) (pc' := 234) rfl (hb hby at_226) rfl (XT.ii_le_t (by decide)) (by decide) (by decide) k) ?_
          show Go p e below Φ T12 (mkF m 234 #[.val (.int i0), .val (.long i1), .second, .val (.int (1 : Int32)), .val (.int x14), .val (.int x23), .val (.int x32), .val (.int x41), .val (.int x50), .val (.int x59), .val (.ref b11), .unset, .unset] [])
          refine Go.of (fun t k => XS.iloadN X12.here hx rfl (hb hby at_234) rfl  k) ?_
          show Go p e below Φ T12 (mkF m 235 #[.val (.int i0), .val (.long i1), .second, .val (.int (1 : Int32)), .val (.int x14), .val (.int x23), .val (.int x32), .val (.int x41), .val (.int x50), .val (.int x59), .val (.ref b11), .unset, .unset] [(.int (1 : Int32))])
          refine Go.of (fun t k => XS.iconst X12.here hx rfl (hb hby at_235) k) ?_
          show Go p e below Φ T12 (mkF m 236 #[.val (.int i0), .val (.long i1), .second, .val (.int (1 : Int32)), .val (.int x14), .val (.int x23), .val (.int x32), .val (.int x41), .val (.int x50), .val (.int x59), .val (.ref b11), .unset, .unset] [(.int (3 : Int32)), (.int (1 : Int32))])
          refine Go.of (fun t k => XS.icmpYes X12.here hx rfl (pc0 := 236) (pc' := 244) rfl (hb hby at_236) rfl (XT.ii_le_t (by decide)) (by decide) (by decide) k) ?_
          show Go p e below Φ T12 (mkF m 244 #[.val (.int i0), .val (.long i1), .second, .val (.int (1 : Int32)), .val (.int x14), .val (.int x23), .val (.int x32), .val (.int x41), .val (.int x50), .val (.int x59), .val (.ref b11), .unset, .unset] [])
          refine Go.of (fun t k => XS.iloadN X12.here hx rfl (hb hby at_244) rfl  k) ?_
          show Go p e below Φ T12 (mkF m 245 #[.val (.int i0), .val (.long i1), .second, .val (.int (1 : Int32)), .val (.int x14), .val (.int x23), .val (.int x32), .val (.int x41), .val (.int x50), .val (.int x59), .val (.ref b11), .unset, .unset] [(.int (1 : Int32))])
          refine Go.of (fun t k => XS.iconst X12.here hx rfl (hb hby at_245) k) ?_
          show Go p e below Φ T12 (mkF m 246 #[.val (.int i0), .val (.long i1), .second, .val (.int (1 : Int32)), .val (.int x14), .val (.int x23), .val (.int x32), .val (.int x41), .val (.int x50), .val (.int x59), .val (.ref b11), .unset, .unset] [(.int (4 : Int32)), (.int (1 : Int32))])
          refine Go.of (fun t k => XS.icmpYes X12.here hx rfl (pc0 := 246) (pc' := 258) rfl (hb hby at_246) rfl (XT.ii_le_t (by decide)) (by decide) (by decide) k) ?_
          show Go p e below Φ T12 (mkF m 258 #[.val (.int i0), .val (.long i1), .second, .val (.int (1 : Int32)), .val (.int x14), .val (.int x23), .val (.int x32), .val (.int x41), .val (.int x50), .val (.int x59), .val (.ref b11), .unset, .unset] [])
          refine Go.of (fun t k => XS.iconst X12.here hx rfl (hb hby at_258) k) ?_
          show Go p e below Φ T12 (mkF m 259 #[.val (.int i0), .val (.long i1), .second, .val (.int (1 : Int32)), .val (.int x14), .val (.int x23), .val (.int x32), .val (.int x41), .val (.int x50), .val (.int x59), .val (.ref b11), .unset, .unset] [(.int (0 : Int32))])
          exact j259_13 _ (by rw [if_neg hc211])
      intro v259 hv259
      show Go p e below Φ T12 (mkF m 259 #[.val (.int i0), .val (.long i1), .second, .val (.int (1 : Int32)), .val (.int x14), .val (.int x23), .val (.int x32), .val (.int x41), .val (.int x50), .val (.int x59), .val (.ref b11), .unset, .unset] [(.int v259)])
      refine Go.of (fun t k => XS.istore X12.here hx rfl (hb hby at_259) rfl (l' := #[.val (.int i0), .val (.long i1), .second, .val (.int (1 : Int32)), .val (.int x14), .val (.int x23), .val (.int x32), .val (.int x41), .val (.int x50), .val (.int x59), .val (.ref b11), .val (.int v259), .unset]) rfl k) ?_
      show Go p e below Φ T12 (mkF m 261 #[.val (.int i0), .val (.long i1), .second, .val (.int (1 : Int32)), .val (.int x14), .val (.int x23), .val (.int x32), .val (.int x41), .val (.int x50), .val (.int x59), .val (.ref b11), .val (.int v259), .unset] [])
      refine Go.of (fun t k => XS.iload X12.here hx rfl (hb hby at_261) rfl  k) ?_
      show Go p e below Φ T12 (mkF m 263 #[.val (.int i0), .val (.long i1), .second, .val (.int (1 : Int32)), .val (.int x14), .val (.int x23), .val (.int x32), .val (.int x41), .val (.int x50), .val (.int x59), .val (.ref b11), .val (.int v259), .unset] [(.int v259)])
      suffices j271_14 :  ∀ v271 : Int32, v271 = (if v259 = (0 : Int32) then (1 : Int32) else (0 : Int32)) → Go p e below Φ T12 (mkF m 271 #[.val (.int i0), .val (.long i1), .second, .val (.int (1 : Int32)), .val (.int x14), .val (.int x23), .val (.int x32), .val (.int x41), .val (.int x50), .val (.int x59), .val (.ref b11), .val (.int v259), .unset] [(.int v271)]) by
        by_cases hc263 : v259 = (0 : Int32)
        · refine Go.of (fun t k => XS.ifNo X12.here hx rfl (hb hby at_263) rfl (XT.i0_ne_f hc263) k) ?_
          show Go p e below Φ T12 (mkF m 266 #[.val (.int i0), .val (.long i1), .second, .val (.int (1 : Int32)), .val (.int x14), .val (.int x23), .val (.int x32), .val (.int x41), .val (.int x50), .val (.int x59), .val (.ref b11), .val (.int v259), .unset] [])
          refine Go.of (fun t k => XS.iconst X12.here hx rfl (hb hby at_266) k) ?_
          show Go p e below Φ T12 (mkF m 267 #[.val (.int i0), .val (.long i1), .second, .val (.int (1 : Int32)), .val (.int x14), .val (.int x23), .val (.int x32), .val (.int x41), .val (.int x50), .val (.int x59), .val (.ref b11), .val (.int v259), .unset] [(.int (1 : Int32))])
          refine Go.of (fun t k => XS.goto X12.here hx rfl (pc0 := 267) (pc' := 271) rfl (hb hby at_267) (by decide) (by decide) k) ?_
          show Go p e below Φ T12 (mkF m 271 #[.val (.int i0), .val (.long i1), .second, .val (.int (1 : Int32)), .val (.int x14), .val (.int x23), .val (.int x32), .val (.int x41), .val (.int x50), .val (.int x59), .val (.ref b11), .val (.int v259), .unset] [(.int (1 : Int32))])
          exact j271_14 _ (by rw [if_pos hc263])
        · refine Go.of (fun t k => XS.ifYes X12.here hx rfl (pc0 := 263) (pc' := 270) rfl (hb hby at_263) rfl (XT.i0_ne_t hc263) (by decide) (by decide) k) ?_
          show Go p e below Φ T12 (mkF m 270 #[.val (.int i0), .val (.long i1), .second, .val (.int (1 : Int32)), .val (.int x14), .val (.int x23), .val (.int x32), .val (.int x41), .val (.int x50), .val (.int x59), .val (.ref b11), .val (.int v259), .unset] [])
          refine Go.of (fun t k => XS.iconst X12.here hx rfl (hb hby at_270) k) ?_
          show Go p e below Φ T12 (mkF m 271 #[.val (.int i0), .val (.long i1), .second, .val (.int (1 : Int32)), .val (.int x14), .val (.int x23), .val (.int x32), .val (.int x41), .val (.int x50), .val (.int x59), .val (.ref b11), .val (.int v259), .unset] [(.int (0 : Int32))])
          exact j271_14 _ (by rw [if_neg hc263])
      intro v271 hv271
      show Go p e below Φ T12 (mkF m 271 #[.val (.int i0), .val (.long i1), .second, .val (.int (1 : Int32)), .val (.int x14), .val (.int x23), .val (.int x32), .val (.int x41), .val (.int x50), .val (.int x59), .val (.ref b11), .val (.int v259), .unset] [(.int v271)])
      refine Go.of (fun t k => XS.istore X12.here hx rfl (hb hby at_271) rfl (l' := #[.val (.int i0), .val (.long i1), .second, .val (.int (1 : Int32)), .val (.int x14), .val (.int x23), .val (.int x32), .val (.int x41), .val (.int x50), .val (.int x59), .val (.ref b11), .val (.int v259), .val (.int v271)]) rfl k) ?_
      show Go p e below Φ T12 (mkF m 273 #[.val (.int i0), .val (.long i1), .second, .val (.int (1 : Int32)), .val (.int x14), .val (.int x23), .val (.int x32), .val (.int x41), .val (.int x50), .val (.int x59), .val (.ref b11), .val (.int v259), .val (.int v271)] [])
      refine Go.of (fun t k => XS.aload X12.here hx rfl (hb hby at_273) rfl rfl  k) ?_
      show Go p e below Φ T12 (mkF m 275 #[.val (.int i0), .val (.long i1), .second, .val (.int (1 : Int32)), .val (.int x14), .val (.int x23), .val (.int x32), .val (.int x41), .val (.int x50), .val (.int x59), .val (.ref b11), .val (.int v259), .val (.int v271)] [(.ref b11)])
      obtain ⟨_, _, ⟨T15, L15, k15, n15⟩, -, X15, ⟨Lc15, hQ15, l15, y15, z15⟩, st15⟩ := Jvm.LawKit.callS X12 hx (y := (⟨"com/example/dozynki/dozynki/StoreLayout", "definesSet", "([B)Z"⟩ : MethodName)) hown (mvT hZ (hw _ (List.mem_of_getElem? (i := 5) rfl))) (mvT hZ (hw _ (List.mem_of_getElem? (i := 6) rfl))) (mvT hZ (hw _ (List.mem_of_getElem? (i := 7) rfl))) (mvT hZ (hw _ (List.mem_of_getElem? (i := 8) rfl))) (by decide) (backOf (W := 0) (rm2 l Z a0 hw [] b11 k11 (1 : Int32) [(nar .byte x23)] h12 n0 Z12 V_b11 rfl (Nat.le_of_ble_eq_true rfl)) hZ (hw _ (List.mem_of_getElem? (i := 8) rfl)) (hw _ (List.mem_of_getElem? (i := 7) rfl)) (by decide) (by decide)) (g := (mkF m 275 #[.val (.int i0), .val (.long i1), .second, .val (.int (1 : Int32)), .val (.int x14), .val (.int x23), .val (.int x32), .val (.int x41), .val (.int x50), .val (.int x59), .val (.ref b11), .val (.int v259), .val (.int v271)] [(.ref b11)])) rfl (by rw [hml]; rfl) (argsL := [(.ref b11)]) (rest := []) (lenOf own_pd2 rfl) rfl (by show 2 * 0 + _ ≤ _; exact Nat.le_of_eq rfl) (hb hby at_275) (fun _ _ => ⟨rfl, e12, (by decide : 1 + 0 ≤ _), (by decide : 1 + 0 ≤ _)⟩)
      dsimp only [Pt.U, Pt.locs, Pt.cells, Pt.slots] at X15 l15 y15 z15 st15 hQ15
      subst l15 y15 z15
      obtain ⟨rfl, N15q, e15q⟩ := hQ15
      have N15 := Fr.app N12 N15q
      obtain ⟨lc15, X15, N15⟩ : ∃ lc, Stand p l e room_1 s m #[(.int i0), (.long i1)] below meth c T15 lc 1 1 ∧ Fr n0 lc := ⟨_, X15, N15⟩
      refine Go.of st15 ?_
      show Go p e below Φ T15 (mkF m 278 #[.val (.int i0), .val (.long i1), .second, .val (.int (1 : Int32)), .val (.int x14), .val (.int x23), .val (.int x32), .val (.int x41), .val (.int x50), .val (.int x59), .val (.ref b11), .val (.int v259), .val (.int v271)] [(.int (own_defs (1 : Int32) [(nar .byte x23)]))])
      refine Go.of (fun t k => XS.iload X15.here hx rfl (hb hby at_278) rfl  k) ?_
      show Go p e below Φ T15 (mkF m 280 #[.val (.int i0), .val (.long i1), .second, .val (.int (1 : Int32)), .val (.int x14), .val (.int x23), .val (.int x32), .val (.int x41), .val (.int x50), .val (.int x59), .val (.ref b11), .val (.int v259), .val (.int v271)] [(.int v271), (.int (own_defs (1 : Int32) [(nar .byte x23)]))])
      suffices j288_16 :  ∀ v288 : Int32, v288 = (if (own_defs (1 : Int32) [(nar .byte x23)]) = v271 then (1 : Int32) else (0 : Int32)) → Go p e below Φ T15 (mkF m 288 #[.val (.int i0), .val (.long i1), .second, .val (.int (1 : Int32)), .val (.int x14), .val (.int x23), .val (.int x32), .val (.int x41), .val (.int x50), .val (.int x59), .val (.ref b11), .val (.int v259), .val (.int v271)] [(.int v288)]) by
        by_cases hc280 : (own_defs (1 : Int32) [(nar .byte x23)]) = v271
        · refine Go.of (fun t k => XS.icmpNo X15.here hx rfl (hb hby at_280) rfl (XT.ii_ne_f hc280) k) ?_
          show Go p e below Φ T15 (mkF m 283 #[.val (.int i0), .val (.long i1), .second, .val (.int (1 : Int32)), .val (.int x14), .val (.int x23), .val (.int x32), .val (.int x41), .val (.int x50), .val (.int x59), .val (.ref b11), .val (.int v259), .val (.int v271)] [])
          refine Go.of (fun t k => XS.iconst X15.here hx rfl (hb hby at_283) k) ?_
          show Go p e below Φ T15 (mkF m 284 #[.val (.int i0), .val (.long i1), .second, .val (.int (1 : Int32)), .val (.int x14), .val (.int x23), .val (.int x32), .val (.int x41), .val (.int x50), .val (.int x59), .val (.ref b11), .val (.int v259), .val (.int v271)] [(.int (1 : Int32))])
          refine Go.of (fun t k => XS.goto X15.here hx rfl (pc0 := 284) (pc' := 288) rfl (hb hby at_284) (by decide) (by decide) k) ?_
          show Go p e below Φ T15 (mkF m 288 #[.val (.int i0), .val (.long i1), .second, .val (.int (1 : Int32)), .val (.int x14), .val (.int x23), .val (.int x32), .val (.int x41), .val (.int x50), .val (.int x59), .val (.ref b11), .val (.int v259), .val (.int v271)] [(.int (1 : Int32))])
          exact j288_16 _ (by rw [if_pos hc280])
        · refine Go.of (fun t k => XS.icmpYes X15.here hx rfl (pc0 := 280) (pc' := 287) rfl (hb hby at_280) rfl (XT.ii_ne_t hc280) (by decide) (by decide) k) ?_
          show Go p e below Φ T15 (mkF m 287 #[.val (.int i0), .val (.long i1), .second, .val (.int (1 : Int32)), .val (.int x14), .val (.int x23), .val (.int x32), .val (.int x41), .val (.int x50), .val (.int x59), .val (.ref b11), .val (.int v259), .val (.int v271)] [])
          refine Go.of (fun t k => XS.iconst X15.here hx rfl (hb hby at_287) k) ?_
          show Go p e below Φ T15 (mkF m 288 #[.val (.int i0), .val (.long i1), .second, .val (.int (1 : Int32)), .val (.int x14), .val (.int x23), .val (.int x32), .val (.int x41), .val (.int x50), .val (.int x59), .val (.ref b11), .val (.int v259), .val (.int v271)] [(.int (0 : Int32))])
          exact j288_16 _ (by rw [if_neg hc280])
      intro v288 hv288
      show Go p e below Φ T15 (mkF m 288 #[.val (.int i0), .val (.long i1), .second, .val (.int (1 : Int32)), .val (.int x14), .val (.int x23), .val (.int x32), .val (.int x41), .val (.int x50), .val (.int x59), .val (.ref b11), .val (.int v259), .val (.int v271)] [(.int v288)])
      rw [hΦ]
      refine Go.ret X15 hx Bd.notSynchronized Bd.returns (own_one (own_plain2 i0 i1 x7 hx7 x14 hx14 x23 hx23 x32 hx32 x41 hx41 x50 hx50 x59 hx59 v259 hv259 v271 hv271 v288 hv288 hc62 hc75)) (Or.inl ⟨rfl, Or.inr (Or.inl rfl), _, rfl⟩) (hb hby at_288) (by decide) (by decide) ?_
      rw [(e15q)]
      exact ⟨congrArg (fun z => some (Value.int z)) (own_plain2 i0 i1 x7 hx7 x14 hx14 x23 hx23 x32 hx32 x41 hx41 x50 hx50 x59 hx59 v259 hv259 v271 hv271 v288 hv288 hc62 hc75), N15⟩
    · refine Go.of (fun t k => XS.icmpYes X5.here hx rfl (pc0 := 75) (pc' := 91) rfl (hb hby at_75) rfl (XT.ii_ne_t hc75) (by decide) (by decide) k) ?_
      show Go p e below Φ T5 (mkF m 91 #[.val (.int i0), .val (.long i1), .second, .val (.int x7), .val (.int x14), .val (.int x23), .val (.int x32), .val (.int x41), .val (.int x50), .val (.int x59), .unset, .unset, .unset] [])
      refine Go.of (fun t k => XS.iloadN X5.here hx rfl (hb hby at_91) rfl  k) ?_
      show Go p e below Φ T5 (mkF m 92 #[.val (.int i0), .val (.long i1), .second, .val (.int x7), .val (.int x14), .val (.int x23), .val (.int x32), .val (.int x41), .val (.int x50), .val (.int x59), .unset, .unset, .unset] [(.int x7)])
      refine Go.of (fun t k => XS.iconst X5.here hx rfl (hb hby at_92) k) ?_
      show Go p e below Φ T5 (mkF m 93 #[.val (.int i0), .val (.long i1), .second, .val (.int x7), .val (.int x14), .val (.int x23), .val (.int x32), .val (.int x41), .val (.int x50), .val (.int x59), .unset, .unset, .unset] [(.int (2 : Int32)), (.int x7)])
      by_cases hc93 : x7 = (2 : Int32)
      · refine Go.of (fun t k => XS.icmpNo X5.here hx rfl (hb hby at_93) rfl (XT.ii_ne_f hc93) k) ?_
        show Go p e below Φ T5 (mkF m 96 #[.val (.int i0), .val (.long i1), .second, .val (.int x7), .val (.int x14), .val (.int x23), .val (.int x32), .val (.int x41), .val (.int x50), .val (.int x59), .unset, .unset, .unset] [])
        rw [hc93]
        show Go p e below Φ T5 (mkF m 96 #[.val (.int i0), .val (.long i1), .second, .val (.int (2 : Int32)), .val (.int x14), .val (.int x23), .val (.int x32), .val (.int x41), .val (.int x50), .val (.int x59), .unset, .unset, .unset] [])
        refine Go.of (fun t k => XS.iconst X5.here hx rfl (hb hby at_96) k) ?_
        show Go p e below Φ T5 (mkF m 97 #[.val (.int i0), .val (.long i1), .second, .val (.int (2 : Int32)), .val (.int x14), .val (.int x23), .val (.int x32), .val (.int x41), .val (.int x50), .val (.int x59), .unset, .unset, .unset] [(.int (2 : Int32))])
        obtain ⟨T17, h17, k17, X17, e17, E17, A17, st17⟩ := newP X5 hx hZ (hw _ (List.mem_of_getElem? (i := 4) rfl)) (e5q) (g := (mkF m 97 #[.val (.int i0), .val (.long i1), .second, .val (.int (2 : Int32)), .val (.int x14), .val (.int x23), .val (.int x32), .val (.int x41), .val (.int x50), .val (.int x59), .unset, .unset, .unset] [(.int (2 : Int32))])) rfl (hb hby at_97) rfl (by decide) (cap := 2) (by decide) (by decide) (by decide) (by decide)
        obtain ⟨b17, g17⟩ : ∃ z, z = h0.size := ⟨_, rfl⟩
        rw [← g17] at A17 st17
        have g_b17 : n0 ≤ b17 := Nat.le_trans Z0 (Nat.le_of_eq g17.symm)
        have Z17 := Nat.le_trans Z0 E17.1
        have V_b17 : Arv Z h17 b17 k17 .byte (2 : Int32) [(.int (0 : Int32)), (.int (0 : Int32))] (.int (0 : Int32)) := (Arv.new A17 (by decide)).pad (pad_rep [] (.int (0 : Int32)) 2)
        refine Go.of st17 ?_
        show Go p e below Φ T17 (mkF m 99 #[.val (.int i0), .val (.long i1), .second, .val (.int (2 : Int32)), .val (.int x14), .val (.int x23), .val (.int x32), .val (.int x41), .val (.int x50), .val (.int x59), .unset, .unset, .unset] [(.ref b17)])
        refine Go.of (fun t k => XS.dup X17.here hx rfl (hb hby at_99) rfl rfl k) ?_
        show Go p e below Φ T17 (mkF m 100 #[.val (.int i0), .val (.long i1), .second, .val (.int (2 : Int32)), .val (.int x14), .val (.int x23), .val (.int x32), .val (.int x41), .val (.int x50), .val (.int x59), .unset, .unset, .unset] [(.ref b17), (.ref b17)])
        refine Go.of (fun t k => XS.iconst X17.here hx rfl (hb hby at_100) k) ?_
        show Go p e below Φ T17 (mkF m 101 #[.val (.int i0), .val (.long i1), .second, .val (.int (2 : Int32)), .val (.int x14), .val (.int x23), .val (.int x32), .val (.int x41), .val (.int x50), .val (.int x59), .unset, .unset, .unset] [(.int (0 : Int32)), (.ref b17), (.ref b17)])
        refine Go.of (fun t k => XS.iload X17.here hx rfl (hb hby at_101) rfl  k) ?_
        show Go p e below Φ T17 (mkF m 103 #[.val (.int i0), .val (.long i1), .second, .val (.int (2 : Int32)), .val (.int x14), .val (.int x23), .val (.int x32), .val (.int x41), .val (.int x50), .val (.int x59), .unset, .unset, .unset] [(.int x23), (.int (0 : Int32)), (.ref b17), (.ref b17)])
        obtain ⟨cl103, Ar103, q103, S103, N103, H103, G103⟩ := id V_b17
        have hin103 : ¬ ((0 : Int32) < 0 ∨ cl103.slots.size ≤ ((0 : Int32)).toNatClampNeg) := inb_of S103 ⟨by decide, by decide⟩
        obtain ⟨T18, h18, X18, e18, W18, st18⟩ := stB X17 hx hZ e17 Ar103 (j := (0 : Int32)) hin103 (g := (mkF m 103 #[.val (.int i0), .val (.long i1), .second, .val (.int (2 : Int32)), .val (.int x14), .val (.int x23), .val (.int x32), .val (.int x41), .val (.int x50), .val (.int x59), .unset, .unset, .unset] [(.int x23), (.int (0 : Int32)), (.ref b17), (.ref b17)])) rfl rfl (hb hby at_103)
        have V_b17 : Arv Z h18 b17 k17 .byte (2 : Int32) [(.int (nar .byte x23)), (.int (0 : Int32))] (.int (0 : Int32)) := Arv.set Ar103 q103 S103 N103 H103 G103 (fits_nar_byte _) W18 0 rfl (Nat.le_of_ble_eq_true rfl)
        have N18 := Fr.snoc X18 N5 g_b17
        have Z18 := Nat.le_trans Z17 (Keep.of_wr W18).1
        obtain ⟨lc18, X18, N18⟩ : ∃ lc, Stand p l e room_1 s m #[(.int i0), (.long i1)] below meth c T18 lc 1 2 ∧ Fr n0 lc := ⟨_, X18, N18⟩
        refine Go.of st18 ?_
        show Go p e below Φ T18 (mkF m 104 #[.val (.int i0), .val (.long i1), .second, .val (.int (2 : Int32)), .val (.int x14), .val (.int x23), .val (.int x32), .val (.int x41), .val (.int x50), .val (.int x59), .unset, .unset, .unset] [(.ref b17)])
        refine Go.of (fun t k => XS.dup X18.here hx rfl (hb hby at_104) rfl rfl k) ?_
        show Go p e below Φ T18 (mkF m 105 #[.val (.int i0), .val (.long i1), .second, .val (.int (2 : Int32)), .val (.int x14), .val (.int x23), .val (.int x32), .val (.int x41), .val (.int x50), .val (.int x59), .unset, .unset, .unset] [(.ref b17), (.ref b17)])
        refine Go.of (fun t k => XS.iconst X18.here hx rfl (hb hby at_105) k) ?_
        show Go p e below Φ T18 (mkF m 106 #[.val (.int i0), .val (.long i1), .second, .val (.int (2 : Int32)), .val (.int x14), .val (.int x23), .val (.int x32), .val (.int x41), .val (.int x50), .val (.int x59), .unset, .unset, .unset] [(.int (1 : Int32)), (.ref b17), (.ref b17)])
        refine Go.of (fun t k => XS.iload X18.here hx rfl (hb hby at_106) rfl  k) ?_
        show Go p e below Φ T18 (mkF m 108 #[.val (.int i0), .val (.long i1), .second, .val (.int (2 : Int32)), .val (.int x14), .val (.int x23), .val (.int x32), .val (.int x41), .val (.int x50), .val (.int x59), .unset, .unset, .unset] [(.int x32), (.int (1 : Int32)), (.ref b17), (.ref b17)])
        obtain ⟨cl108, Ar108, q108, S108, N108, H108, G108⟩ := id V_b17
        have hin108 : ¬ ((1 : Int32) < 0 ∨ cl108.slots.size ≤ ((1 : Int32)).toNatClampNeg) := inb_of S108 ⟨by decide, by decide⟩
        obtain ⟨T19, h19, X19, e19, W19, st19⟩ := stB X18 hx hZ e18 Ar108 (j := (1 : Int32)) hin108 (g := (mkF m 108 #[.val (.int i0), .val (.long i1), .second, .val (.int (2 : Int32)), .val (.int x14), .val (.int x23), .val (.int x32), .val (.int x41), .val (.int x50), .val (.int x59), .unset, .unset, .unset] [(.int x32), (.int (1 : Int32)), (.ref b17), (.ref b17)])) rfl rfl (hb hby at_108)
        have V_b17 : Arv Z h19 b17 k17 .byte (2 : Int32) [(.int (nar .byte x23)), (.int (nar .byte x32))] (.int (0 : Int32)) := Arv.set Ar108 q108 S108 N108 H108 G108 (fits_nar_byte _) W19 1 rfl (Nat.le_of_ble_eq_true rfl)
        have N19 := Fr.snoc X19 N18 g_b17
        have Z19 := Nat.le_trans Z18 (Keep.of_wr W19).1
        obtain ⟨lc19, X19, N19⟩ : ∃ lc, Stand p l e room_1 s m #[(.int i0), (.long i1)] below meth c T19 lc 1 2 ∧ Fr n0 lc := ⟨_, X19, N19⟩
        refine Go.of st19 ?_
        show Go p e below Φ T19 (mkF m 109 #[.val (.int i0), .val (.long i1), .second, .val (.int (2 : Int32)), .val (.int x14), .val (.int x23), .val (.int x32), .val (.int x41), .val (.int x50), .val (.int x59), .unset, .unset, .unset] [(.ref b17)])
        refine Go.of (fun t k => XS.astore X19.here hx rfl (hb hby at_109) rfl rfl (l' := #[.val (.int i0), .val (.long i1), .second, .val (.int (2 : Int32)), .val (.int x14), .val (.int x23), .val (.int x32), .val (.int x41), .val (.int x50), .val (.int x59), .val (.ref b17), .unset, .unset]) rfl k) ?_
        show Go p e below Φ T19 (mkF m 111 #[.val (.int i0), .val (.long i1), .second, .val (.int (2 : Int32)), .val (.int x14), .val (.int x23), .val (.int x32), .val (.int x41), .val (.int x50), .val (.int x59), .val (.ref b17), .unset, .unset] [])
        refine Go.of (fun t k => XS.goto X19.here hx rfl (pc0 := 111) (pc' := 205) rfl (hb hby at_111) (by decide) (by decide) k) ?_
        show Go p e below Φ T19 (mkF m 205 #[.val (.int i0), .val (.long i1), .second, .val (.int (2 : Int32)), .val (.int x14), .val (.int x23), .val (.int x32), .val (.int x41), .val (.int x50), .val (.int x59), .val (.ref b17), .unset, .unset] [])
        refine Go.of (fun t k => XS.iloadN X19.here hx rfl (hb hby at_205) rfl  k) ?_
        show Go p e below Φ T19 (mkF m 206 #[.val (.int i0), .val (.long i1), .second, .val (.int (2 : Int32)), .val (.int x14), .val (.int x23), .val (.int x32), .val (.int x41), .val (.int x50), .val (.int x59), .val (.ref b17), .unset, .unset] [(.int (2 : Int32))])
        suffices j259_20 :  ∀ v259 : Int32, v259 = (if x23 = (0 : Int32) then (1 : Int32) else (if x32 = (0 : Int32) then (1 : Int32) else (0 : Int32))) → Go p e below Φ T19 (mkF m 259 #[.val (.int i0), .val (.long i1), .second, .val (.int (2 : Int32)), .val (.int x14), .val (.int x23), .val (.int x32), .val (.int x41), .val (.int x50), .val (.int x59), .val (.ref b17), .unset, .unset] [(.int v259)]) by
          refine Go.of (fun t k => XS.ifNo X19.here hx rfl (hb hby at_206) rfl (XT.i0_le_f (by decide)) k) ?_
          show Go p e below Φ T19 (mkF m 209 #[.val (.int i0), .val (.long i1), .second, .val (.int (2 : Int32)), .val (.int x14), .val (.int x23), .val (.int x32), .val (.int x41), .val (.int x50), .val (.int x59), .val (.ref b17), .unset, .unset] [])
          refine Go.of (fun t k => XS.iload X19.here hx rfl (hb hby at_209) rfl  k) ?_
          show Go p e below Φ T19 (mkF m 211 #[.val (.int i0), .val (.long i1), .second, .val (.int (2 : Int32)), .val (.int x14), .val (.int x23), .val (.int x32), .val (.int x41), .val (.int x50), .val (.int x59), .val (.ref b17), .unset, .unset] [(.int x23)])
          by_cases hc211 : x23 = (0 : Int32)
          · refine Go.of (fun t k => XS.ifYes X19.here hx rfl (pc0 := 211) (pc' := 254) rfl (hb hby at_211) rfl (XT.i0_eq_t hc211) (by decide) (by decide) k) ?_
            show Go p e below Φ T19 (mkF m 254 #[.val (.int i0), .val (.long i1), .second, .val (.int (2 : Int32)), .val (.int x14), .val (.int x23), .val (.int x32), .val (.int x41), .val (.int x50), .val (.int x59), .val (.ref b17), .unset, .unset] [])
            refine Go.of (fun t k => XS.iconst X19.here hx rfl (hb hby at_254) k) ?_
            show Go p e below Φ T19 (mkF m 255 #[.val (.int i0), .val (.long i1), .second, .val (.int (2 : Int32)), .val (.int x14), .val (.int x23), .val (.int x32), .val (.int x41), .val (.int x50), .val (.int x59), .val (.ref b17), .unset, .unset] [(.int (1 : Int32))])
            refine Go.of (fun t k => XS.goto X19.here hx rfl (pc0 := 255) (pc' := 259) rfl (hb hby at_255) (by decide) (by decide) k) ?_
            show Go p e below Φ T19 (mkF m 259 #[.val (.int i0), .val (.long i1), .second, .val (.int (2 : Int32)), .val (.int x14), .val (.int x23), .val (.int x32), .val (.int x41), .val (.int x50), .val (.int x59), .val (.ref b17), .unset, .unset] [(.int (1 : Int32))])
            exact j259_20 _ (by rw [if_pos hc211])
          · refine Go.of (fun t k => XS.ifNo X19.here hx rfl (hb hby at_211) rfl (XT.i0_eq_f hc211) k) ?_
            show Go p e below Φ T19 (mkF m 214 #[.val (.int i0), .val (.long i1), .second, .val (.int (2 : Int32)), .val (.int x14), .val (.int x23), .val (.int x32), .val (.int x41), .val (.int x50), .val (.int x59), .val (.ref b17), .unset, .unset] [])
            refine Go.of (fun t k => XS.iloadN X19.here hx rfl (hb hby at_214) rfl  k) ?_
            show Go p e below Φ T19 (mkF m 215 #[.val (.int i0), .val (.long i1), .second, .val (.int (2 : Int32)), .val (.int x14), .val (.int x23), .val (.int x32), .val (.int x41), .val (.int x50), .val (.int x59), .val (.ref b17), .unset, .unset] [(.int (2 : Int32))])
            refine Go.of (fun t k => XS.iconst X19.here hx rfl (hb hby at_215) k) ?_
            show Go p e below Φ T19 (mkF m 216 #[.val (.int i0), .val (.long i1), .second, .val (.int (2 : Int32)), .val (.int x14), .val (.int x23), .val (.int x32), .val (.int x41), .val (.int x50), .val (.int x59), .val (.ref b17), .unset, .unset] [(.int (1 : Int32)), (.int (2 : Int32))])
            refine Go.of (fun t k => XS.icmpNo X19.here hx rfl (hb hby at_216) rfl (XT.ii_le_f (by decide)) k) ?_
            show Go p e below Φ T19 (mkF m 219 #[.val (.int i0), .val (.long i1), .second, .val (.int (2 : Int32)), .val (.int x14), .val (.int x23), .val (.int x32), .val (.int x41), .val (.int x50), .val (.int x59), .val (.ref b17), .unset, .unset] [])
            refine Go.of (fun t k => XS.iload X19.here hx rfl (hb hby at_219) rfl  k) ?_
            show Go p e below Φ T19 (mkF m 221 #[.val (.int i0), .val (.long i1), .second, .val (.int (2 : Int32)), .val (.int x14), .val (.int x23), .val (.int x32), .val (.int x41), .val (.int x50), .val (.int x59), .val (.ref b17), .unset, .unset] [(.int x32)])
            by_cases hc221 : x32 = (0 : Int32)
            · refine Go.of (fun t k => XS.ifYes X19.here hx rfl (pc0 := 221) (pc' := 254) rfl (hb hby at_221) rfl (XT.i0_eq_t hc221) (by decide) (by decide) k) ?_
              show Go p e below Φ T19 (mkF m 254 #[.val (.int i0), .val (.long i1), .second, .val (.int (2 : Int32)), .val (.int x14), .val (.int x23), .val (.int x32), .val (.int x41), .val (.int x50), .val (.int x59), .val (.ref b17), .unset, .unset] [])
              refine Go.of (fun t k => XS.iconst X19.here hx rfl (hb hby at_254) k) ?_
              show Go p e below Φ T19 (mkF m 255 #[.val (.int i0), .val (.long i1), .second, .val (.int (2 : Int32)), .val (.int x14), .val (.int x23), .val (.int x32), .val (.int x41), .val (.int x50), .val (.int x59), .val (.ref b17), .unset, .unset] [(.int (1 : Int32))])
              refine Go.of (fun t k => XS.goto X19.here hx rfl (pc0 := 255) (pc' := 259) rfl (hb hby at_255) (by decide) (by decide) k) ?_
              show Go p e below Φ T19 (mkF m 259 #[.val (.int i0), .val (.long i1), .second, .val (.int (2 : Int32)), .val (.int x14), .val (.int x23), .val (.int x32), .val (.int x41), .val (.int x50), .val (.int x59), .val (.ref b17), .unset, .unset] [(.int (1 : Int32))])
              exact j259_20 _ (by rw [if_neg hc211, if_pos hc221])
            · refine Go.of (fun t k => XS.ifNo X19.here hx rfl (hb hby at_221) rfl (XT.i0_eq_f hc221) k) ?_
              show Go p e below Φ T19 (mkF m 224 #[.val (.int i0), .val (.long i1), .second, .val (.int (2 : Int32)), .val (.int x14), .val (.int x23), .val (.int x32), .val (.int x41), .val (.int x50), .val (.int x59), .val (.ref b17), .unset, .unset] [])
              refine Go.of (fun t k => XS.iloadN X19.here hx rfl (hb hby at_224) rfl  k) ?_
              show Go p e below Φ T19 (mkF m 225 #[.val (.int i0), .val (.long i1), .second, .val (.int (2 : Int32)), .val (.int x14), .val (.int x23), .val (.int x32), .val (.int x41), .val (.int x50), .val (.int x59), .val (.ref b17), .unset, .unset] [(.int (2 : Int32))])
              refine Go.of (fun t k => XS.iconst X19.here hx rfl (hb hby at_225) k) ?_
              show Go p e below Φ T19 (mkF m 226 #[.val (.int i0), .val (.long i1), .second, .val (.int (2 : Int32)), .val (.int x14), .val (.int x23), .val (.int x32), .val (.int x41), .val (.int x50), .val (.int x59), .val (.ref b17), .unset, .unset] [(.int (2 : Int32)), (.int (2 : Int32))])
              refine Go.of (fun t k => XS.icmpYes X19.here hx rfl (pc0 := 226) (pc' := 234) rfl (hb hby at_226) rfl (XT.ii_le_t (by decide)) (by decide) (by decide) k) ?_
              show Go p e below Φ T19 (mkF m 234 #[.val (.int i0), .val (.long i1), .second, .val (.int (2 : Int32)), .val (.int x14), .val (.int x23), .val (.int x32), .val (.int x41), .val (.int x50), .val (.int x59), .val (.ref b17), .unset, .unset] [])
              refine Go.of (fun t k => XS.iloadN X19.here hx rfl (hb hby at_234) rfl  k) ?_
              show Go p e below Φ T19 (mkF m 235 #[.val (.int i0), .val (.long i1), .second, .val (.int (2 : Int32)), .val (.int x14), .val (.int x23), .val (.int x32), .val (.int x41), .val (.int x50), .val (.int x59), .val (.ref b17), .unset, .unset] [(.int (2 : Int32))])
              refine Go.of (fun t k => XS.iconst X19.here hx rfl (hb hby at_235) k) ?_
              show Go p e below Φ T19 (mkF m 236 #[.val (.int i0), .val (.long i1), .second, .val (.int (2 : Int32)), .val (.int x14), .val (.int x23), .val (.int x32), .val (.int x41), .val (.int x50), .val (.int x59), .val (.ref b17), .unset, .unset] [(.int (3 : Int32)), (.int (2 : Int32))])
              refine Go.of (fun t k => XS.icmpYes X19.here hx rfl (pc0 := 236) (pc' := 244) rfl (hb hby at_236) rfl (XT.ii_le_t (by decide)) (by decide) (by decide) k) ?_
              show Go p e below Φ T19 (mkF m 244 #[.val (.int i0), .val (.long i1), .second, .val (.int (2 : Int32)), .val (.int x14), .val (.int x23), .val (.int x32), .val (.int x41), .val (.int x50), .val (.int x59), .val (.ref b17), .unset, .unset] [])
              refine Go.of (fun t k => XS.iloadN X19.here hx rfl (hb hby at_244) rfl  k) ?_
              show Go p e below Φ T19 (mkF m 245 #[.val (.int i0), .val (.long i1), .second, .val (.int (2 : Int32)), .val (.int x14), .val (.int x23), .val (.int x32), .val (.int x41), .val (.int x50), .val (.int x59), .val (.ref b17), .unset, .unset] [(.int (2 : Int32))])
              refine Go.of (fun t k => XS.iconst X19.here hx rfl (hb hby at_245) k) ?_
              show Go p e below Φ T19 (mkF m 246 #[.val (.int i0), .val (.long i1), .second, .val (.int (2 : Int32)), .val (.int x14), .val (.int x23), .val (.int x32), .val (.int x41), .val (.int x50), .val (.int x59), .val (.ref b17), .unset, .unset] [(.int (4 : Int32)), (.int (2 : Int32))])
              refine Go.of (fun t k => XS.icmpYes X19.here hx rfl (pc0 := 246) (pc' := 258) rfl (hb hby at_246) rfl (XT.ii_le_t (by decide)) (by decide) (by decide) k) ?_
              show Go p e below Φ T19 (mkF m 258 #[.val (.int i0), .val (.long i1), .second, .val (.int (2 : Int32)), .val (.int x14), .val (.int x23), .val (.int x32), .val (.int x41), .val (.int x50), .val (.int x59), .val (.ref b17), .unset, .unset] [])
              refine Go.of (fun t k => XS.iconst X19.here hx rfl (hb hby at_258) k) ?_
              show Go p e below Φ T19 (mkF m 259 #[.val (.int i0), .val (.long i1), .second, .val (.int (2 : Int32)), .val (.int x14), .val (.int x23), .val (.int x32), .val (.int x41), .val (.int x50), .val (.int x59), .val (.ref b17), .unset, .unset] [(.int (0 : Int32))])
              exact j259_20 _ (by rw [if_neg hc211, if_neg hc221])
        intro v259 hv259
        show Go p e below Φ T19 (mkF m 259 #[.val (.int i0), .val (.long i1), .second, .val (.int (2 : Int32)), .val (.int x14), .val (.int x23), .val (.int x32), .val (.int x41), .val (.int x50), .val (.int x59), .val (.ref b17), .unset, .unset] [(.int v259)])
        refine Go.of (fun t k => XS.istore X19.here hx rfl (hb hby at_259) rfl (l' := #[.val (.int i0), .val (.long i1), .second, .val (.int (2 : Int32)), .val (.int x14), .val (.int x23), .val (.int x32), .val (.int x41), .val (.int x50), .val (.int x59), .val (.ref b17), .val (.int v259), .unset]) rfl k) ?_
        show Go p e below Φ T19 (mkF m 261 #[.val (.int i0), .val (.long i1), .second, .val (.int (2 : Int32)), .val (.int x14), .val (.int x23), .val (.int x32), .val (.int x41), .val (.int x50), .val (.int x59), .val (.ref b17), .val (.int v259), .unset] [])
        refine Go.of (fun t k => XS.iload X19.here hx rfl (hb hby at_261) rfl  k) ?_
        show Go p e below Φ T19 (mkF m 263 #[.val (.int i0), .val (.long i1), .second, .val (.int (2 : Int32)), .val (.int x14), .val (.int x23), .val (.int x32), .val (.int x41), .val (.int x50), .val (.int x59), .val (.ref b17), .val (.int v259), .unset] [(.int v259)])
        suffices j271_21 :  ∀ v271 : Int32, v271 = (if v259 = (0 : Int32) then (1 : Int32) else (0 : Int32)) → Go p e below Φ T19 (mkF m 271 #[.val (.int i0), .val (.long i1), .second, .val (.int (2 : Int32)), .val (.int x14), .val (.int x23), .val (.int x32), .val (.int x41), .val (.int x50), .val (.int x59), .val (.ref b17), .val (.int v259), .unset] [(.int v271)]) by
          by_cases hc263 : v259 = (0 : Int32)
          · refine Go.of (fun t k => XS.ifNo X19.here hx rfl (hb hby at_263) rfl (XT.i0_ne_f hc263) k) ?_
            show Go p e below Φ T19 (mkF m 266 #[.val (.int i0), .val (.long i1), .second, .val (.int (2 : Int32)), .val (.int x14), .val (.int x23), .val (.int x32), .val (.int x41), .val (.int x50), .val (.int x59), .val (.ref b17), .val (.int v259), .unset] [])
            refine Go.of (fun t k => XS.iconst X19.here hx rfl (hb hby at_266) k) ?_
            show Go p e below Φ T19 (mkF m 267 #[.val (.int i0), .val (.long i1), .second, .val (.int (2 : Int32)), .val (.int x14), .val (.int x23), .val (.int x32), .val (.int x41), .val (.int x50), .val (.int x59), .val (.ref b17), .val (.int v259), .unset] [(.int (1 : Int32))])
            refine Go.of (fun t k => XS.goto X19.here hx rfl (pc0 := 267) (pc' := 271) rfl (hb hby at_267) (by decide) (by decide) k) ?_
            show Go p e below Φ T19 (mkF m 271 #[.val (.int i0), .val (.long i1), .second, .val (.int (2 : Int32)), .val (.int x14), .val (.int x23), .val (.int x32), .val (.int x41), .val (.int x50), .val (.int x59), .val (.ref b17), .val (.int v259), .unset] [(.int (1 : Int32))])
            exact j271_21 _ (by rw [if_pos hc263])
          · refine Go.of (fun t k => XS.ifYes X19.here hx rfl (pc0 := 263) (pc' := 270) rfl (hb hby at_263) rfl (XT.i0_ne_t hc263) (by decide) (by decide) k) ?_
            show Go p e below Φ T19 (mkF m 270 #[.val (.int i0), .val (.long i1), .second, .val (.int (2 : Int32)), .val (.int x14), .val (.int x23), .val (.int x32), .val (.int x41), .val (.int x50), .val (.int x59), .val (.ref b17), .val (.int v259), .unset] [])
            refine Go.of (fun t k => XS.iconst X19.here hx rfl (hb hby at_270) k) ?_
            show Go p e below Φ T19 (mkF m 271 #[.val (.int i0), .val (.long i1), .second, .val (.int (2 : Int32)), .val (.int x14), .val (.int x23), .val (.int x32), .val (.int x41), .val (.int x50), .val (.int x59), .val (.ref b17), .val (.int v259), .unset] [(.int (0 : Int32))])
            exact j271_21 _ (by rw [if_neg hc263])
        intro v271 hv271
        show Go p e below Φ T19 (mkF m 271 #[.val (.int i0), .val (.long i1), .second, .val (.int (2 : Int32)), .val (.int x14), .val (.int x23), .val (.int x32), .val (.int x41), .val (.int x50), .val (.int x59), .val (.ref b17), .val (.int v259), .unset] [(.int v271)])
        refine Go.of (fun t k => XS.istore X19.here hx rfl (hb hby at_271) rfl (l' := #[.val (.int i0), .val (.long i1), .second, .val (.int (2 : Int32)), .val (.int x14), .val (.int x23), .val (.int x32), .val (.int x41), .val (.int x50), .val (.int x59), .val (.ref b17), .val (.int v259), .val (.int v271)]) rfl k) ?_
        show Go p e below Φ T19 (mkF m 273 #[.val (.int i0), .val (.long i1), .second, .val (.int (2 : Int32)), .val (.int x14), .val (.int x23), .val (.int x32), .val (.int x41), .val (.int x50), .val (.int x59), .val (.ref b17), .val (.int v259), .val (.int v271)] [])
        refine Go.of (fun t k => XS.aload X19.here hx rfl (hb hby at_273) rfl rfl  k) ?_
        show Go p e below Φ T19 (mkF m 275 #[.val (.int i0), .val (.long i1), .second, .val (.int (2 : Int32)), .val (.int x14), .val (.int x23), .val (.int x32), .val (.int x41), .val (.int x50), .val (.int x59), .val (.ref b17), .val (.int v259), .val (.int v271)] [(.ref b17)])
        obtain ⟨_, _, ⟨T22, L22, k22, n22⟩, -, X22, ⟨Lc22, hQ22, l22, y22, z22⟩, st22⟩ := Jvm.LawKit.callS X19 hx (y := (⟨"com/example/dozynki/dozynki/StoreLayout", "definesSet", "([B)Z"⟩ : MethodName)) hown (mvT hZ (hw _ (List.mem_of_getElem? (i := 5) rfl))) (mvT hZ (hw _ (List.mem_of_getElem? (i := 6) rfl))) (mvT hZ (hw _ (List.mem_of_getElem? (i := 7) rfl))) (mvT hZ (hw _ (List.mem_of_getElem? (i := 8) rfl))) (by decide) (backOf (W := 0) (rm2 l Z a0 hw [] b17 k17 (2 : Int32) [(nar .byte x23), (nar .byte x32)] h19 n0 Z19 V_b17 rfl (Nat.le_of_ble_eq_true rfl)) hZ (hw _ (List.mem_of_getElem? (i := 8) rfl)) (hw _ (List.mem_of_getElem? (i := 7) rfl)) (by decide) (by decide)) (g := (mkF m 275 #[.val (.int i0), .val (.long i1), .second, .val (.int (2 : Int32)), .val (.int x14), .val (.int x23), .val (.int x32), .val (.int x41), .val (.int x50), .val (.int x59), .val (.ref b17), .val (.int v259), .val (.int v271)] [(.ref b17)])) rfl (by rw [hml]; rfl) (argsL := [(.ref b17)]) (rest := []) (lenOf own_pd2 rfl) rfl (by show 2 * 0 + _ ≤ _; exact Nat.le_of_eq rfl) (hb hby at_275) (fun _ _ => ⟨rfl, e19, (by decide : 1 + 0 ≤ _), (by decide : 2 + 0 ≤ _)⟩)
        dsimp only [Pt.U, Pt.locs, Pt.cells, Pt.slots] at X22 l22 y22 z22 st22 hQ22
        subst l22 y22 z22
        obtain ⟨rfl, N22q, e22q⟩ := hQ22
        have N22 := Fr.app N19 N22q
        obtain ⟨lc22, X22, N22⟩ : ∃ lc, Stand p l e room_1 s m #[(.int i0), (.long i1)] below meth c T22 lc 1 2 ∧ Fr n0 lc := ⟨_, X22, N22⟩
        refine Go.of st22 ?_
        show Go p e below Φ T22 (mkF m 278 #[.val (.int i0), .val (.long i1), .second, .val (.int (2 : Int32)), .val (.int x14), .val (.int x23), .val (.int x32), .val (.int x41), .val (.int x50), .val (.int x59), .val (.ref b17), .val (.int v259), .val (.int v271)] [(.int (own_defs (2 : Int32) [(nar .byte x23), (nar .byte x32)]))])
        refine Go.of (fun t k => XS.iload X22.here hx rfl (hb hby at_278) rfl  k) ?_
        show Go p e below Φ T22 (mkF m 280 #[.val (.int i0), .val (.long i1), .second, .val (.int (2 : Int32)), .val (.int x14), .val (.int x23), .val (.int x32), .val (.int x41), .val (.int x50), .val (.int x59), .val (.ref b17), .val (.int v259), .val (.int v271)] [(.int v271), (.int (own_defs (2 : Int32) [(nar .byte x23), (nar .byte x32)]))])
        suffices j288_23 :  ∀ v288 : Int32, v288 = (if (own_defs (2 : Int32) [(nar .byte x23), (nar .byte x32)]) = v271 then (1 : Int32) else (0 : Int32)) → Go p e below Φ T22 (mkF m 288 #[.val (.int i0), .val (.long i1), .second, .val (.int (2 : Int32)), .val (.int x14), .val (.int x23), .val (.int x32), .val (.int x41), .val (.int x50), .val (.int x59), .val (.ref b17), .val (.int v259), .val (.int v271)] [(.int v288)]) by
          by_cases hc280 : (own_defs (2 : Int32) [(nar .byte x23), (nar .byte x32)]) = v271
          · refine Go.of (fun t k => XS.icmpNo X22.here hx rfl (hb hby at_280) rfl (XT.ii_ne_f hc280) k) ?_
            show Go p e below Φ T22 (mkF m 283 #[.val (.int i0), .val (.long i1), .second, .val (.int (2 : Int32)), .val (.int x14), .val (.int x23), .val (.int x32), .val (.int x41), .val (.int x50), .val (.int x59), .val (.ref b17), .val (.int v259), .val (.int v271)] [])
            refine Go.of (fun t k => XS.iconst X22.here hx rfl (hb hby at_283) k) ?_
            show Go p e below Φ T22 (mkF m 284 #[.val (.int i0), .val (.long i1), .second, .val (.int (2 : Int32)), .val (.int x14), .val (.int x23), .val (.int x32), .val (.int x41), .val (.int x50), .val (.int x59), .val (.ref b17), .val (.int v259), .val (.int v271)] [(.int (1 : Int32))])
            refine Go.of (fun t k => XS.goto X22.here hx rfl (pc0 := 284) (pc' := 288) rfl (hb hby at_284) (by decide) (by decide) k) ?_
            show Go p e below Φ T22 (mkF m 288 #[.val (.int i0), .val (.long i1), .second, .val (.int (2 : Int32)), .val (.int x14), .val (.int x23), .val (.int x32), .val (.int x41), .val (.int x50), .val (.int x59), .val (.ref b17), .val (.int v259), .val (.int v271)] [(.int (1 : Int32))])
            exact j288_23 _ (by rw [if_pos hc280])
          · refine Go.of (fun t k => XS.icmpYes X22.here hx rfl (pc0 := 280) (pc' := 287) rfl (hb hby at_280) rfl (XT.ii_ne_t hc280) (by decide) (by decide) k) ?_
            show Go p e below Φ T22 (mkF m 287 #[.val (.int i0), .val (.long i1), .second, .val (.int (2 : Int32)), .val (.int x14), .val (.int x23), .val (.int x32), .val (.int x41), .val (.int x50), .val (.int x59), .val (.ref b17), .val (.int v259), .val (.int v271)] [])
            refine Go.of (fun t k => XS.iconst X22.here hx rfl (hb hby at_287) k) ?_
            show Go p e below Φ T22 (mkF m 288 #[.val (.int i0), .val (.long i1), .second, .val (.int (2 : Int32)), .val (.int x14), .val (.int x23), .val (.int x32), .val (.int x41), .val (.int x50), .val (.int x59), .val (.ref b17), .val (.int v259), .val (.int v271)] [(.int (0 : Int32))])
            exact j288_23 _ (by rw [if_neg hc280])
        intro v288 hv288
        show Go p e below Φ T22 (mkF m 288 #[.val (.int i0), .val (.long i1), .second, .val (.int (2 : Int32)), .val (.int x14), .val (.int x23), .val (.int x32), .val (.int x41), .val (.int x50), .val (.int x59), .val (.ref b17), .val (.int v259), .val (.int v271)] [(.int v288)])
        rw [hΦ]
        refine Go.ret X22 hx Bd.notSynchronized Bd.returns (own_one (own_plain3 i0 i1 x7 hx7 x14 hx14 x23 hx23 x32 hx32 x41 hx41 x50 hx50 x59 hx59 v259 hv259 v271 hv271 v288 hv288 hc62 hc75 hc93)) (Or.inl ⟨rfl, Or.inr (Or.inl rfl), _, rfl⟩) (hb hby at_288) (by decide) (by decide) ?_
        rw [(e22q)]
        exact ⟨congrArg (fun z => some (Value.int z)) (own_plain3 i0 i1 x7 hx7 x14 hx14 x23 hx23 x32 hx32 x41 hx41 x50 hx50 x59 hx59 v259 hv259 v271 hv271 v288 hv288 hc62 hc75 hc93), N22⟩
      · refine Go.of (fun t k => XS.icmpYes X5.here hx rfl (pc0 := 93) (pc' := 114) rfl (hb hby at_93) rfl (XT.ii_ne_t hc93) (by decide) (by decide) k) ?_
        show Go p e below Φ T5 (mkF m 114 #[.val (.int i0), .val (.long i1), .second, .val (.int x7), .val (.int x14), .val (.int x23), .val (.int x32), .val (.int x41), .val (.int x50), .val (.int x59), .unset, .unset, .unset] [])
        refine Go.of (fun t k => XS.iloadN X5.here hx rfl (hb hby at_114) rfl  k) ?_
        show Go p e below Φ T5 (mkF m 115 #[.val (.int i0), .val (.long i1), .second, .val (.int x7), .val (.int x14), .val (.int x23), .val (.int x32), .val (.int x41), .val (.int x50), .val (.int x59), .unset, .unset, .unset] [(.int x7)])
        refine Go.of (fun t k => XS.iconst X5.here hx rfl (hb hby at_115) k) ?_
        show Go p e below Φ T5 (mkF m 116 #[.val (.int i0), .val (.long i1), .second, .val (.int x7), .val (.int x14), .val (.int x23), .val (.int x32), .val (.int x41), .val (.int x50), .val (.int x59), .unset, .unset, .unset] [(.int (3 : Int32)), (.int x7)])
        by_cases hc116 : x7 = (3 : Int32)
        · refine Go.of (fun t k => XS.icmpNo X5.here hx rfl (hb hby at_116) rfl (XT.ii_ne_f hc116) k) ?_
          show Go p e below Φ T5 (mkF m 119 #[.val (.int i0), .val (.long i1), .second, .val (.int x7), .val (.int x14), .val (.int x23), .val (.int x32), .val (.int x41), .val (.int x50), .val (.int x59), .unset, .unset, .unset] [])
          rw [hc116]
          show Go p e below Φ T5 (mkF m 119 #[.val (.int i0), .val (.long i1), .second, .val (.int (3 : Int32)), .val (.int x14), .val (.int x23), .val (.int x32), .val (.int x41), .val (.int x50), .val (.int x59), .unset, .unset, .unset] [])
          refine Go.of (fun t k => XS.iconst X5.here hx rfl (hb hby at_119) k) ?_
          show Go p e below Φ T5 (mkF m 120 #[.val (.int i0), .val (.long i1), .second, .val (.int (3 : Int32)), .val (.int x14), .val (.int x23), .val (.int x32), .val (.int x41), .val (.int x50), .val (.int x59), .unset, .unset, .unset] [(.int (3 : Int32))])
          obtain ⟨T24, h24, k24, X24, e24, E24, A24, st24⟩ := newP X5 hx hZ (hw _ (List.mem_of_getElem? (i := 4) rfl)) (e5q) (g := (mkF m 120 #[.val (.int i0), .val (.long i1), .second, .val (.int (3 : Int32)), .val (.int x14), .val (.int x23), .val (.int x32), .val (.int x41), .val (.int x50), .val (.int x59), .unset, .unset, .unset] [(.int (3 : Int32))])) rfl (hb hby at_120) rfl (by decide) (cap := 3) (by decide) (by decide) (by decide) (by decide)
          obtain ⟨b24, g24⟩ : ∃ z, z = h0.size := ⟨_, rfl⟩
          rw [← g24] at A24 st24
          have g_b24 : n0 ≤ b24 := Nat.le_trans Z0 (Nat.le_of_eq g24.symm)
          have Z24 := Nat.le_trans Z0 E24.1
          have V_b24 : Arv Z h24 b24 k24 .byte (3 : Int32) [(.int (0 : Int32)), (.int (0 : Int32)), (.int (0 : Int32))] (.int (0 : Int32)) := (Arv.new A24 (by decide)).pad (pad_rep [] (.int (0 : Int32)) 3)
          refine Go.of st24 ?_
          show Go p e below Φ T24 (mkF m 122 #[.val (.int i0), .val (.long i1), .second, .val (.int (3 : Int32)), .val (.int x14), .val (.int x23), .val (.int x32), .val (.int x41), .val (.int x50), .val (.int x59), .unset, .unset, .unset] [(.ref b24)])
          refine Go.of (fun t k => XS.dup X24.here hx rfl (hb hby at_122) rfl rfl k) ?_
          show Go p e below Φ T24 (mkF m 123 #[.val (.int i0), .val (.long i1), .second, .val (.int (3 : Int32)), .val (.int x14), .val (.int x23), .val (.int x32), .val (.int x41), .val (.int x50), .val (.int x59), .unset, .unset, .unset] [(.ref b24), (.ref b24)])
          refine Go.of (fun t k => XS.iconst X24.here hx rfl (hb hby at_123) k) ?_
          show Go p e below Φ T24 (mkF m 124 #[.val (.int i0), .val (.long i1), .second, .val (.int (3 : Int32)), .val (.int x14), .val (.int x23), .val (.int x32), .val (.int x41), .val (.int x50), .val (.int x59), .unset, .unset, .unset] [(.int (0 : Int32)), (.ref b24), (.ref b24)])
          refine Go.of (fun t k => XS.iload X24.here hx rfl (hb hby at_124) rfl  k) ?_
          show Go p e below Φ T24 (mkF m 126 #[.val (.int i0), .val (.long i1), .second, .val (.int (3 : Int32)), .val (.int x14), .val (.int x23), .val (.int x32), .val (.int x41), .val (.int x50), .val (.int x59), .unset, .unset, .unset] [(.int x23), (.int (0 : Int32)), (.ref b24), (.ref b24)])
          obtain ⟨cl126, Ar126, q126, S126, N126, H126, G126⟩ := id V_b24
          have hin126 : ¬ ((0 : Int32) < 0 ∨ cl126.slots.size ≤ ((0 : Int32)).toNatClampNeg) := inb_of S126 ⟨by decide, by decide⟩
          obtain ⟨T25, h25, X25, e25, W25, st25⟩ := stB X24 hx hZ e24 Ar126 (j := (0 : Int32)) hin126 (g := (mkF m 126 #[.val (.int i0), .val (.long i1), .second, .val (.int (3 : Int32)), .val (.int x14), .val (.int x23), .val (.int x32), .val (.int x41), .val (.int x50), .val (.int x59), .unset, .unset, .unset] [(.int x23), (.int (0 : Int32)), (.ref b24), (.ref b24)])) rfl rfl (hb hby at_126)
          have V_b24 : Arv Z h25 b24 k24 .byte (3 : Int32) [(.int (nar .byte x23)), (.int (0 : Int32)), (.int (0 : Int32))] (.int (0 : Int32)) := Arv.set Ar126 q126 S126 N126 H126 G126 (fits_nar_byte _) W25 0 rfl (Nat.le_of_ble_eq_true rfl)
          have N25 := Fr.snoc X25 N5 g_b24
          have Z25 := Nat.le_trans Z24 (Keep.of_wr W25).1
          obtain ⟨lc25, X25, N25⟩ : ∃ lc, Stand p l e room_1 s m #[(.int i0), (.long i1)] below meth c T25 lc 1 3 ∧ Fr n0 lc := ⟨_, X25, N25⟩
          refine Go.of st25 ?_
          show Go p e below Φ T25 (mkF m 127 #[.val (.int i0), .val (.long i1), .second, .val (.int (3 : Int32)), .val (.int x14), .val (.int x23), .val (.int x32), .val (.int x41), .val (.int x50), .val (.int x59), .unset, .unset, .unset] [(.ref b24)])
          refine Go.of (fun t k => XS.dup X25.here hx rfl (hb hby at_127) rfl rfl k) ?_
          show Go p e below Φ T25 (mkF m 128 #[.val (.int i0), .val (.long i1), .second, .val (.int (3 : Int32)), .val (.int x14), .val (.int x23), .val (.int x32), .val (.int x41), .val (.int x50), .val (.int x59), .unset, .unset, .unset] [(.ref b24), (.ref b24)])
          refine Go.of (fun t k => XS.iconst X25.here hx rfl (hb hby at_128) k) ?_
          show Go p e below Φ T25 (mkF m 129 #[.val (.int i0), .val (.long i1), .second, .val (.int (3 : Int32)), .val (.int x14), .val (.int x23), .val (.int x32), .val (.int x41), .val (.int x50), .val (.int x59), .unset, .unset, .unset] [(.int (1 : Int32)), (.ref b24), (.ref b24)])
          refine Go.of (fun t k => XS.iload X25.here hx rfl (hb hby at_129) rfl  k) ?_
          show Go p e below Φ T25 (mkF m 131 #[.val (.int i0), .val (.long i1), .second, .val (.int (3 : Int32)), .val (.int x14), .val (.int x23), .val (.int x32), .val (.int x41), .val (.int x50), .val (.int x59), .unset, .unset, .unset] [(.int x32), (.int (1 : Int32)), (.ref b24), (.ref b24)])
          obtain ⟨cl131, Ar131, q131, S131, N131, H131, G131⟩ := id V_b24
          have hin131 : ¬ ((1 : Int32) < 0 ∨ cl131.slots.size ≤ ((1 : Int32)).toNatClampNeg) := inb_of S131 ⟨by decide, by decide⟩
          obtain ⟨T26, h26, X26, e26, W26, st26⟩ := stB X25 hx hZ e25 Ar131 (j := (1 : Int32)) hin131 (g := (mkF m 131 #[.val (.int i0), .val (.long i1), .second, .val (.int (3 : Int32)), .val (.int x14), .val (.int x23), .val (.int x32), .val (.int x41), .val (.int x50), .val (.int x59), .unset, .unset, .unset] [(.int x32), (.int (1 : Int32)), (.ref b24), (.ref b24)])) rfl rfl (hb hby at_131)
          have V_b24 : Arv Z h26 b24 k24 .byte (3 : Int32) [(.int (nar .byte x23)), (.int (nar .byte x32)), (.int (0 : Int32))] (.int (0 : Int32)) := Arv.set Ar131 q131 S131 N131 H131 G131 (fits_nar_byte _) W26 1 rfl (Nat.le_of_ble_eq_true rfl)
          have N26 := Fr.snoc X26 N25 g_b24
          have Z26 := Nat.le_trans Z25 (Keep.of_wr W26).1
          obtain ⟨lc26, X26, N26⟩ : ∃ lc, Stand p l e room_1 s m #[(.int i0), (.long i1)] below meth c T26 lc 1 3 ∧ Fr n0 lc := ⟨_, X26, N26⟩
          refine Go.of st26 ?_
          show Go p e below Φ T26 (mkF m 132 #[.val (.int i0), .val (.long i1), .second, .val (.int (3 : Int32)), .val (.int x14), .val (.int x23), .val (.int x32), .val (.int x41), .val (.int x50), .val (.int x59), .unset, .unset, .unset] [(.ref b24)])
          refine Go.of (fun t k => XS.dup X26.here hx rfl (hb hby at_132) rfl rfl k) ?_
          show Go p e below Φ T26 (mkF m 133 #[.val (.int i0), .val (.long i1), .second, .val (.int (3 : Int32)), .val (.int x14), .val (.int x23), .val (.int x32), .val (.int x41), .val (.int x50), .val (.int x59), .unset, .unset, .unset] [(.ref b24), (.ref b24)])
          refine Go.of (fun t k => XS.iconst X26.here hx rfl (hb hby at_133) k) ?_
          show Go p e below Φ T26 (mkF m 134 #[.val (.int i0), .val (.long i1), .second, .val (.int (3 : Int32)), .val (.int x14), .val (.int x23), .val (.int x32), .val (.int x41), .val (.int x50), .val (.int x59), .unset, .unset, .unset] [(.int (2 : Int32)), (.ref b24), (.ref b24)])
          refine Go.of (fun t k => XS.iload X26.here hx rfl (hb hby at_134) rfl  k) ?_
          show Go p e below Φ T26 (mkF m 136 #[.val (.int i0), .val (.long i1), .second, .val (.int (3 : Int32)), .val (.int x14), .val (.int x23), .val (.int x32), .val (.int x41), .val (.int x50), .val (.int x59), .unset, .unset, .unset] [(.int x41), (.int (2 : Int32)), (.ref b24), (.ref b24)])
          obtain ⟨cl136, Ar136, q136, S136, N136, H136, G136⟩ := id V_b24
          have hin136 : ¬ ((2 : Int32) < 0 ∨ cl136.slots.size ≤ ((2 : Int32)).toNatClampNeg) := inb_of S136 ⟨by decide, by decide⟩
          obtain ⟨T27, h27, X27, e27, W27, st27⟩ := stB X26 hx hZ e26 Ar136 (j := (2 : Int32)) hin136 (g := (mkF m 136 #[.val (.int i0), .val (.long i1), .second, .val (.int (3 : Int32)), .val (.int x14), .val (.int x23), .val (.int x32), .val (.int x41), .val (.int x50), .val (.int x59), .unset, .unset, .unset] [(.int x41), (.int (2 : Int32)), (.ref b24), (.ref b24)])) rfl rfl (hb hby at_136)
          have V_b24 : Arv Z h27 b24 k24 .byte (3 : Int32) [(.int (nar .byte x23)), (.int (nar .byte x32)), (.int (nar .byte x41))] (.int (0 : Int32)) := Arv.set Ar136 q136 S136 N136 H136 G136 (fits_nar_byte _) W27 2 rfl (Nat.le_of_ble_eq_true rfl)
          have N27 := Fr.snoc X27 N26 g_b24
          have Z27 := Nat.le_trans Z26 (Keep.of_wr W27).1
          obtain ⟨lc27, X27, N27⟩ : ∃ lc, Stand p l e room_1 s m #[(.int i0), (.long i1)] below meth c T27 lc 1 3 ∧ Fr n0 lc := ⟨_, X27, N27⟩
          refine Go.of st27 ?_
          show Go p e below Φ T27 (mkF m 137 #[.val (.int i0), .val (.long i1), .second, .val (.int (3 : Int32)), .val (.int x14), .val (.int x23), .val (.int x32), .val (.int x41), .val (.int x50), .val (.int x59), .unset, .unset, .unset] [(.ref b24)])
          refine Go.of (fun t k => XS.astore X27.here hx rfl (hb hby at_137) rfl rfl (l' := #[.val (.int i0), .val (.long i1), .second, .val (.int (3 : Int32)), .val (.int x14), .val (.int x23), .val (.int x32), .val (.int x41), .val (.int x50), .val (.int x59), .val (.ref b24), .unset, .unset]) rfl k) ?_
          show Go p e below Φ T27 (mkF m 139 #[.val (.int i0), .val (.long i1), .second, .val (.int (3 : Int32)), .val (.int x14), .val (.int x23), .val (.int x32), .val (.int x41), .val (.int x50), .val (.int x59), .val (.ref b24), .unset, .unset] [])
          refine Go.of (fun t k => XS.goto X27.here hx rfl (pc0 := 139) (pc' := 205) rfl (hb hby at_139) (by decide) (by decide) k) ?_
          show Go p e below Φ T27 (mkF m 205 #[.val (.int i0), .val (.long i1), .second, .val (.int (3 : Int32)), .val (.int x14), .val (.int x23), .val (.int x32), .val (.int x41), .val (.int x50), .val (.int x59), .val (.ref b24), .unset, .unset] [])
          refine Go.of (fun t k => XS.iloadN X27.here hx rfl (hb hby at_205) rfl  k) ?_
          show Go p e below Φ T27 (mkF m 206 #[.val (.int i0), .val (.long i1), .second, .val (.int (3 : Int32)), .val (.int x14), .val (.int x23), .val (.int x32), .val (.int x41), .val (.int x50), .val (.int x59), .val (.ref b24), .unset, .unset] [(.int (3 : Int32))])
          suffices j259_28 :  ∀ v259 : Int32, v259 = (if x23 = (0 : Int32) then (1 : Int32) else (if x32 = (0 : Int32) then (1 : Int32) else (if x41 = (0 : Int32) then (1 : Int32) else (0 : Int32)))) → Go p e below Φ T27 (mkF m 259 #[.val (.int i0), .val (.long i1), .second, .val (.int (3 : Int32)), .val (.int x14), .val (.int x23), .val (.int x32), .val (.int x41), .val (.int x50), .val (.int x59), .val (.ref b24), .unset, .unset] [(.int v259)]) by
            refine Go.of (fun t k => XS.ifNo X27.here hx rfl (hb hby at_206) rfl (XT.i0_le_f (by decide)) k) ?_
            show Go p e below Φ T27 (mkF m 209 #[.val (.int i0), .val (.long i1), .second, .val (.int (3 : Int32)), .val (.int x14), .val (.int x23), .val (.int x32), .val (.int x41), .val (.int x50), .val (.int x59), .val (.ref b24), .unset, .unset] [])
            refine Go.of (fun t k => XS.iload X27.here hx rfl (hb hby at_209) rfl  k) ?_
            show Go p e below Φ T27 (mkF m 211 #[.val (.int i0), .val (.long i1), .second, .val (.int (3 : Int32)), .val (.int x14), .val (.int x23), .val (.int x32), .val (.int x41), .val (.int x50), .val (.int x59), .val (.ref b24), .unset, .unset] [(.int x23)])
            by_cases hc211 : x23 = (0 : Int32)
            · refine Go.of (fun t k => XS.ifYes X27.here hx rfl (pc0 := 211) (pc' := 254) rfl (hb hby at_211) rfl (XT.i0_eq_t hc211) (by decide) (by decide) k) ?_
              show Go p e below Φ T27 (mkF m 254 #[.val (.int i0), .val (.long i1), .second, .val (.int (3 : Int32)), .val (.int x14), .val (.int x23), .val (.int x32), .val (.int x41), .val (.int x50), .val (.int x59), .val (.ref b24), .unset, .unset] [])
              refine Go.of (fun t k => XS.iconst X27.here hx rfl (hb hby at_254) k) ?_
              show Go p e below Φ T27 (mkF m 255 #[.val (.int i0), .val (.long i1), .second, .val (.int (3 : Int32)), .val (.int x14), .val (.int x23), .val (.int x32), .val (.int x41), .val (.int x50), .val (.int x59), .val (.ref b24), .unset, .unset] [(.int (1 : Int32))])
              refine Go.of (fun t k => XS.goto X27.here hx rfl (pc0 := 255) (pc' := 259) rfl (hb hby at_255) (by decide) (by decide) k) ?_
              show Go p e below Φ T27 (mkF m 259 #[.val (.int i0), .val (.long i1), .second, .val (.int (3 : Int32)), .val (.int x14), .val (.int x23), .val (.int x32), .val (.int x41), .val (.int x50), .val (.int x59), .val (.ref b24), .unset, .unset] [(.int (1 : Int32))])
              exact j259_28 _ (by rw [if_pos hc211])
            · refine Go.of (fun t k => XS.ifNo X27.here hx rfl (hb hby at_211) rfl (XT.i0_eq_f hc211) k) ?_
              show Go p e below Φ T27 (mkF m 214 #[.val (.int i0), .val (.long i1), .second, .val (.int (3 : Int32)), .val (.int x14), .val (.int x23), .val (.int x32), .val (.int x41), .val (.int x50), .val (.int x59), .val (.ref b24), .unset, .unset] [])
              refine Go.of (fun t k => XS.iloadN X27.here hx rfl (hb hby at_214) rfl  k) ?_
              show Go p e below Φ T27 (mkF m 215 #[.val (.int i0), .val (.long i1), .second, .val (.int (3 : Int32)), .val (.int x14), .val (.int x23), .val (.int x32), .val (.int x41), .val (.int x50), .val (.int x59), .val (.ref b24), .unset, .unset] [(.int (3 : Int32))])
              refine Go.of (fun t k => XS.iconst X27.here hx rfl (hb hby at_215) k) ?_
              show Go p e below Φ T27 (mkF m 216 #[.val (.int i0), .val (.long i1), .second, .val (.int (3 : Int32)), .val (.int x14), .val (.int x23), .val (.int x32), .val (.int x41), .val (.int x50), .val (.int x59), .val (.ref b24), .unset, .unset] [(.int (1 : Int32)), (.int (3 : Int32))])
              refine Go.of (fun t k => XS.icmpNo X27.here hx rfl (hb hby at_216) rfl (XT.ii_le_f (by decide)) k) ?_
              show Go p e below Φ T27 (mkF m 219 #[.val (.int i0), .val (.long i1), .second, .val (.int (3 : Int32)), .val (.int x14), .val (.int x23), .val (.int x32), .val (.int x41), .val (.int x50), .val (.int x59), .val (.ref b24), .unset, .unset] [])
              refine Go.of (fun t k => XS.iload X27.here hx rfl (hb hby at_219) rfl  k) ?_
              show Go p e below Φ T27 (mkF m 221 #[.val (.int i0), .val (.long i1), .second, .val (.int (3 : Int32)), .val (.int x14), .val (.int x23), .val (.int x32), .val (.int x41), .val (.int x50), .val (.int x59), .val (.ref b24), .unset, .unset] [(.int x32)])
              by_cases hc221 : x32 = (0 : Int32)
              · refine Go.of (fun t k => XS.ifYes X27.here hx rfl (pc0 := 221) (pc' := 254) rfl (hb hby at_221) rfl (XT.i0_eq_t hc221) (by decide) (by decide) k) ?_
                show Go p e below Φ T27 (mkF m 254 #[.val (.int i0), .val (.long i1), .second, .val (.int (3 : Int32)), .val (.int x14), .val (.int x23), .val (.int x32), .val (.int x41), .val (.int x50), .val (.int x59), .val (.ref b24), .unset, .unset] [])
                refine Go.of (fun t k => XS.iconst X27.here hx rfl (hb hby at_254) k) ?_
                show Go p e below Φ T27 (mkF m 255 #[.val (.int i0), .val (.long i1), .second, .val (.int (3 : Int32)), .val (.int x14), .val (.int x23), .val (.int x32), .val (.int x41), .val (.int x50), .val (.int x59), .val (.ref b24), .unset, .unset] [(.int (1 : Int32))])
                refine Go.of (fun t k => XS.goto X27.here hx rfl (pc0 := 255) (pc' := 259) rfl (hb hby at_255) (by decide) (by decide) k) ?_
                show Go p e below Φ T27 (mkF m 259 #[.val (.int i0), .val (.long i1), .second, .val (.int (3 : Int32)), .val (.int x14), .val (.int x23), .val (.int x32), .val (.int x41), .val (.int x50), .val (.int x59), .val (.ref b24), .unset, .unset] [(.int (1 : Int32))])
                exact j259_28 _ (by rw [if_neg hc211, if_pos hc221])
              · refine Go.of (fun t k => XS.ifNo X27.here hx rfl (hb hby at_221) rfl (XT.i0_eq_f hc221) k) ?_
                show Go p e below Φ T27 (mkF m 224 #[.val (.int i0), .val (.long i1), .second, .val (.int (3 : Int32)), .val (.int x14), .val (.int x23), .val (.int x32), .val (.int x41), .val (.int x50), .val (.int x59), .val (.ref b24), .unset, .unset] [])
                refine Go.of (fun t k => XS.iloadN X27.here hx rfl (hb hby at_224) rfl  k) ?_
                show Go p e below Φ T27 (mkF m 225 #[.val (.int i0), .val (.long i1), .second, .val (.int (3 : Int32)), .val (.int x14), .val (.int x23), .val (.int x32), .val (.int x41), .val (.int x50), .val (.int x59), .val (.ref b24), .unset, .unset] [(.int (3 : Int32))])
                refine Go.of (fun t k => XS.iconst X27.here hx rfl (hb hby at_225) k) ?_
                show Go p e below Φ T27 (mkF m 226 #[.val (.int i0), .val (.long i1), .second, .val (.int (3 : Int32)), .val (.int x14), .val (.int x23), .val (.int x32), .val (.int x41), .val (.int x50), .val (.int x59), .val (.ref b24), .unset, .unset] [(.int (2 : Int32)), (.int (3 : Int32))])
                refine Go.of (fun t k => XS.icmpNo X27.here hx rfl (hb hby at_226) rfl (XT.ii_le_f (by decide)) k) ?_
                show Go p e below Φ T27 (mkF m 229 #[.val (.int i0), .val (.long i1), .second, .val (.int (3 : Int32)), .val (.int x14), .val (.int x23), .val (.int x32), .val (.int x41), .val (.int x50), .val (.int x59), .val (.ref b24), .unset, .unset] [])
                refine Go.of (fun t k => XS.iload X27.here hx rfl (hb hby at_229) rfl  k) ?_
                show Go p e below Φ T27 (mkF m 231 #[.val (.int i0), .val (.long i1), .second, .val (.int (3 : Int32)), .val (.int x14), .val (.int x23), .val (.int x32), .val (.int x41), .val (.int x50), .val (.int x59), .val (.ref b24), .unset, .unset] [(.int x41)])
                by_cases hc231 : x41 = (0 : Int32)
                · refine Go.of (fun t k => XS.ifYes X27.here hx rfl (pc0 := 231) (pc' := 254) rfl (hb hby at_231) rfl (XT.i0_eq_t hc231) (by decide) (by decide) k) ?_
                  show Go p e below Φ T27 (mkF m 254 #[.val (.int i0), .val (.long i1), .second, .val (.int (3 : Int32)), .val (.int x14), .val (.int x23), .val (.int x32), .val (.int x41), .val (.int x50), .val (.int x59), .val (.ref b24), .unset, .unset] [])
                  refine Go.of (fun t k => XS.iconst X27.here hx rfl (hb hby at_254) k) ?_
                  show Go p e below Φ T27 (mkF m 255 #[.val (.int i0), .val (.long i1), .second, .val (.int (3 : Int32)), .val (.int x14), .val (.int x23), .val (.int x32), .val (.int x41), .val (.int x50), .val (.int x59), .val (.ref b24), .unset, .unset] [(.int (1 : Int32))])
                  refine Go.of (fun t k => XS.goto X27.here hx rfl (pc0 := 255) (pc' := 259) rfl (hb hby at_255) (by decide) (by decide) k) ?_
                  show Go p e below Φ T27 (mkF m 259 #[.val (.int i0), .val (.long i1), .second, .val (.int (3 : Int32)), .val (.int x14), .val (.int x23), .val (.int x32), .val (.int x41), .val (.int x50), .val (.int x59), .val (.ref b24), .unset, .unset] [(.int (1 : Int32))])
                  exact j259_28 _ (by rw [if_neg hc211, if_neg hc221, if_pos hc231])
                · refine Go.of (fun t k => XS.ifNo X27.here hx rfl (hb hby at_231) rfl (XT.i0_eq_f hc231) k) ?_
                  show Go p e below Φ T27 (mkF m 234 #[.val (.int i0), .val (.long i1), .second, .val (.int (3 : Int32)), .val (.int x14), .val (.int x23), .val (.int x32), .val (.int x41), .val (.int x50), .val (.int x59), .val (.ref b24), .unset, .unset] [])
                  refine Go.of (fun t k => XS.iloadN X27.here hx rfl (hb hby at_234) rfl  k) ?_
                  show Go p e below Φ T27 (mkF m 235 #[.val (.int i0), .val (.long i1), .second, .val (.int (3 : Int32)), .val (.int x14), .val (.int x23), .val (.int x32), .val (.int x41), .val (.int x50), .val (.int x59), .val (.ref b24), .unset, .unset] [(.int (3 : Int32))])
                  refine Go.of (fun t k => XS.iconst X27.here hx rfl (hb hby at_235) k) ?_
                  show Go p e below Φ T27 (mkF m 236 #[.val (.int i0), .val (.long i1), .second, .val (.int (3 : Int32)), .val (.int x14), .val (.int x23), .val (.int x32), .val (.int x41), .val (.int x50), .val (.int x59), .val (.ref b24), .unset, .unset] [(.int (3 : Int32)), (.int (3 : Int32))])
                  refine Go.of (fun t k => XS.icmpYes X27.here hx rfl (pc0 := 236) (pc' := 244) rfl (hb hby at_236) rfl (XT.ii_le_t (by decide)) (by decide) (by decide) k) ?_
                  show Go p e below Φ T27 (mkF m 244 #[.val (.int i0), .val (.long i1), .second, .val (.int (3 : Int32)), .val (.int x14), .val (.int x23), .val (.int x32), .val (.int x41), .val (.int x50), .val (.int x59), .val (.ref b24), .unset, .unset] [])
                  refine Go.of (fun t k => XS.iloadN X27.here hx rfl (hb hby at_244) rfl  k) ?_
                  show Go p e below Φ T27 (mkF m 245 #[.val (.int i0), .val (.long i1), .second, .val (.int (3 : Int32)), .val (.int x14), .val (.int x23), .val (.int x32), .val (.int x41), .val (.int x50), .val (.int x59), .val (.ref b24), .unset, .unset] [(.int (3 : Int32))])
                  refine Go.of (fun t k => XS.iconst X27.here hx rfl (hb hby at_245) k) ?_
                  show Go p e below Φ T27 (mkF m 246 #[.val (.int i0), .val (.long i1), .second, .val (.int (3 : Int32)), .val (.int x14), .val (.int x23), .val (.int x32), .val (.int x41), .val (.int x50), .val (.int x59), .val (.ref b24), .unset, .unset] [(.int (4 : Int32)), (.int (3 : Int32))])
                  refine Go.of (fun t k => XS.icmpYes X27.here hx rfl (pc0 := 246) (pc' := 258) rfl (hb hby at_246) rfl (XT.ii_le_t (by decide)) (by decide) (by decide) k) ?_
                  show Go p e below Φ T27 (mkF m 258 #[.val (.int i0), .val (.long i1), .second, .val (.int (3 : Int32)), .val (.int x14), .val (.int x23), .val (.int x32), .val (.int x41), .val (.int x50), .val (.int x59), .val (.ref b24), .unset, .unset] [])
                  refine Go.of (fun t k => XS.iconst X27.here hx rfl (hb hby at_258) k) ?_
                  show Go p e below Φ T27 (mkF m 259 #[.val (.int i0), .val (.long i1), .second, .val (.int (3 : Int32)), .val (.int x14), .val (.int x23), .val (.int x32), .val (.int x41), .val (.int x50), .val (.int x59), .val (.ref b24), .unset, .unset] [(.int (0 : Int32))])
                  exact j259_28 _ (by rw [if_neg hc211, if_neg hc221, if_neg hc231])
          intro v259 hv259
          show Go p e below Φ T27 (mkF m 259 #[.val (.int i0), .val (.long i1), .second, .val (.int (3 : Int32)), .val (.int x14), .val (.int x23), .val (.int x32), .val (.int x41), .val (.int x50), .val (.int x59), .val (.ref b24), .unset, .unset] [(.int v259)])
          refine Go.of (fun t k => XS.istore X27.here hx rfl (hb hby at_259) rfl (l' := #[.val (.int i0), .val (.long i1), .second, .val (.int (3 : Int32)), .val (.int x14), .val (.int x23), .val (.int x32), .val (.int x41), .val (.int x50), .val (.int x59), .val (.ref b24), .val (.int v259), .unset]) rfl k) ?_
          show Go p e below Φ T27 (mkF m 261 #[.val (.int i0), .val (.long i1), .second, .val (.int (3 : Int32)), .val (.int x14), .val (.int x23), .val (.int x32), .val (.int x41), .val (.int x50), .val (.int x59), .val (.ref b24), .val (.int v259), .unset] [])
          refine Go.of (fun t k => XS.iload X27.here hx rfl (hb hby at_261) rfl  k) ?_
          show Go p e below Φ T27 (mkF m 263 #[.val (.int i0), .val (.long i1), .second, .val (.int (3 : Int32)), .val (.int x14), .val (.int x23), .val (.int x32), .val (.int x41), .val (.int x50), .val (.int x59), .val (.ref b24), .val (.int v259), .unset] [(.int v259)])
          suffices j271_29 :  ∀ v271 : Int32, v271 = (if v259 = (0 : Int32) then (1 : Int32) else (0 : Int32)) → Go p e below Φ T27 (mkF m 271 #[.val (.int i0), .val (.long i1), .second, .val (.int (3 : Int32)), .val (.int x14), .val (.int x23), .val (.int x32), .val (.int x41), .val (.int x50), .val (.int x59), .val (.ref b24), .val (.int v259), .unset] [(.int v271)]) by
            by_cases hc263 : v259 = (0 : Int32)
            · refine Go.of (fun t k => XS.ifNo X27.here hx rfl (hb hby at_263) rfl (XT.i0_ne_f hc263) k) ?_
              show Go p e below Φ T27 (mkF m 266 #[.val (.int i0), .val (.long i1), .second, .val (.int (3 : Int32)), .val (.int x14), .val (.int x23), .val (.int x32), .val (.int x41), .val (.int x50), .val (.int x59), .val (.ref b24), .val (.int v259), .unset] [])
              refine Go.of (fun t k => XS.iconst X27.here hx rfl (hb hby at_266) k) ?_
              show Go p e below Φ T27 (mkF m 267 #[.val (.int i0), .val (.long i1), .second, .val (.int (3 : Int32)), .val (.int x14), .val (.int x23), .val (.int x32), .val (.int x41), .val (.int x50), .val (.int x59), .val (.ref b24), .val (.int v259), .unset] [(.int (1 : Int32))])
              refine Go.of (fun t k => XS.goto X27.here hx rfl (pc0 := 267) (pc' := 271) rfl (hb hby at_267) (by decide) (by decide) k) ?_
              show Go p e below Φ T27 (mkF m 271 #[.val (.int i0), .val (.long i1), .second, .val (.int (3 : Int32)), .val (.int x14), .val (.int x23), .val (.int x32), .val (.int x41), .val (.int x50), .val (.int x59), .val (.ref b24), .val (.int v259), .unset] [(.int (1 : Int32))])
              exact j271_29 _ (by rw [if_pos hc263])
            · refine Go.of (fun t k => XS.ifYes X27.here hx rfl (pc0 := 263) (pc' := 270) rfl (hb hby at_263) rfl (XT.i0_ne_t hc263) (by decide) (by decide) k) ?_
              show Go p e below Φ T27 (mkF m 270 #[.val (.int i0), .val (.long i1), .second, .val (.int (3 : Int32)), .val (.int x14), .val (.int x23), .val (.int x32), .val (.int x41), .val (.int x50), .val (.int x59), .val (.ref b24), .val (.int v259), .unset] [])
              refine Go.of (fun t k => XS.iconst X27.here hx rfl (hb hby at_270) k) ?_
              show Go p e below Φ T27 (mkF m 271 #[.val (.int i0), .val (.long i1), .second, .val (.int (3 : Int32)), .val (.int x14), .val (.int x23), .val (.int x32), .val (.int x41), .val (.int x50), .val (.int x59), .val (.ref b24), .val (.int v259), .unset] [(.int (0 : Int32))])
              exact j271_29 _ (by rw [if_neg hc263])
          intro v271 hv271
          show Go p e below Φ T27 (mkF m 271 #[.val (.int i0), .val (.long i1), .second, .val (.int (3 : Int32)), .val (.int x14), .val (.int x23), .val (.int x32), .val (.int x41), .val (.int x50), .val (.int x59), .val (.ref b24), .val (.int v259), .unset] [(.int v271)])
          refine Go.of (fun t k => XS.istore X27.here hx rfl (hb hby at_271) rfl (l' := #[.val (.int i0), .val (.long i1), .second, .val (.int (3 : Int32)), .val (.int x14), .val (.int x23), .val (.int x32), .val (.int x41), .val (.int x50), .val (.int x59), .val (.ref b24), .val (.int v259), .val (.int v271)]) rfl k) ?_
          show Go p e below Φ T27 (mkF m 273 #[.val (.int i0), .val (.long i1), .second, .val (.int (3 : Int32)), .val (.int x14), .val (.int x23), .val (.int x32), .val (.int x41), .val (.int x50), .val (.int x59), .val (.ref b24), .val (.int v259), .val (.int v271)] [])
          refine Go.of (fun t k => XS.aload X27.here hx rfl (hb hby at_273) rfl rfl  k) ?_
          show Go p e below Φ T27 (mkF m 275 #[.val (.int i0), .val (.long i1), .second, .val (.int (3 : Int32)), .val (.int x14), .val (.int x23), .val (.int x32), .val (.int x41), .val (.int x50), .val (.int x59), .val (.ref b24), .val (.int v259), .val (.int v271)] [(.ref b24)])
          obtain ⟨_, _, ⟨T30, L30, k30, n30⟩, -, X30, ⟨Lc30, hQ30, l30, y30, z30⟩, st30⟩ := Jvm.LawKit.callS X27 hx (y := (⟨"com/example/dozynki/dozynki/StoreLayout", "definesSet", "([B)Z"⟩ : MethodName)) hown (mvT hZ (hw _ (List.mem_of_getElem? (i := 5) rfl))) (mvT hZ (hw _ (List.mem_of_getElem? (i := 6) rfl))) (mvT hZ (hw _ (List.mem_of_getElem? (i := 7) rfl))) (mvT hZ (hw _ (List.mem_of_getElem? (i := 8) rfl))) (by decide) (backOf (W := 0) (rm2 l Z a0 hw [] b24 k24 (3 : Int32) [(nar .byte x23), (nar .byte x32), (nar .byte x41)] h27 n0 Z27 V_b24 rfl (Nat.le_of_ble_eq_true rfl)) hZ (hw _ (List.mem_of_getElem? (i := 8) rfl)) (hw _ (List.mem_of_getElem? (i := 7) rfl)) (by decide) (by decide)) (g := (mkF m 275 #[.val (.int i0), .val (.long i1), .second, .val (.int (3 : Int32)), .val (.int x14), .val (.int x23), .val (.int x32), .val (.int x41), .val (.int x50), .val (.int x59), .val (.ref b24), .val (.int v259), .val (.int v271)] [(.ref b24)])) rfl (by rw [hml]; rfl) (argsL := [(.ref b24)]) (rest := []) (lenOf own_pd2 rfl) rfl (by show 2 * 0 + _ ≤ _; exact Nat.le_of_eq rfl) (hb hby at_275) (fun _ _ => ⟨rfl, e27, (by decide : 1 + 0 ≤ _), (by decide : 3 + 0 ≤ _)⟩)
          dsimp only [Pt.U, Pt.locs, Pt.cells, Pt.slots] at X30 l30 y30 z30 st30 hQ30
          subst l30 y30 z30
          obtain ⟨rfl, N30q, e30q⟩ := hQ30
          have N30 := Fr.app N27 N30q
          obtain ⟨lc30, X30, N30⟩ : ∃ lc, Stand p l e room_1 s m #[(.int i0), (.long i1)] below meth c T30 lc 1 3 ∧ Fr n0 lc := ⟨_, X30, N30⟩
          refine Go.of st30 ?_
          show Go p e below Φ T30 (mkF m 278 #[.val (.int i0), .val (.long i1), .second, .val (.int (3 : Int32)), .val (.int x14), .val (.int x23), .val (.int x32), .val (.int x41), .val (.int x50), .val (.int x59), .val (.ref b24), .val (.int v259), .val (.int v271)] [(.int (own_defs (3 : Int32) [(nar .byte x23), (nar .byte x32), (nar .byte x41)]))])
          refine Go.of (fun t k => XS.iload X30.here hx rfl (hb hby at_278) rfl  k) ?_
          show Go p e below Φ T30 (mkF m 280 #[.val (.int i0), .val (.long i1), .second, .val (.int (3 : Int32)), .val (.int x14), .val (.int x23), .val (.int x32), .val (.int x41), .val (.int x50), .val (.int x59), .val (.ref b24), .val (.int v259), .val (.int v271)] [(.int v271), (.int (own_defs (3 : Int32) [(nar .byte x23), (nar .byte x32), (nar .byte x41)]))])
          suffices j288_31 :  ∀ v288 : Int32, v288 = (if (own_defs (3 : Int32) [(nar .byte x23), (nar .byte x32), (nar .byte x41)]) = v271 then (1 : Int32) else (0 : Int32)) → Go p e below Φ T30 (mkF m 288 #[.val (.int i0), .val (.long i1), .second, .val (.int (3 : Int32)), .val (.int x14), .val (.int x23), .val (.int x32), .val (.int x41), .val (.int x50), .val (.int x59), .val (.ref b24), .val (.int v259), .val (.int v271)] [(.int v288)]) by
            by_cases hc280 : (own_defs (3 : Int32) [(nar .byte x23), (nar .byte x32), (nar .byte x41)]) = v271
            · refine Go.of (fun t k => XS.icmpNo X30.here hx rfl (hb hby at_280) rfl (XT.ii_ne_f hc280) k) ?_
              show Go p e below Φ T30 (mkF m 283 #[.val (.int i0), .val (.long i1), .second, .val (.int (3 : Int32)), .val (.int x14), .val (.int x23), .val (.int x32), .val (.int x41), .val (.int x50), .val (.int x59), .val (.ref b24), .val (.int v259), .val (.int v271)] [])
              refine Go.of (fun t k => XS.iconst X30.here hx rfl (hb hby at_283) k) ?_
              show Go p e below Φ T30 (mkF m 284 #[.val (.int i0), .val (.long i1), .second, .val (.int (3 : Int32)), .val (.int x14), .val (.int x23), .val (.int x32), .val (.int x41), .val (.int x50), .val (.int x59), .val (.ref b24), .val (.int v259), .val (.int v271)] [(.int (1 : Int32))])
              refine Go.of (fun t k => XS.goto X30.here hx rfl (pc0 := 284) (pc' := 288) rfl (hb hby at_284) (by decide) (by decide) k) ?_
              show Go p e below Φ T30 (mkF m 288 #[.val (.int i0), .val (.long i1), .second, .val (.int (3 : Int32)), .val (.int x14), .val (.int x23), .val (.int x32), .val (.int x41), .val (.int x50), .val (.int x59), .val (.ref b24), .val (.int v259), .val (.int v271)] [(.int (1 : Int32))])
              exact j288_31 _ (by rw [if_pos hc280])
            · refine Go.of (fun t k => XS.icmpYes X30.here hx rfl (pc0 := 280) (pc' := 287) rfl (hb hby at_280) rfl (XT.ii_ne_t hc280) (by decide) (by decide) k) ?_
              show Go p e below Φ T30 (mkF m 287 #[.val (.int i0), .val (.long i1), .second, .val (.int (3 : Int32)), .val (.int x14), .val (.int x23), .val (.int x32), .val (.int x41), .val (.int x50), .val (.int x59), .val (.ref b24), .val (.int v259), .val (.int v271)] [])
              refine Go.of (fun t k => XS.iconst X30.here hx rfl (hb hby at_287) k) ?_
              show Go p e below Φ T30 (mkF m 288 #[.val (.int i0), .val (.long i1), .second, .val (.int (3 : Int32)), .val (.int x14), .val (.int x23), .val (.int x32), .val (.int x41), .val (.int x50), .val (.int x59), .val (.ref b24), .val (.int v259), .val (.int v271)] [(.int (0 : Int32))])
              exact j288_31 _ (by rw [if_neg hc280])
          intro v288 hv288
          show Go p e below Φ T30 (mkF m 288 #[.val (.int i0), .val (.long i1), .second, .val (.int (3 : Int32)), .val (.int x14), .val (.int x23), .val (.int x32), .val (.int x41), .val (.int x50), .val (.int x59), .val (.ref b24), .val (.int v259), .val (.int v271)] [(.int v288)])
          rw [hΦ]
          refine Go.ret X30 hx Bd.notSynchronized Bd.returns (own_one (own_plain4 i0 i1 x7 hx7 x14 hx14 x23 hx23 x32 hx32 x41 hx41 x50 hx50 x59 hx59 v259 hv259 v271 hv271 v288 hv288 hc62 hc75 hc93 hc116)) (Or.inl ⟨rfl, Or.inr (Or.inl rfl), _, rfl⟩) (hb hby at_288) (by decide) (by decide) ?_
          rw [(e30q)]
          exact ⟨congrArg (fun z => some (Value.int z)) (own_plain4 i0 i1 x7 hx7 x14 hx14 x23 hx23 x32 hx32 x41 hx41 x50 hx50 x59 hx59 v259 hv259 v271 hv271 v288 hv288 hc62 hc75 hc93 hc116), N30⟩
        · refine Go.of (fun t k => XS.icmpYes X5.here hx rfl (pc0 := 116) (pc' := 142) rfl (hb hby at_116) rfl (XT.ii_ne_t hc116) (by decide) (by decide) k) ?_
          show Go p e below Φ T5 (mkF m 142 #[.val (.int i0), .val (.long i1), .second, .val (.int x7), .val (.int x14), .val (.int x23), .val (.int x32), .val (.int x41), .val (.int x50), .val (.int x59), .unset, .unset, .unset] [])
          refine Go.of (fun t k => XS.iloadN X5.here hx rfl (hb hby at_142) rfl  k) ?_
          show Go p e below Φ T5 (mkF m 143 #[.val (.int i0), .val (.long i1), .second, .val (.int x7), .val (.int x14), .val (.int x23), .val (.int x32), .val (.int x41), .val (.int x50), .val (.int x59), .unset, .unset, .unset] [(.int x7)])
          refine Go.of (fun t k => XS.iconst X5.here hx rfl (hb hby at_143) k) ?_
          show Go p e below Φ T5 (mkF m 144 #[.val (.int i0), .val (.long i1), .second, .val (.int x7), .val (.int x14), .val (.int x23), .val (.int x32), .val (.int x41), .val (.int x50), .val (.int x59), .unset, .unset, .unset] [(.int (4 : Int32)), (.int x7)])
          by_cases hc144 : x7 = (4 : Int32)
          · refine Go.of (fun t k => XS.icmpNo X5.here hx rfl (hb hby at_144) rfl (XT.ii_ne_f hc144) k) ?_
            show Go p e below Φ T5 (mkF m 147 #[.val (.int i0), .val (.long i1), .second, .val (.int x7), .val (.int x14), .val (.int x23), .val (.int x32), .val (.int x41), .val (.int x50), .val (.int x59), .unset, .unset, .unset] [])
            rw [hc144]
            show Go p e below Φ T5 (mkF m 147 #[.val (.int i0), .val (.long i1), .second, .val (.int (4 : Int32)), .val (.int x14), .val (.int x23), .val (.int x32), .val (.int x41), .val (.int x50), .val (.int x59), .unset, .unset, .unset] [])
            refine Go.of (fun t k => XS.iconst X5.here hx rfl (hb hby at_147) k) ?_
            show Go p e below Φ T5 (mkF m 148 #[.val (.int i0), .val (.long i1), .second, .val (.int (4 : Int32)), .val (.int x14), .val (.int x23), .val (.int x32), .val (.int x41), .val (.int x50), .val (.int x59), .unset, .unset, .unset] [(.int (4 : Int32))])
            obtain ⟨T32, h32, k32, X32, e32, E32, A32, st32⟩ := newP X5 hx hZ (hw _ (List.mem_of_getElem? (i := 4) rfl)) (e5q) (g := (mkF m 148 #[.val (.int i0), .val (.long i1), .second, .val (.int (4 : Int32)), .val (.int x14), .val (.int x23), .val (.int x32), .val (.int x41), .val (.int x50), .val (.int x59), .unset, .unset, .unset] [(.int (4 : Int32))])) rfl (hb hby at_148) rfl (by decide) (cap := 4) (by decide) (by decide) (by decide) (by decide)
            obtain ⟨b32, g32⟩ : ∃ z, z = h0.size := ⟨_, rfl⟩
            rw [← g32] at A32 st32
            have g_b32 : n0 ≤ b32 := Nat.le_trans Z0 (Nat.le_of_eq g32.symm)
            have Z32 := Nat.le_trans Z0 E32.1
            have V_b32 : Arv Z h32 b32 k32 .byte (4 : Int32) [(.int (0 : Int32)), (.int (0 : Int32)), (.int (0 : Int32)), (.int (0 : Int32))] (.int (0 : Int32)) := (Arv.new A32 (by decide)).pad (pad_rep [] (.int (0 : Int32)) 4)
            refine Go.of st32 ?_
            show Go p e below Φ T32 (mkF m 150 #[.val (.int i0), .val (.long i1), .second, .val (.int (4 : Int32)), .val (.int x14), .val (.int x23), .val (.int x32), .val (.int x41), .val (.int x50), .val (.int x59), .unset, .unset, .unset] [(.ref b32)])
            refine Go.of (fun t k => XS.dup X32.here hx rfl (hb hby at_150) rfl rfl k) ?_
            show Go p e below Φ T32 (mkF m 151 #[.val (.int i0), .val (.long i1), .second, .val (.int (4 : Int32)), .val (.int x14), .val (.int x23), .val (.int x32), .val (.int x41), .val (.int x50), .val (.int x59), .unset, .unset, .unset] [(.ref b32), (.ref b32)])
            refine Go.of (fun t k => XS.iconst X32.here hx rfl (hb hby at_151) k) ?_
            show Go p e below Φ T32 (mkF m 152 #[.val (.int i0), .val (.long i1), .second, .val (.int (4 : Int32)), .val (.int x14), .val (.int x23), .val (.int x32), .val (.int x41), .val (.int x50), .val (.int x59), .unset, .unset, .unset] [(.int (0 : Int32)), (.ref b32), (.ref b32)])
            refine Go.of (fun t k => XS.iload X32.here hx rfl (hb hby at_152) rfl  k) ?_
            show Go p e below Φ T32 (mkF m 154 #[.val (.int i0), .val (.long i1), .second, .val (.int (4 : Int32)), .val (.int x14), .val (.int x23), .val (.int x32), .val (.int x41), .val (.int x50), .val (.int x59), .unset, .unset, .unset] [(.int x23), (.int (0 : Int32)), (.ref b32), (.ref b32)])
            obtain ⟨cl154, Ar154, q154, S154, N154, H154, G154⟩ := id V_b32
            have hin154 : ¬ ((0 : Int32) < 0 ∨ cl154.slots.size ≤ ((0 : Int32)).toNatClampNeg) := inb_of S154 ⟨by decide, by decide⟩
            obtain ⟨T33, h33, X33, e33, W33, st33⟩ := stB X32 hx hZ e32 Ar154 (j := (0 : Int32)) hin154 (g := (mkF m 154 #[.val (.int i0), .val (.long i1), .second, .val (.int (4 : Int32)), .val (.int x14), .val (.int x23), .val (.int x32), .val (.int x41), .val (.int x50), .val (.int x59), .unset, .unset, .unset] [(.int x23), (.int (0 : Int32)), (.ref b32), (.ref b32)])) rfl rfl (hb hby at_154)
            have V_b32 : Arv Z h33 b32 k32 .byte (4 : Int32) [(.int (nar .byte x23)), (.int (0 : Int32)), (.int (0 : Int32)), (.int (0 : Int32))] (.int (0 : Int32)) := Arv.set Ar154 q154 S154 N154 H154 G154 (fits_nar_byte _) W33 0 rfl (Nat.le_of_ble_eq_true rfl)
            have N33 := Fr.snoc X33 N5 g_b32
            have Z33 := Nat.le_trans Z32 (Keep.of_wr W33).1
            obtain ⟨lc33, X33, N33⟩ : ∃ lc, Stand p l e room_1 s m #[(.int i0), (.long i1)] below meth c T33 lc 1 4 ∧ Fr n0 lc := ⟨_, X33, N33⟩
            refine Go.of st33 ?_
            show Go p e below Φ T33 (mkF m 155 #[.val (.int i0), .val (.long i1), .second, .val (.int (4 : Int32)), .val (.int x14), .val (.int x23), .val (.int x32), .val (.int x41), .val (.int x50), .val (.int x59), .unset, .unset, .unset] [(.ref b32)])
            refine Go.of (fun t k => XS.dup X33.here hx rfl (hb hby at_155) rfl rfl k) ?_
            show Go p e below Φ T33 (mkF m 156 #[.val (.int i0), .val (.long i1), .second, .val (.int (4 : Int32)), .val (.int x14), .val (.int x23), .val (.int x32), .val (.int x41), .val (.int x50), .val (.int x59), .unset, .unset, .unset] [(.ref b32), (.ref b32)])
            refine Go.of (fun t k => XS.iconst X33.here hx rfl (hb hby at_156) k) ?_
            show Go p e below Φ T33 (mkF m 157 #[.val (.int i0), .val (.long i1), .second, .val (.int (4 : Int32)), .val (.int x14), .val (.int x23), .val (.int x32), .val (.int x41), .val (.int x50), .val (.int x59), .unset, .unset, .unset] [(.int (1 : Int32)), (.ref b32), (.ref b32)])
            refine Go.of (fun t k => XS.iload X33.here hx rfl (hb hby at_157) rfl  k) ?_
            show Go p e below Φ T33 (mkF m 159 #[.val (.int i0), .val (.long i1), .second, .val (.int (4 : Int32)), .val (.int x14), .val (.int x23), .val (.int x32), .val (.int x41), .val (.int x50), .val (.int x59), .unset, .unset, .unset] [(.int x32), (.int (1 : Int32)), (.ref b32), (.ref b32)])
            obtain ⟨cl159, Ar159, q159, S159, N159, H159, G159⟩ := id V_b32
            have hin159 : ¬ ((1 : Int32) < 0 ∨ cl159.slots.size ≤ ((1 : Int32)).toNatClampNeg) := inb_of S159 ⟨by decide, by decide⟩
            obtain ⟨T34, h34, X34, e34, W34, st34⟩ := stB X33 hx hZ e33 Ar159 (j := (1 : Int32)) hin159 (g := (mkF m 159 #[.val (.int i0), .val (.long i1), .second, .val (.int (4 : Int32)), .val (.int x14), .val (.int x23), .val (.int x32), .val (.int x41), .val (.int x50), .val (.int x59), .unset, .unset, .unset] [(.int x32), (.int (1 : Int32)), (.ref b32), (.ref b32)])) rfl rfl (hb hby at_159)
            have V_b32 : Arv Z h34 b32 k32 .byte (4 : Int32) [(.int (nar .byte x23)), (.int (nar .byte x32)), (.int (0 : Int32)), (.int (0 : Int32))] (.int (0 : Int32)) := Arv.set Ar159 q159 S159 N159 H159 G159 (fits_nar_byte _) W34 1 rfl (Nat.le_of_ble_eq_true rfl)
            have N34 := Fr.snoc X34 N33 g_b32
            have Z34 := Nat.le_trans Z33 (Keep.of_wr W34).1
            obtain ⟨lc34, X34, N34⟩ : ∃ lc, Stand p l e room_1 s m #[(.int i0), (.long i1)] below meth c T34 lc 1 4 ∧ Fr n0 lc := ⟨_, X34, N34⟩
            refine Go.of st34 ?_
            show Go p e below Φ T34 (mkF m 160 #[.val (.int i0), .val (.long i1), .second, .val (.int (4 : Int32)), .val (.int x14), .val (.int x23), .val (.int x32), .val (.int x41), .val (.int x50), .val (.int x59), .unset, .unset, .unset] [(.ref b32)])
            refine Go.of (fun t k => XS.dup X34.here hx rfl (hb hby at_160) rfl rfl k) ?_
            show Go p e below Φ T34 (mkF m 161 #[.val (.int i0), .val (.long i1), .second, .val (.int (4 : Int32)), .val (.int x14), .val (.int x23), .val (.int x32), .val (.int x41), .val (.int x50), .val (.int x59), .unset, .unset, .unset] [(.ref b32), (.ref b32)])
            refine Go.of (fun t k => XS.iconst X34.here hx rfl (hb hby at_161) k) ?_
            show Go p e below Φ T34 (mkF m 162 #[.val (.int i0), .val (.long i1), .second, .val (.int (4 : Int32)), .val (.int x14), .val (.int x23), .val (.int x32), .val (.int x41), .val (.int x50), .val (.int x59), .unset, .unset, .unset] [(.int (2 : Int32)), (.ref b32), (.ref b32)])
            refine Go.of (fun t k => XS.iload X34.here hx rfl (hb hby at_162) rfl  k) ?_
            show Go p e below Φ T34 (mkF m 164 #[.val (.int i0), .val (.long i1), .second, .val (.int (4 : Int32)), .val (.int x14), .val (.int x23), .val (.int x32), .val (.int x41), .val (.int x50), .val (.int x59), .unset, .unset, .unset] [(.int x41), (.int (2 : Int32)), (.ref b32), (.ref b32)])
            obtain ⟨cl164, Ar164, q164, S164, N164, H164, G164⟩ := id V_b32
            have hin164 : ¬ ((2 : Int32) < 0 ∨ cl164.slots.size ≤ ((2 : Int32)).toNatClampNeg) := inb_of S164 ⟨by decide, by decide⟩
            obtain ⟨T35, h35, X35, e35, W35, st35⟩ := stB X34 hx hZ e34 Ar164 (j := (2 : Int32)) hin164 (g := (mkF m 164 #[.val (.int i0), .val (.long i1), .second, .val (.int (4 : Int32)), .val (.int x14), .val (.int x23), .val (.int x32), .val (.int x41), .val (.int x50), .val (.int x59), .unset, .unset, .unset] [(.int x41), (.int (2 : Int32)), (.ref b32), (.ref b32)])) rfl rfl (hb hby at_164)
            have V_b32 : Arv Z h35 b32 k32 .byte (4 : Int32) [(.int (nar .byte x23)), (.int (nar .byte x32)), (.int (nar .byte x41)), (.int (0 : Int32))] (.int (0 : Int32)) := Arv.set Ar164 q164 S164 N164 H164 G164 (fits_nar_byte _) W35 2 rfl (Nat.le_of_ble_eq_true rfl)
            have N35 := Fr.snoc X35 N34 g_b32
            have Z35 := Nat.le_trans Z34 (Keep.of_wr W35).1
            obtain ⟨lc35, X35, N35⟩ : ∃ lc, Stand p l e room_1 s m #[(.int i0), (.long i1)] below meth c T35 lc 1 4 ∧ Fr n0 lc := ⟨_, X35, N35⟩
            refine Go.of st35 ?_
            show Go p e below Φ T35 (mkF m 165 #[.val (.int i0), .val (.long i1), .second, .val (.int (4 : Int32)), .val (.int x14), .val (.int x23), .val (.int x32), .val (.int x41), .val (.int x50), .val (.int x59), .unset, .unset, .unset] [(.ref b32)])
            refine Go.of (fun t k => XS.dup X35.here hx rfl (hb hby at_165) rfl rfl k) ?_
            show Go p e below Φ T35 (mkF m 166 #[.val (.int i0), .val (.long i1), .second, .val (.int (4 : Int32)), .val (.int x14), .val (.int x23), .val (.int x32), .val (.int x41), .val (.int x50), .val (.int x59), .unset, .unset, .unset] [(.ref b32), (.ref b32)])
            refine Go.of (fun t k => XS.iconst X35.here hx rfl (hb hby at_166) k) ?_
            show Go p e below Φ T35 (mkF m 167 #[.val (.int i0), .val (.long i1), .second, .val (.int (4 : Int32)), .val (.int x14), .val (.int x23), .val (.int x32), .val (.int x41), .val (.int x50), .val (.int x59), .unset, .unset, .unset] [(.int (3 : Int32)), (.ref b32), (.ref b32)])
            refine Go.of (fun t k => XS.iload X35.here hx rfl (hb hby at_167) rfl  k) ?_
            show Go p e below Φ T35 (mkF m 169 #[.val (.int i0), .val (.long i1), .second, .val (.int (4 : Int32)), .val (.int x14), .val (.int x23), .val (.int x32), .val (.int x41), .val (.int x50), .val (.int x59), .unset, .unset, .unset] [(.int x50), (.int (3 : Int32)), (.ref b32), (.ref b32)])
            obtain ⟨cl169, Ar169, q169, S169, N169, H169, G169⟩ := id V_b32
            have hin169 : ¬ ((3 : Int32) < 0 ∨ cl169.slots.size ≤ ((3 : Int32)).toNatClampNeg) := inb_of S169 ⟨by decide, by decide⟩
            obtain ⟨T36, h36, X36, e36, W36, st36⟩ := stB X35 hx hZ e35 Ar169 (j := (3 : Int32)) hin169 (g := (mkF m 169 #[.val (.int i0), .val (.long i1), .second, .val (.int (4 : Int32)), .val (.int x14), .val (.int x23), .val (.int x32), .val (.int x41), .val (.int x50), .val (.int x59), .unset, .unset, .unset] [(.int x50), (.int (3 : Int32)), (.ref b32), (.ref b32)])) rfl rfl (hb hby at_169)
            have V_b32 : Arv Z h36 b32 k32 .byte (4 : Int32) [(.int (nar .byte x23)), (.int (nar .byte x32)), (.int (nar .byte x41)), (.int (nar .byte x50))] (.int (0 : Int32)) := Arv.set Ar169 q169 S169 N169 H169 G169 (fits_nar_byte _) W36 3 rfl (Nat.le_of_ble_eq_true rfl)
            have N36 := Fr.snoc X36 N35 g_b32
            have Z36 := Nat.le_trans Z35 (Keep.of_wr W36).1
            obtain ⟨lc36, X36, N36⟩ : ∃ lc, Stand p l e room_1 s m #[(.int i0), (.long i1)] below meth c T36 lc 1 4 ∧ Fr n0 lc := ⟨_, X36, N36⟩
            refine Go.of st36 ?_
            show Go p e below Φ T36 (mkF m 170 #[.val (.int i0), .val (.long i1), .second, .val (.int (4 : Int32)), .val (.int x14), .val (.int x23), .val (.int x32), .val (.int x41), .val (.int x50), .val (.int x59), .unset, .unset, .unset] [(.ref b32)])
            refine Go.of (fun t k => XS.astore X36.here hx rfl (hb hby at_170) rfl rfl (l' := #[.val (.int i0), .val (.long i1), .second, .val (.int (4 : Int32)), .val (.int x14), .val (.int x23), .val (.int x32), .val (.int x41), .val (.int x50), .val (.int x59), .val (.ref b32), .unset, .unset]) rfl k) ?_
            show Go p e below Φ T36 (mkF m 172 #[.val (.int i0), .val (.long i1), .second, .val (.int (4 : Int32)), .val (.int x14), .val (.int x23), .val (.int x32), .val (.int x41), .val (.int x50), .val (.int x59), .val (.ref b32), .unset, .unset] [])
            refine Go.of (fun t k => XS.goto X36.here hx rfl (pc0 := 172) (pc' := 205) rfl (hb hby at_172) (by decide) (by decide) k) ?_
            show Go p e below Φ T36 (mkF m 205 #[.val (.int i0), .val (.long i1), .second, .val (.int (4 : Int32)), .val (.int x14), .val (.int x23), .val (.int x32), .val (.int x41), .val (.int x50), .val (.int x59), .val (.ref b32), .unset, .unset] [])
            refine Go.of (fun t k => XS.iloadN X36.here hx rfl (hb hby at_205) rfl  k) ?_
            show Go p e below Φ T36 (mkF m 206 #[.val (.int i0), .val (.long i1), .second, .val (.int (4 : Int32)), .val (.int x14), .val (.int x23), .val (.int x32), .val (.int x41), .val (.int x50), .val (.int x59), .val (.ref b32), .unset, .unset] [(.int (4 : Int32))])
            suffices j259_37 :  ∀ v259 : Int32, v259 = (if x23 = (0 : Int32) then (1 : Int32) else (if x32 = (0 : Int32) then (1 : Int32) else (if x41 = (0 : Int32) then (1 : Int32) else (if x50 = (0 : Int32) then (1 : Int32) else (0 : Int32))))) → Go p e below Φ T36 (mkF m 259 #[.val (.int i0), .val (.long i1), .second, .val (.int (4 : Int32)), .val (.int x14), .val (.int x23), .val (.int x32), .val (.int x41), .val (.int x50), .val (.int x59), .val (.ref b32), .unset, .unset] [(.int v259)]) by
              refine Go.of (fun t k => XS.ifNo X36.here hx rfl (hb hby at_206) rfl (XT.i0_le_f (by decide)) k) ?_
              show Go p e below Φ T36 (mkF m 209 #[.val (.int i0), .val (.long i1), .second, .val (.int (4 : Int32)), .val (.int x14), .val (.int x23), .val (.int x32), .val (.int x41), .val (.int x50), .val (.int x59), .val (.ref b32), .unset, .unset] [])
              refine Go.of (fun t k => XS.iload X36.here hx rfl (hb hby at_209) rfl  k) ?_
              show Go p e below Φ T36 (mkF m 211 #[.val (.int i0), .val (.long i1), .second, .val (.int (4 : Int32)), .val (.int x14), .val (.int x23), .val (.int x32), .val (.int x41), .val (.int x50), .val (.int x59), .val (.ref b32), .unset, .unset] [(.int x23)])
              by_cases hc211 : x23 = (0 : Int32)
              · refine Go.of (fun t k => XS.ifYes X36.here hx rfl (pc0 := 211) (pc' := 254) rfl (hb hby at_211) rfl (XT.i0_eq_t hc211) (by decide) (by decide) k) ?_
                show Go p e below Φ T36 (mkF m 254 #[.val (.int i0), .val (.long i1), .second, .val (.int (4 : Int32)), .val (.int x14), .val (.int x23), .val (.int x32), .val (.int x41), .val (.int x50), .val (.int x59), .val (.ref b32), .unset, .unset] [])
                refine Go.of (fun t k => XS.iconst X36.here hx rfl (hb hby at_254) k) ?_
                show Go p e below Φ T36 (mkF m 255 #[.val (.int i0), .val (.long i1), .second, .val (.int (4 : Int32)), .val (.int x14), .val (.int x23), .val (.int x32), .val (.int x41), .val (.int x50), .val (.int x59), .val (.ref b32), .unset, .unset] [(.int (1 : Int32))])
                refine Go.of (fun t k => XS.goto X36.here hx rfl (pc0 := 255) (pc' := 259) rfl (hb hby at_255) (by decide) (by decide) k) ?_
                show Go p e below Φ T36 (mkF m 259 #[.val (.int i0), .val (.long i1), .second, .val (.int (4 : Int32)), .val (.int x14), .val (.int x23), .val (.int x32), .val (.int x41), .val (.int x50), .val (.int x59), .val (.ref b32), .unset, .unset] [(.int (1 : Int32))])
                exact j259_37 _ (by rw [if_pos hc211])
              · refine Go.of (fun t k => XS.ifNo X36.here hx rfl (hb hby at_211) rfl (XT.i0_eq_f hc211) k) ?_
                show Go p e below Φ T36 (mkF m 214 #[.val (.int i0), .val (.long i1), .second, .val (.int (4 : Int32)), .val (.int x14), .val (.int x23), .val (.int x32), .val (.int x41), .val (.int x50), .val (.int x59), .val (.ref b32), .unset, .unset] [])
                refine Go.of (fun t k => XS.iloadN X36.here hx rfl (hb hby at_214) rfl  k) ?_
                show Go p e below Φ T36 (mkF m 215 #[.val (.int i0), .val (.long i1), .second, .val (.int (4 : Int32)), .val (.int x14), .val (.int x23), .val (.int x32), .val (.int x41), .val (.int x50), .val (.int x59), .val (.ref b32), .unset, .unset] [(.int (4 : Int32))])
                refine Go.of (fun t k => XS.iconst X36.here hx rfl (hb hby at_215) k) ?_
                show Go p e below Φ T36 (mkF m 216 #[.val (.int i0), .val (.long i1), .second, .val (.int (4 : Int32)), .val (.int x14), .val (.int x23), .val (.int x32), .val (.int x41), .val (.int x50), .val (.int x59), .val (.ref b32), .unset, .unset] [(.int (1 : Int32)), (.int (4 : Int32))])
                refine Go.of (fun t k => XS.icmpNo X36.here hx rfl (hb hby at_216) rfl (XT.ii_le_f (by decide)) k) ?_
                show Go p e below Φ T36 (mkF m 219 #[.val (.int i0), .val (.long i1), .second, .val (.int (4 : Int32)), .val (.int x14), .val (.int x23), .val (.int x32), .val (.int x41), .val (.int x50), .val (.int x59), .val (.ref b32), .unset, .unset] [])
                refine Go.of (fun t k => XS.iload X36.here hx rfl (hb hby at_219) rfl  k) ?_
                show Go p e below Φ T36 (mkF m 221 #[.val (.int i0), .val (.long i1), .second, .val (.int (4 : Int32)), .val (.int x14), .val (.int x23), .val (.int x32), .val (.int x41), .val (.int x50), .val (.int x59), .val (.ref b32), .unset, .unset] [(.int x32)])
                by_cases hc221 : x32 = (0 : Int32)
                · refine Go.of (fun t k => XS.ifYes X36.here hx rfl (pc0 := 221) (pc' := 254) rfl (hb hby at_221) rfl (XT.i0_eq_t hc221) (by decide) (by decide) k) ?_
                  show Go p e below Φ T36 (mkF m 254 #[.val (.int i0), .val (.long i1), .second, .val (.int (4 : Int32)), .val (.int x14), .val (.int x23), .val (.int x32), .val (.int x41), .val (.int x50), .val (.int x59), .val (.ref b32), .unset, .unset] [])
                  refine Go.of (fun t k => XS.iconst X36.here hx rfl (hb hby at_254) k) ?_
                  show Go p e below Φ T36 (mkF m 255 #[.val (.int i0), .val (.long i1), .second, .val (.int (4 : Int32)), .val (.int x14), .val (.int x23), .val (.int x32), .val (.int x41), .val (.int x50), .val (.int x59), .val (.ref b32), .unset, .unset] [(.int (1 : Int32))])
                  refine Go.of (fun t k => XS.goto X36.here hx rfl (pc0 := 255) (pc' := 259) rfl (hb hby at_255) (by decide) (by decide) k) ?_
                  show Go p e below Φ T36 (mkF m 259 #[.val (.int i0), .val (.long i1), .second, .val (.int (4 : Int32)), .val (.int x14), .val (.int x23), .val (.int x32), .val (.int x41), .val (.int x50), .val (.int x59), .val (.ref b32), .unset, .unset] [(.int (1 : Int32))])
                  exact j259_37 _ (by rw [if_neg hc211, if_pos hc221])
                · refine Go.of (fun t k => XS.ifNo X36.here hx rfl (hb hby at_221) rfl (XT.i0_eq_f hc221) k) ?_
                  show Go p e below Φ T36 (mkF m 224 #[.val (.int i0), .val (.long i1), .second, .val (.int (4 : Int32)), .val (.int x14), .val (.int x23), .val (.int x32), .val (.int x41), .val (.int x50), .val (.int x59), .val (.ref b32), .unset, .unset] [])
                  refine Go.of (fun t k => XS.iloadN X36.here hx rfl (hb hby at_224) rfl  k) ?_
                  show Go p e below Φ T36 (mkF m 225 #[.val (.int i0), .val (.long i1), .second, .val (.int (4 : Int32)), .val (.int x14), .val (.int x23), .val (.int x32), .val (.int x41), .val (.int x50), .val (.int x59), .val (.ref b32), .unset, .unset] [(.int (4 : Int32))])
                  refine Go.of (fun t k => XS.iconst X36.here hx rfl (hb hby at_225) k) ?_
                  show Go p e below Φ T36 (mkF m 226 #[.val (.int i0), .val (.long i1), .second, .val (.int (4 : Int32)), .val (.int x14), .val (.int x23), .val (.int x32), .val (.int x41), .val (.int x50), .val (.int x59), .val (.ref b32), .unset, .unset] [(.int (2 : Int32)), (.int (4 : Int32))])
                  refine Go.of (fun t k => XS.icmpNo X36.here hx rfl (hb hby at_226) rfl (XT.ii_le_f (by decide)) k) ?_
                  show Go p e below Φ T36 (mkF m 229 #[.val (.int i0), .val (.long i1), .second, .val (.int (4 : Int32)), .val (.int x14), .val (.int x23), .val (.int x32), .val (.int x41), .val (.int x50), .val (.int x59), .val (.ref b32), .unset, .unset] [])
                  refine Go.of (fun t k => XS.iload X36.here hx rfl (hb hby at_229) rfl  k) ?_
                  show Go p e below Φ T36 (mkF m 231 #[.val (.int i0), .val (.long i1), .second, .val (.int (4 : Int32)), .val (.int x14), .val (.int x23), .val (.int x32), .val (.int x41), .val (.int x50), .val (.int x59), .val (.ref b32), .unset, .unset] [(.int x41)])
                  by_cases hc231 : x41 = (0 : Int32)
                  · refine Go.of (fun t k => XS.ifYes X36.here hx rfl (pc0 := 231) (pc' := 254) rfl (hb hby at_231) rfl (XT.i0_eq_t hc231) (by decide) (by decide) k) ?_
                    show Go p e below Φ T36 (mkF m 254 #[.val (.int i0), .val (.long i1), .second, .val (.int (4 : Int32)), .val (.int x14), .val (.int x23), .val (.int x32), .val (.int x41), .val (.int x50), .val (.int x59), .val (.ref b32), .unset, .unset] [])
                    refine Go.of (fun t k => XS.iconst X36.here hx rfl (hb hby at_254) k) ?_
                    show Go p e below Φ T36 (mkF m 255 #[.val (.int i0), .val (.long i1), .second, .val (.int (4 : Int32)), .val (.int x14), .val (.int x23), .val (.int x32), .val (.int x41), .val (.int x50), .val (.int x59), .val (.ref b32), .unset, .unset] [(.int (1 : Int32))])
                    refine Go.of (fun t k => XS.goto X36.here hx rfl (pc0 := 255) (pc' := 259) rfl (hb hby at_255) (by decide) (by decide) k) ?_
                    show Go p e below Φ T36 (mkF m 259 #[.val (.int i0), .val (.long i1), .second, .val (.int (4 : Int32)), .val (.int x14), .val (.int x23), .val (.int x32), .val (.int x41), .val (.int x50), .val (.int x59), .val (.ref b32), .unset, .unset] [(.int (1 : Int32))])
                    exact j259_37 _ (by rw [if_neg hc211, if_neg hc221, if_pos hc231])
                  · refine Go.of (fun t k => XS.ifNo X36.here hx rfl (hb hby at_231) rfl (XT.i0_eq_f hc231) k) ?_
                    show Go p e below Φ T36 (mkF m 234 #[.val (.int i0), .val (.long i1), .second, .val (.int (4 : Int32)), .val (.int x14), .val (.int x23), .val (.int x32), .val (.int x41), .val (.int x50), .val (.int x59), .val (.ref b32), .unset, .unset] [])
                    refine Go.of (fun t k => XS.iloadN X36.here hx rfl (hb hby at_234) rfl  k) ?_
                    show Go p e below Φ T36 (mkF m 235 #[.val (.int i0), .val (.long i1), .second, .val (.int (4 : Int32)), .val (.int x14), .val (.int x23), .val (.int x32), .val (.int x41), .val (.int x50), .val (.int x59), .val (.ref b32), .unset, .unset] [(.int (4 : Int32))])
                    refine Go.of (fun t k => XS.iconst X36.here hx rfl (hb hby at_235) k) ?_
                    show Go p e below Φ T36 (mkF m 236 #[.val (.int i0), .val (.long i1), .second, .val (.int (4 : Int32)), .val (.int x14), .val (.int x23), .val (.int x32), .val (.int x41), .val (.int x50), .val (.int x59), .val (.ref b32), .unset, .unset] [(.int (3 : Int32)), (.int (4 : Int32))])
                    refine Go.of (fun t k => XS.icmpNo X36.here hx rfl (hb hby at_236) rfl (XT.ii_le_f (by decide)) k) ?_
                    show Go p e below Φ T36 (mkF m 239 #[.val (.int i0), .val (.long i1), .second, .val (.int (4 : Int32)), .val (.int x14), .val (.int x23), .val (.int x32), .val (.int x41), .val (.int x50), .val (.int x59), .val (.ref b32), .unset, .unset] [])
                    refine Go.of (fun t k => XS.iload X36.here hx rfl (hb hby at_239) rfl  k) ?_
                    show Go p e below Φ T36 (mkF m 241 #[.val (.int i0), .val (.long i1), .second, .val (.int (4 : Int32)), .val (.int x14), .val (.int x23), .val (.int x32), .val (.int x41), .val (.int x50), .val (.int x59), .val (.ref b32), .unset, .unset] [(.int x50)])
                    by_cases hc241 : x50 = (0 : Int32)
                    · refine Go.of (fun t k => XS.ifYes X36.here hx rfl (pc0 := 241) (pc' := 254) rfl (hb hby at_241) rfl (XT.i0_eq_t hc241) (by decide) (by decide) k) ?_
                      show Go p e below Φ T36 (mkF m 254 #[.val (.int i0), .val (.long i1), .second, .val (.int (4 : Int32)), .val (.int x14), .val (.int x23), .val (.int x32), .val (.int x41), .val (.int x50), .val (.int x59), .val (.ref b32), .unset, .unset] [])
                      refine Go.of (fun t k => XS.iconst X36.here hx rfl (hb hby at_254) k) ?_
                      show Go p e below Φ T36 (mkF m 255 #[.val (.int i0), .val (.long i1), .second, .val (.int (4 : Int32)), .val (.int x14), .val (.int x23), .val (.int x32), .val (.int x41), .val (.int x50), .val (.int x59), .val (.ref b32), .unset, .unset] [(.int (1 : Int32))])
                      refine Go.of (fun t k => XS.goto X36.here hx rfl (pc0 := 255) (pc' := 259) rfl (hb hby at_255) (by decide) (by decide) k) ?_
                      show Go p e below Φ T36 (mkF m 259 #[.val (.int i0), .val (.long i1), .second, .val (.int (4 : Int32)), .val (.int x14), .val (.int x23), .val (.int x32), .val (.int x41), .val (.int x50), .val (.int x59), .val (.ref b32), .unset, .unset] [(.int (1 : Int32))])
                      exact j259_37 _ (by rw [if_neg hc211, if_neg hc221, if_neg hc231, if_pos hc241])
                    · refine Go.of (fun t k => XS.ifNo X36.here hx rfl (hb hby at_241) rfl (XT.i0_eq_f hc241) k) ?_
                      show Go p e below Φ T36 (mkF m 244 #[.val (.int i0), .val (.long i1), .second, .val (.int (4 : Int32)), .val (.int x14), .val (.int x23), .val (.int x32), .val (.int x41), .val (.int x50), .val (.int x59), .val (.ref b32), .unset, .unset] [])
                      refine Go.of (fun t k => XS.iloadN X36.here hx rfl (hb hby at_244) rfl  k) ?_
                      show Go p e below Φ T36 (mkF m 245 #[.val (.int i0), .val (.long i1), .second, .val (.int (4 : Int32)), .val (.int x14), .val (.int x23), .val (.int x32), .val (.int x41), .val (.int x50), .val (.int x59), .val (.ref b32), .unset, .unset] [(.int (4 : Int32))])
                      refine Go.of (fun t k => XS.iconst X36.here hx rfl (hb hby at_245) k) ?_
                      show Go p e below Φ T36 (mkF m 246 #[.val (.int i0), .val (.long i1), .second, .val (.int (4 : Int32)), .val (.int x14), .val (.int x23), .val (.int x32), .val (.int x41), .val (.int x50), .val (.int x59), .val (.ref b32), .unset, .unset] [(.int (4 : Int32)), (.int (4 : Int32))])
                      refine Go.of (fun t k => XS.icmpYes X36.here hx rfl (pc0 := 246) (pc' := 258) rfl (hb hby at_246) rfl (XT.ii_le_t (by decide)) (by decide) (by decide) k) ?_
                      show Go p e below Φ T36 (mkF m 258 #[.val (.int i0), .val (.long i1), .second, .val (.int (4 : Int32)), .val (.int x14), .val (.int x23), .val (.int x32), .val (.int x41), .val (.int x50), .val (.int x59), .val (.ref b32), .unset, .unset] [])
                      refine Go.of (fun t k => XS.iconst X36.here hx rfl (hb hby at_258) k) ?_
                      show Go p e below Φ T36 (mkF m 259 #[.val (.int i0), .val (.long i1), .second, .val (.int (4 : Int32)), .val (.int x14), .val (.int x23), .val (.int x32), .val (.int x41), .val (.int x50), .val (.int x59), .val (.ref b32), .unset, .unset] [(.int (0 : Int32))])
                      exact j259_37 _ (by rw [if_neg hc211, if_neg hc221, if_neg hc231, if_neg hc241])
            intro v259 hv259
            show Go p e below Φ T36 (mkF m 259 #[.val (.int i0), .val (.long i1), .second, .val (.int (4 : Int32)), .val (.int x14), .val (.int x23), .val (.int x32), .val (.int x41), .val (.int x50), .val (.int x59), .val (.ref b32), .unset, .unset] [(.int v259)])
            refine Go.of (fun t k => XS.istore X36.here hx rfl (hb hby at_259) rfl (l' := #[.val (.int i0), .val (.long i1), .second, .val (.int (4 : Int32)), .val (.int x14), .val (.int x23), .val (.int x32), .val (.int x41), .val (.int x50), .val (.int x59), .val (.ref b32), .val (.int v259), .unset]) rfl k) ?_
            show Go p e below Φ T36 (mkF m 261 #[.val (.int i0), .val (.long i1), .second, .val (.int (4 : Int32)), .val (.int x14), .val (.int x23), .val (.int x32), .val (.int x41), .val (.int x50), .val (.int x59), .val (.ref b32), .val (.int v259), .unset] [])
            refine Go.of (fun t k => XS.iload X36.here hx rfl (hb hby at_261) rfl  k) ?_
            show Go p e below Φ T36 (mkF m 263 #[.val (.int i0), .val (.long i1), .second, .val (.int (4 : Int32)), .val (.int x14), .val (.int x23), .val (.int x32), .val (.int x41), .val (.int x50), .val (.int x59), .val (.ref b32), .val (.int v259), .unset] [(.int v259)])
            suffices j271_38 :  ∀ v271 : Int32, v271 = (if v259 = (0 : Int32) then (1 : Int32) else (0 : Int32)) → Go p e below Φ T36 (mkF m 271 #[.val (.int i0), .val (.long i1), .second, .val (.int (4 : Int32)), .val (.int x14), .val (.int x23), .val (.int x32), .val (.int x41), .val (.int x50), .val (.int x59), .val (.ref b32), .val (.int v259), .unset] [(.int v271)]) by
              by_cases hc263 : v259 = (0 : Int32)
              · refine Go.of (fun t k => XS.ifNo X36.here hx rfl (hb hby at_263) rfl (XT.i0_ne_f hc263) k) ?_
                show Go p e below Φ T36 (mkF m 266 #[.val (.int i0), .val (.long i1), .second, .val (.int (4 : Int32)), .val (.int x14), .val (.int x23), .val (.int x32), .val (.int x41), .val (.int x50), .val (.int x59), .val (.ref b32), .val (.int v259), .unset] [])
                refine Go.of (fun t k => XS.iconst X36.here hx rfl (hb hby at_266) k) ?_
                show Go p e below Φ T36 (mkF m 267 #[.val (.int i0), .val (.long i1), .second, .val (.int (4 : Int32)), .val (.int x14), .val (.int x23), .val (.int x32), .val (.int x41), .val (.int x50), .val (.int x59), .val (.ref b32), .val (.int v259), .unset] [(.int (1 : Int32))])
                refine Go.of (fun t k => XS.goto X36.here hx rfl (pc0 := 267) (pc' := 271) rfl (hb hby at_267) (by decide) (by decide) k) ?_
                show Go p e below Φ T36 (mkF m 271 #[.val (.int i0), .val (.long i1), .second, .val (.int (4 : Int32)), .val (.int x14), .val (.int x23), .val (.int x32), .val (.int x41), .val (.int x50), .val (.int x59), .val (.ref b32), .val (.int v259), .unset] [(.int (1 : Int32))])
                exact j271_38 _ (by rw [if_pos hc263])
              · refine Go.of (fun t k => XS.ifYes X36.here hx rfl (pc0 := 263) (pc' := 270) rfl (hb hby at_263) rfl (XT.i0_ne_t hc263) (by decide) (by decide) k) ?_
                show Go p e below Φ T36 (mkF m 270 #[.val (.int i0), .val (.long i1), .second, .val (.int (4 : Int32)), .val (.int x14), .val (.int x23), .val (.int x32), .val (.int x41), .val (.int x50), .val (.int x59), .val (.ref b32), .val (.int v259), .unset] [])
                refine Go.of (fun t k => XS.iconst X36.here hx rfl (hb hby at_270) k) ?_
                show Go p e below Φ T36 (mkF m 271 #[.val (.int i0), .val (.long i1), .second, .val (.int (4 : Int32)), .val (.int x14), .val (.int x23), .val (.int x32), .val (.int x41), .val (.int x50), .val (.int x59), .val (.ref b32), .val (.int v259), .unset] [(.int (0 : Int32))])
                exact j271_38 _ (by rw [if_neg hc263])
            intro v271 hv271
            show Go p e below Φ T36 (mkF m 271 #[.val (.int i0), .val (.long i1), .second, .val (.int (4 : Int32)), .val (.int x14), .val (.int x23), .val (.int x32), .val (.int x41), .val (.int x50), .val (.int x59), .val (.ref b32), .val (.int v259), .unset] [(.int v271)])
            refine Go.of (fun t k => XS.istore X36.here hx rfl (hb hby at_271) rfl (l' := #[.val (.int i0), .val (.long i1), .second, .val (.int (4 : Int32)), .val (.int x14), .val (.int x23), .val (.int x32), .val (.int x41), .val (.int x50), .val (.int x59), .val (.ref b32), .val (.int v259), .val (.int v271)]) rfl k) ?_
            show Go p e below Φ T36 (mkF m 273 #[.val (.int i0), .val (.long i1), .second, .val (.int (4 : Int32)), .val (.int x14), .val (.int x23), .val (.int x32), .val (.int x41), .val (.int x50), .val (.int x59), .val (.ref b32), .val (.int v259), .val (.int v271)] [])
            refine Go.of (fun t k => XS.aload X36.here hx rfl (hb hby at_273) rfl rfl  k) ?_
            show Go p e below Φ T36 (mkF m 275 #[.val (.int i0), .val (.long i1), .second, .val (.int (4 : Int32)), .val (.int x14), .val (.int x23), .val (.int x32), .val (.int x41), .val (.int x50), .val (.int x59), .val (.ref b32), .val (.int v259), .val (.int v271)] [(.ref b32)])
            obtain ⟨_, _, ⟨T39, L39, k39, n39⟩, -, X39, ⟨Lc39, hQ39, l39, y39, z39⟩, st39⟩ := Jvm.LawKit.callS X36 hx (y := (⟨"com/example/dozynki/dozynki/StoreLayout", "definesSet", "([B)Z"⟩ : MethodName)) hown (mvT hZ (hw _ (List.mem_of_getElem? (i := 5) rfl))) (mvT hZ (hw _ (List.mem_of_getElem? (i := 6) rfl))) (mvT hZ (hw _ (List.mem_of_getElem? (i := 7) rfl))) (mvT hZ (hw _ (List.mem_of_getElem? (i := 8) rfl))) (by decide) (backOf (W := 0) (rm2 l Z a0 hw [] b32 k32 (4 : Int32) [(nar .byte x23), (nar .byte x32), (nar .byte x41), (nar .byte x50)] h36 n0 Z36 V_b32 rfl (Nat.le_of_ble_eq_true rfl)) hZ (hw _ (List.mem_of_getElem? (i := 8) rfl)) (hw _ (List.mem_of_getElem? (i := 7) rfl)) (by decide) (by decide)) (g := (mkF m 275 #[.val (.int i0), .val (.long i1), .second, .val (.int (4 : Int32)), .val (.int x14), .val (.int x23), .val (.int x32), .val (.int x41), .val (.int x50), .val (.int x59), .val (.ref b32), .val (.int v259), .val (.int v271)] [(.ref b32)])) rfl (by rw [hml]; rfl) (argsL := [(.ref b32)]) (rest := []) (lenOf own_pd2 rfl) rfl (by show 2 * 0 + _ ≤ _; exact Nat.le_of_eq rfl) (hb hby at_275) (fun _ _ => ⟨rfl, e36, (by decide : 1 + 0 ≤ _), (by decide : 4 + 0 ≤ _)⟩)
            dsimp only [Pt.U, Pt.locs, Pt.cells, Pt.slots] at X39 l39 y39 z39 st39 hQ39
            subst l39 y39 z39
            obtain ⟨rfl, N39q, e39q⟩ := hQ39
            have N39 := Fr.app N36 N39q
            obtain ⟨lc39, X39, N39⟩ : ∃ lc, Stand p l e room_1 s m #[(.int i0), (.long i1)] below meth c T39 lc 1 4 ∧ Fr n0 lc := ⟨_, X39, N39⟩
            refine Go.of st39 ?_
            show Go p e below Φ T39 (mkF m 278 #[.val (.int i0), .val (.long i1), .second, .val (.int (4 : Int32)), .val (.int x14), .val (.int x23), .val (.int x32), .val (.int x41), .val (.int x50), .val (.int x59), .val (.ref b32), .val (.int v259), .val (.int v271)] [(.int (own_defs (4 : Int32) [(nar .byte x23), (nar .byte x32), (nar .byte x41), (nar .byte x50)]))])
            refine Go.of (fun t k => XS.iload X39.here hx rfl (hb hby at_278) rfl  k) ?_
            show Go p e below Φ T39 (mkF m 280 #[.val (.int i0), .val (.long i1), .second, .val (.int (4 : Int32)), .val (.int x14), .val (.int x23), .val (.int x32), .val (.int x41), .val (.int x50), .val (.int x59), .val (.ref b32), .val (.int v259), .val (.int v271)] [(.int v271), (.int (own_defs (4 : Int32) [(nar .byte x23), (nar .byte x32), (nar .byte x41), (nar .byte x50)]))])
            suffices j288_40 :  ∀ v288 : Int32, v288 = (if (own_defs (4 : Int32) [(nar .byte x23), (nar .byte x32), (nar .byte x41), (nar .byte x50)]) = v271 then (1 : Int32) else (0 : Int32)) → Go p e below Φ T39 (mkF m 288 #[.val (.int i0), .val (.long i1), .second, .val (.int (4 : Int32)), .val (.int x14), .val (.int x23), .val (.int x32), .val (.int x41), .val (.int x50), .val (.int x59), .val (.ref b32), .val (.int v259), .val (.int v271)] [(.int v288)]) by
              by_cases hc280 : (own_defs (4 : Int32) [(nar .byte x23), (nar .byte x32), (nar .byte x41), (nar .byte x50)]) = v271
              · refine Go.of (fun t k => XS.icmpNo X39.here hx rfl (hb hby at_280) rfl (XT.ii_ne_f hc280) k) ?_
                show Go p e below Φ T39 (mkF m 283 #[.val (.int i0), .val (.long i1), .second, .val (.int (4 : Int32)), .val (.int x14), .val (.int x23), .val (.int x32), .val (.int x41), .val (.int x50), .val (.int x59), .val (.ref b32), .val (.int v259), .val (.int v271)] [])
                refine Go.of (fun t k => XS.iconst X39.here hx rfl (hb hby at_283) k) ?_
                show Go p e below Φ T39 (mkF m 284 #[.val (.int i0), .val (.long i1), .second, .val (.int (4 : Int32)), .val (.int x14), .val (.int x23), .val (.int x32), .val (.int x41), .val (.int x50), .val (.int x59), .val (.ref b32), .val (.int v259), .val (.int v271)] [(.int (1 : Int32))])
                refine Go.of (fun t k => XS.goto X39.here hx rfl (pc0 := 284) (pc' := 288) rfl (hb hby at_284) (by decide) (by decide) k) ?_
                show Go p e below Φ T39 (mkF m 288 #[.val (.int i0), .val (.long i1), .second, .val (.int (4 : Int32)), .val (.int x14), .val (.int x23), .val (.int x32), .val (.int x41), .val (.int x50), .val (.int x59), .val (.ref b32), .val (.int v259), .val (.int v271)] [(.int (1 : Int32))])
                exact j288_40 _ (by rw [if_pos hc280])
              · refine Go.of (fun t k => XS.icmpYes X39.here hx rfl (pc0 := 280) (pc' := 287) rfl (hb hby at_280) rfl (XT.ii_ne_t hc280) (by decide) (by decide) k) ?_
                show Go p e below Φ T39 (mkF m 287 #[.val (.int i0), .val (.long i1), .second, .val (.int (4 : Int32)), .val (.int x14), .val (.int x23), .val (.int x32), .val (.int x41), .val (.int x50), .val (.int x59), .val (.ref b32), .val (.int v259), .val (.int v271)] [])
                refine Go.of (fun t k => XS.iconst X39.here hx rfl (hb hby at_287) k) ?_
                show Go p e below Φ T39 (mkF m 288 #[.val (.int i0), .val (.long i1), .second, .val (.int (4 : Int32)), .val (.int x14), .val (.int x23), .val (.int x32), .val (.int x41), .val (.int x50), .val (.int x59), .val (.ref b32), .val (.int v259), .val (.int v271)] [(.int (0 : Int32))])
                exact j288_40 _ (by rw [if_neg hc280])
            intro v288 hv288
            show Go p e below Φ T39 (mkF m 288 #[.val (.int i0), .val (.long i1), .second, .val (.int (4 : Int32)), .val (.int x14), .val (.int x23), .val (.int x32), .val (.int x41), .val (.int x50), .val (.int x59), .val (.ref b32), .val (.int v259), .val (.int v271)] [(.int v288)])
            rw [hΦ]
            refine Go.ret X39 hx Bd.notSynchronized Bd.returns (own_one (own_plain5 i0 i1 x7 hx7 x14 hx14 x23 hx23 x32 hx32 x41 hx41 x50 hx50 x59 hx59 v259 hv259 v271 hv271 v288 hv288 hc62 hc75 hc93 hc116 hc144)) (Or.inl ⟨rfl, Or.inr (Or.inl rfl), _, rfl⟩) (hb hby at_288) (by decide) (by decide) ?_
            rw [(e39q)]
            exact ⟨congrArg (fun z => some (Value.int z)) (own_plain5 i0 i1 x7 hx7 x14 hx14 x23 hx23 x32 hx32 x41 hx41 x50 hx50 x59 hx59 v259 hv259 v271 hv271 v288 hv288 hc62 hc75 hc93 hc116 hc144), N39⟩
          · refine Go.of (fun t k => XS.icmpYes X5.here hx rfl (pc0 := 144) (pc' := 175) rfl (hb hby at_144) rfl (XT.ii_ne_t hc144) (by decide) (by decide) k) ?_
            show Go p e below Φ T5 (mkF m 175 #[.val (.int i0), .val (.long i1), .second, .val (.int x7), .val (.int x14), .val (.int x23), .val (.int x32), .val (.int x41), .val (.int x50), .val (.int x59), .unset, .unset, .unset] [])
            have hx5 : x7 = (5 : Int32) := own_n5 i0 x7 hx7 hc62 hc75 hc93 hc116 hc144
            rw [hx5]
            show Go p e below Φ T5 (mkF m 175 #[.val (.int i0), .val (.long i1), .second, .val (.int (5 : Int32)), .val (.int x14), .val (.int x23), .val (.int x32), .val (.int x41), .val (.int x50), .val (.int x59), .unset, .unset, .unset] [])
            refine Go.of (fun t k => XS.iconst X5.here hx rfl (hb hby at_175) k) ?_
            show Go p e below Φ T5 (mkF m 176 #[.val (.int i0), .val (.long i1), .second, .val (.int (5 : Int32)), .val (.int x14), .val (.int x23), .val (.int x32), .val (.int x41), .val (.int x50), .val (.int x59), .unset, .unset, .unset] [(.int (5 : Int32))])
            obtain ⟨T41, h41, k41, X41, e41, E41, A41, st41⟩ := newP X5 hx hZ (hw _ (List.mem_of_getElem? (i := 4) rfl)) (e5q) (g := (mkF m 176 #[.val (.int i0), .val (.long i1), .second, .val (.int (5 : Int32)), .val (.int x14), .val (.int x23), .val (.int x32), .val (.int x41), .val (.int x50), .val (.int x59), .unset, .unset, .unset] [(.int (5 : Int32))])) rfl (hb hby at_176) rfl (by decide) (cap := 5) (by decide) (by decide) (by decide) (by decide)
            obtain ⟨b41, g41⟩ : ∃ z, z = h0.size := ⟨_, rfl⟩
            rw [← g41] at A41 st41
            have g_b41 : n0 ≤ b41 := Nat.le_trans Z0 (Nat.le_of_eq g41.symm)
            have Z41 := Nat.le_trans Z0 E41.1
            have V_b41 : Arv Z h41 b41 k41 .byte (5 : Int32) [(.int (0 : Int32)), (.int (0 : Int32)), (.int (0 : Int32)), (.int (0 : Int32)), (.int (0 : Int32))] (.int (0 : Int32)) := (Arv.new A41 (by decide)).pad (pad_rep [] (.int (0 : Int32)) 5)
            refine Go.of st41 ?_
            show Go p e below Φ T41 (mkF m 178 #[.val (.int i0), .val (.long i1), .second, .val (.int (5 : Int32)), .val (.int x14), .val (.int x23), .val (.int x32), .val (.int x41), .val (.int x50), .val (.int x59), .unset, .unset, .unset] [(.ref b41)])
            refine Go.of (fun t k => XS.dup X41.here hx rfl (hb hby at_178) rfl rfl k) ?_
            show Go p e below Φ T41 (mkF m 179 #[.val (.int i0), .val (.long i1), .second, .val (.int (5 : Int32)), .val (.int x14), .val (.int x23), .val (.int x32), .val (.int x41), .val (.int x50), .val (.int x59), .unset, .unset, .unset] [(.ref b41), (.ref b41)])
            refine Go.of (fun t k => XS.iconst X41.here hx rfl (hb hby at_179) k) ?_
            show Go p e below Φ T41 (mkF m 180 #[.val (.int i0), .val (.long i1), .second, .val (.int (5 : Int32)), .val (.int x14), .val (.int x23), .val (.int x32), .val (.int x41), .val (.int x50), .val (.int x59), .unset, .unset, .unset] [(.int (0 : Int32)), (.ref b41), (.ref b41)])
            refine Go.of (fun t k => XS.iload X41.here hx rfl (hb hby at_180) rfl  k) ?_
            show Go p e below Φ T41 (mkF m 182 #[.val (.int i0), .val (.long i1), .second, .val (.int (5 : Int32)), .val (.int x14), .val (.int x23), .val (.int x32), .val (.int x41), .val (.int x50), .val (.int x59), .unset, .unset, .unset] [(.int x23), (.int (0 : Int32)), (.ref b41), (.ref b41)])
            obtain ⟨cl182, Ar182, q182, S182, N182, H182, G182⟩ := id V_b41
            have hin182 : ¬ ((0 : Int32) < 0 ∨ cl182.slots.size ≤ ((0 : Int32)).toNatClampNeg) := inb_of S182 ⟨by decide, by decide⟩
            obtain ⟨T42, h42, X42, e42, W42, st42⟩ := stB X41 hx hZ e41 Ar182 (j := (0 : Int32)) hin182 (g := (mkF m 182 #[.val (.int i0), .val (.long i1), .second, .val (.int (5 : Int32)), .val (.int x14), .val (.int x23), .val (.int x32), .val (.int x41), .val (.int x50), .val (.int x59), .unset, .unset, .unset] [(.int x23), (.int (0 : Int32)), (.ref b41), (.ref b41)])) rfl rfl (hb hby at_182)
            have V_b41 : Arv Z h42 b41 k41 .byte (5 : Int32) [(.int (nar .byte x23)), (.int (0 : Int32)), (.int (0 : Int32)), (.int (0 : Int32)), (.int (0 : Int32))] (.int (0 : Int32)) := Arv.set Ar182 q182 S182 N182 H182 G182 (fits_nar_byte _) W42 0 rfl (Nat.le_of_ble_eq_true rfl)
            have N42 := Fr.snoc X42 N5 g_b41
            have Z42 := Nat.le_trans Z41 (Keep.of_wr W42).1
            obtain ⟨lc42, X42, N42⟩ : ∃ lc, Stand p l e room_1 s m #[(.int i0), (.long i1)] below meth c T42 lc 1 5 ∧ Fr n0 lc := ⟨_, X42, N42⟩
            refine Go.of st42 ?_
            show Go p e below Φ T42 (mkF m 183 #[.val (.int i0), .val (.long i1), .second, .val (.int (5 : Int32)), .val (.int x14), .val (.int x23), .val (.int x32), .val (.int x41), .val (.int x50), .val (.int x59), .unset, .unset, .unset] [(.ref b41)])
            refine Go.of (fun t k => XS.dup X42.here hx rfl (hb hby at_183) rfl rfl k) ?_
            show Go p e below Φ T42 (mkF m 184 #[.val (.int i0), .val (.long i1), .second, .val (.int (5 : Int32)), .val (.int x14), .val (.int x23), .val (.int x32), .val (.int x41), .val (.int x50), .val (.int x59), .unset, .unset, .unset] [(.ref b41), (.ref b41)])
            refine Go.of (fun t k => XS.iconst X42.here hx rfl (hb hby at_184) k) ?_
            show Go p e below Φ T42 (mkF m 185 #[.val (.int i0), .val (.long i1), .second, .val (.int (5 : Int32)), .val (.int x14), .val (.int x23), .val (.int x32), .val (.int x41), .val (.int x50), .val (.int x59), .unset, .unset, .unset] [(.int (1 : Int32)), (.ref b41), (.ref b41)])
            refine Go.of (fun t k => XS.iload X42.here hx rfl (hb hby at_185) rfl  k) ?_
            show Go p e below Φ T42 (mkF m 187 #[.val (.int i0), .val (.long i1), .second, .val (.int (5 : Int32)), .val (.int x14), .val (.int x23), .val (.int x32), .val (.int x41), .val (.int x50), .val (.int x59), .unset, .unset, .unset] [(.int x32), (.int (1 : Int32)), (.ref b41), (.ref b41)])
            obtain ⟨cl187, Ar187, q187, S187, N187, H187, G187⟩ := id V_b41
            have hin187 : ¬ ((1 : Int32) < 0 ∨ cl187.slots.size ≤ ((1 : Int32)).toNatClampNeg) := inb_of S187 ⟨by decide, by decide⟩
            obtain ⟨T43, h43, X43, e43, W43, st43⟩ := stB X42 hx hZ e42 Ar187 (j := (1 : Int32)) hin187 (g := (mkF m 187 #[.val (.int i0), .val (.long i1), .second, .val (.int (5 : Int32)), .val (.int x14), .val (.int x23), .val (.int x32), .val (.int x41), .val (.int x50), .val (.int x59), .unset, .unset, .unset] [(.int x32), (.int (1 : Int32)), (.ref b41), (.ref b41)])) rfl rfl (hb hby at_187)
            have V_b41 : Arv Z h43 b41 k41 .byte (5 : Int32) [(.int (nar .byte x23)), (.int (nar .byte x32)), (.int (0 : Int32)), (.int (0 : Int32)), (.int (0 : Int32))] (.int (0 : Int32)) := Arv.set Ar187 q187 S187 N187 H187 G187 (fits_nar_byte _) W43 1 rfl (Nat.le_of_ble_eq_true rfl)
            have N43 := Fr.snoc X43 N42 g_b41
            have Z43 := Nat.le_trans Z42 (Keep.of_wr W43).1
            obtain ⟨lc43, X43, N43⟩ : ∃ lc, Stand p l e room_1 s m #[(.int i0), (.long i1)] below meth c T43 lc 1 5 ∧ Fr n0 lc := ⟨_, X43, N43⟩
            refine Go.of st43 ?_
            show Go p e below Φ T43 (mkF m 188 #[.val (.int i0), .val (.long i1), .second, .val (.int (5 : Int32)), .val (.int x14), .val (.int x23), .val (.int x32), .val (.int x41), .val (.int x50), .val (.int x59), .unset, .unset, .unset] [(.ref b41)])
            refine Go.of (fun t k => XS.dup X43.here hx rfl (hb hby at_188) rfl rfl k) ?_
            show Go p e below Φ T43 (mkF m 189 #[.val (.int i0), .val (.long i1), .second, .val (.int (5 : Int32)), .val (.int x14), .val (.int x23), .val (.int x32), .val (.int x41), .val (.int x50), .val (.int x59), .unset, .unset, .unset] [(.ref b41), (.ref b41)])
            refine Go.of (fun t k => XS.iconst X43.here hx rfl (hb hby at_189) k) ?_
            show Go p e below Φ T43 (mkF m 190 #[.val (.int i0), .val (.long i1), .second, .val (.int (5 : Int32)), .val (.int x14), .val (.int x23), .val (.int x32), .val (.int x41), .val (.int x50), .val (.int x59), .unset, .unset, .unset] [(.int (2 : Int32)), (.ref b41), (.ref b41)])
            refine Go.of (fun t k => XS.iload X43.here hx rfl (hb hby at_190) rfl  k) ?_
            show Go p e below Φ T43 (mkF m 192 #[.val (.int i0), .val (.long i1), .second, .val (.int (5 : Int32)), .val (.int x14), .val (.int x23), .val (.int x32), .val (.int x41), .val (.int x50), .val (.int x59), .unset, .unset, .unset] [(.int x41), (.int (2 : Int32)), (.ref b41), (.ref b41)])
            obtain ⟨cl192, Ar192, q192, S192, N192, H192, G192⟩ := id V_b41
            have hin192 : ¬ ((2 : Int32) < 0 ∨ cl192.slots.size ≤ ((2 : Int32)).toNatClampNeg) := inb_of S192 ⟨by decide, by decide⟩
            obtain ⟨T44, h44, X44, e44, W44, st44⟩ := stB X43 hx hZ e43 Ar192 (j := (2 : Int32)) hin192 (g := (mkF m 192 #[.val (.int i0), .val (.long i1), .second, .val (.int (5 : Int32)), .val (.int x14), .val (.int x23), .val (.int x32), .val (.int x41), .val (.int x50), .val (.int x59), .unset, .unset, .unset] [(.int x41), (.int (2 : Int32)), (.ref b41), (.ref b41)])) rfl rfl (hb hby at_192)
            have V_b41 : Arv Z h44 b41 k41 .byte (5 : Int32) [(.int (nar .byte x23)), (.int (nar .byte x32)), (.int (nar .byte x41)), (.int (0 : Int32)), (.int (0 : Int32))] (.int (0 : Int32)) := Arv.set Ar192 q192 S192 N192 H192 G192 (fits_nar_byte _) W44 2 rfl (Nat.le_of_ble_eq_true rfl)
            have N44 := Fr.snoc X44 N43 g_b41
            have Z44 := Nat.le_trans Z43 (Keep.of_wr W44).1
            obtain ⟨lc44, X44, N44⟩ : ∃ lc, Stand p l e room_1 s m #[(.int i0), (.long i1)] below meth c T44 lc 1 5 ∧ Fr n0 lc := ⟨_, X44, N44⟩
            refine Go.of st44 ?_
            show Go p e below Φ T44 (mkF m 193 #[.val (.int i0), .val (.long i1), .second, .val (.int (5 : Int32)), .val (.int x14), .val (.int x23), .val (.int x32), .val (.int x41), .val (.int x50), .val (.int x59), .unset, .unset, .unset] [(.ref b41)])
            refine Go.of (fun t k => XS.dup X44.here hx rfl (hb hby at_193) rfl rfl k) ?_
            show Go p e below Φ T44 (mkF m 194 #[.val (.int i0), .val (.long i1), .second, .val (.int (5 : Int32)), .val (.int x14), .val (.int x23), .val (.int x32), .val (.int x41), .val (.int x50), .val (.int x59), .unset, .unset, .unset] [(.ref b41), (.ref b41)])
            refine Go.of (fun t k => XS.iconst X44.here hx rfl (hb hby at_194) k) ?_
            show Go p e below Φ T44 (mkF m 195 #[.val (.int i0), .val (.long i1), .second, .val (.int (5 : Int32)), .val (.int x14), .val (.int x23), .val (.int x32), .val (.int x41), .val (.int x50), .val (.int x59), .unset, .unset, .unset] [(.int (3 : Int32)), (.ref b41), (.ref b41)])
            refine Go.of (fun t k => XS.iload X44.here hx rfl (hb hby at_195) rfl  k) ?_
            show Go p e below Φ T44 (mkF m 197 #[.val (.int i0), .val (.long i1), .second, .val (.int (5 : Int32)), .val (.int x14), .val (.int x23), .val (.int x32), .val (.int x41), .val (.int x50), .val (.int x59), .unset, .unset, .unset] [(.int x50), (.int (3 : Int32)), (.ref b41), (.ref b41)])
            obtain ⟨cl197, Ar197, q197, S197, N197, H197, G197⟩ := id V_b41
            have hin197 : ¬ ((3 : Int32) < 0 ∨ cl197.slots.size ≤ ((3 : Int32)).toNatClampNeg) := inb_of S197 ⟨by decide, by decide⟩
            obtain ⟨T45, h45, X45, e45, W45, st45⟩ := stB X44 hx hZ e44 Ar197 (j := (3 : Int32)) hin197 (g := (mkF m 197 #[.val (.int i0), .val (.long i1), .second, .val (.int (5 : Int32)), .val (.int x14), .val (.int x23), .val (.int x32), .val (.int x41), .val (.int x50), .val (.int x59), .unset, .unset, .unset] [(.int x50), (.int (3 : Int32)), (.ref b41), (.ref b41)])) rfl rfl (hb hby at_197)
            have V_b41 : Arv Z h45 b41 k41 .byte (5 : Int32) [(.int (nar .byte x23)), (.int (nar .byte x32)), (.int (nar .byte x41)), (.int (nar .byte x50)), (.int (0 : Int32))] (.int (0 : Int32)) := Arv.set Ar197 q197 S197 N197 H197 G197 (fits_nar_byte _) W45 3 rfl (Nat.le_of_ble_eq_true rfl)
            have N45 := Fr.snoc X45 N44 g_b41
            have Z45 := Nat.le_trans Z44 (Keep.of_wr W45).1
            obtain ⟨lc45, X45, N45⟩ : ∃ lc, Stand p l e room_1 s m #[(.int i0), (.long i1)] below meth c T45 lc 1 5 ∧ Fr n0 lc := ⟨_, X45, N45⟩
            refine Go.of st45 ?_
            show Go p e below Φ T45 (mkF m 198 #[.val (.int i0), .val (.long i1), .second, .val (.int (5 : Int32)), .val (.int x14), .val (.int x23), .val (.int x32), .val (.int x41), .val (.int x50), .val (.int x59), .unset, .unset, .unset] [(.ref b41)])
            refine Go.of (fun t k => XS.dup X45.here hx rfl (hb hby at_198) rfl rfl k) ?_
            show Go p e below Φ T45 (mkF m 199 #[.val (.int i0), .val (.long i1), .second, .val (.int (5 : Int32)), .val (.int x14), .val (.int x23), .val (.int x32), .val (.int x41), .val (.int x50), .val (.int x59), .unset, .unset, .unset] [(.ref b41), (.ref b41)])
            refine Go.of (fun t k => XS.iconst X45.here hx rfl (hb hby at_199) k) ?_
            show Go p e below Φ T45 (mkF m 200 #[.val (.int i0), .val (.long i1), .second, .val (.int (5 : Int32)), .val (.int x14), .val (.int x23), .val (.int x32), .val (.int x41), .val (.int x50), .val (.int x59), .unset, .unset, .unset] [(.int (4 : Int32)), (.ref b41), (.ref b41)])
            refine Go.of (fun t k => XS.iload X45.here hx rfl (hb hby at_200) rfl  k) ?_
            show Go p e below Φ T45 (mkF m 202 #[.val (.int i0), .val (.long i1), .second, .val (.int (5 : Int32)), .val (.int x14), .val (.int x23), .val (.int x32), .val (.int x41), .val (.int x50), .val (.int x59), .unset, .unset, .unset] [(.int x59), (.int (4 : Int32)), (.ref b41), (.ref b41)])
            obtain ⟨cl202, Ar202, q202, S202, N202, H202, G202⟩ := id V_b41
            have hin202 : ¬ ((4 : Int32) < 0 ∨ cl202.slots.size ≤ ((4 : Int32)).toNatClampNeg) := inb_of S202 ⟨by decide, by decide⟩
            obtain ⟨T46, h46, X46, e46, W46, st46⟩ := stB X45 hx hZ e45 Ar202 (j := (4 : Int32)) hin202 (g := (mkF m 202 #[.val (.int i0), .val (.long i1), .second, .val (.int (5 : Int32)), .val (.int x14), .val (.int x23), .val (.int x32), .val (.int x41), .val (.int x50), .val (.int x59), .unset, .unset, .unset] [(.int x59), (.int (4 : Int32)), (.ref b41), (.ref b41)])) rfl rfl (hb hby at_202)
            have V_b41 : Arv Z h46 b41 k41 .byte (5 : Int32) [(.int (nar .byte x23)), (.int (nar .byte x32)), (.int (nar .byte x41)), (.int (nar .byte x50)), (.int (nar .byte x59))] (.int (0 : Int32)) := Arv.set Ar202 q202 S202 N202 H202 G202 (fits_nar_byte _) W46 4 rfl (Nat.le_of_ble_eq_true rfl)
            have N46 := Fr.snoc X46 N45 g_b41
            have Z46 := Nat.le_trans Z45 (Keep.of_wr W46).1
            obtain ⟨lc46, X46, N46⟩ : ∃ lc, Stand p l e room_1 s m #[(.int i0), (.long i1)] below meth c T46 lc 1 5 ∧ Fr n0 lc := ⟨_, X46, N46⟩
            refine Go.of st46 ?_
            show Go p e below Φ T46 (mkF m 203 #[.val (.int i0), .val (.long i1), .second, .val (.int (5 : Int32)), .val (.int x14), .val (.int x23), .val (.int x32), .val (.int x41), .val (.int x50), .val (.int x59), .unset, .unset, .unset] [(.ref b41)])
            refine Go.of (fun t k => XS.astore X46.here hx rfl (hb hby at_203) rfl rfl (l' := #[.val (.int i0), .val (.long i1), .second, .val (.int (5 : Int32)), .val (.int x14), .val (.int x23), .val (.int x32), .val (.int x41), .val (.int x50), .val (.int x59), .val (.ref b41), .unset, .unset]) rfl k) ?_
            show Go p e below Φ T46 (mkF m 205 #[.val (.int i0), .val (.long i1), .second, .val (.int (5 : Int32)), .val (.int x14), .val (.int x23), .val (.int x32), .val (.int x41), .val (.int x50), .val (.int x59), .val (.ref b41), .unset, .unset] [])
            refine Go.of (fun t k => XS.iloadN X46.here hx rfl (hb hby at_205) rfl  k) ?_
            show Go p e below Φ T46 (mkF m 206 #[.val (.int i0), .val (.long i1), .second, .val (.int (5 : Int32)), .val (.int x14), .val (.int x23), .val (.int x32), .val (.int x41), .val (.int x50), .val (.int x59), .val (.ref b41), .unset, .unset] [(.int (5 : Int32))])
            suffices j259_47 :  ∀ v259 : Int32, v259 = (if x23 = (0 : Int32) then (1 : Int32) else (if x32 = (0 : Int32) then (1 : Int32) else (if x41 = (0 : Int32) then (1 : Int32) else (if x50 = (0 : Int32) then (1 : Int32) else (if x59 = (0 : Int32) then (1 : Int32) else (0 : Int32)))))) → Go p e below Φ T46 (mkF m 259 #[.val (.int i0), .val (.long i1), .second, .val (.int (5 : Int32)), .val (.int x14), .val (.int x23), .val (.int x32), .val (.int x41), .val (.int x50), .val (.int x59), .val (.ref b41), .unset, .unset] [(.int v259)]) by
              refine Go.of (fun t k => XS.ifNo X46.here hx rfl (hb hby at_206) rfl (XT.i0_le_f (by decide)) k) ?_
              show Go p e below Φ T46 (mkF m 209 #[.val (.int i0), .val (.long i1), .second, .val (.int (5 : Int32)), .val (.int x14), .val (.int x23), .val (.int x32), .val (.int x41), .val (.int x50), .val (.int x59), .val (.ref b41), .unset, .unset] [])
              refine Go.of (fun t k => XS.iload X46.here hx rfl (hb hby at_209) rfl  k) ?_
              show Go p e below Φ T46 (mkF m 211 #[.val (.int i0), .val (.long i1), .second, .val (.int (5 : Int32)), .val (.int x14), .val (.int x23), .val (.int x32), .val (.int x41), .val (.int x50), .val (.int x59), .val (.ref b41), .unset, .unset] [(.int x23)])
              by_cases hc211 : x23 = (0 : Int32)
              · refine Go.of (fun t k => XS.ifYes X46.here hx rfl (pc0 := 211) (pc' := 254) rfl (hb hby at_211) rfl (XT.i0_eq_t hc211) (by decide) (by decide) k) ?_
                show Go p e below Φ T46 (mkF m 254 #[.val (.int i0), .val (.long i1), .second, .val (.int (5 : Int32)), .val (.int x14), .val (.int x23), .val (.int x32), .val (.int x41), .val (.int x50), .val (.int x59), .val (.ref b41), .unset, .unset] [])
                refine Go.of (fun t k => XS.iconst X46.here hx rfl (hb hby at_254) k) ?_
                show Go p e below Φ T46 (mkF m 255 #[.val (.int i0), .val (.long i1), .second, .val (.int (5 : Int32)), .val (.int x14), .val (.int x23), .val (.int x32), .val (.int x41), .val (.int x50), .val (.int x59), .val (.ref b41), .unset, .unset] [(.int (1 : Int32))])
                refine Go.of (fun t k => XS.goto X46.here hx rfl (pc0 := 255) (pc' := 259) rfl (hb hby at_255) (by decide) (by decide) k) ?_
                show Go p e below Φ T46 (mkF m 259 #[.val (.int i0), .val (.long i1), .second, .val (.int (5 : Int32)), .val (.int x14), .val (.int x23), .val (.int x32), .val (.int x41), .val (.int x50), .val (.int x59), .val (.ref b41), .unset, .unset] [(.int (1 : Int32))])
                exact j259_47 _ (by rw [if_pos hc211])
              · refine Go.of (fun t k => XS.ifNo X46.here hx rfl (hb hby at_211) rfl (XT.i0_eq_f hc211) k) ?_
                show Go p e below Φ T46 (mkF m 214 #[.val (.int i0), .val (.long i1), .second, .val (.int (5 : Int32)), .val (.int x14), .val (.int x23), .val (.int x32), .val (.int x41), .val (.int x50), .val (.int x59), .val (.ref b41), .unset, .unset] [])
                refine Go.of (fun t k => XS.iloadN X46.here hx rfl (hb hby at_214) rfl  k) ?_
                show Go p e below Φ T46 (mkF m 215 #[.val (.int i0), .val (.long i1), .second, .val (.int (5 : Int32)), .val (.int x14), .val (.int x23), .val (.int x32), .val (.int x41), .val (.int x50), .val (.int x59), .val (.ref b41), .unset, .unset] [(.int (5 : Int32))])
                refine Go.of (fun t k => XS.iconst X46.here hx rfl (hb hby at_215) k) ?_
                show Go p e below Φ T46 (mkF m 216 #[.val (.int i0), .val (.long i1), .second, .val (.int (5 : Int32)), .val (.int x14), .val (.int x23), .val (.int x32), .val (.int x41), .val (.int x50), .val (.int x59), .val (.ref b41), .unset, .unset] [(.int (1 : Int32)), (.int (5 : Int32))])
                refine Go.of (fun t k => XS.icmpNo X46.here hx rfl (hb hby at_216) rfl (XT.ii_le_f (by decide)) k) ?_
                show Go p e below Φ T46 (mkF m 219 #[.val (.int i0), .val (.long i1), .second, .val (.int (5 : Int32)), .val (.int x14), .val (.int x23), .val (.int x32), .val (.int x41), .val (.int x50), .val (.int x59), .val (.ref b41), .unset, .unset] [])
                refine Go.of (fun t k => XS.iload X46.here hx rfl (hb hby at_219) rfl  k) ?_
                show Go p e below Φ T46 (mkF m 221 #[.val (.int i0), .val (.long i1), .second, .val (.int (5 : Int32)), .val (.int x14), .val (.int x23), .val (.int x32), .val (.int x41), .val (.int x50), .val (.int x59), .val (.ref b41), .unset, .unset] [(.int x32)])
                by_cases hc221 : x32 = (0 : Int32)
                · refine Go.of (fun t k => XS.ifYes X46.here hx rfl (pc0 := 221) (pc' := 254) rfl (hb hby at_221) rfl (XT.i0_eq_t hc221) (by decide) (by decide) k) ?_
                  show Go p e below Φ T46 (mkF m 254 #[.val (.int i0), .val (.long i1), .second, .val (.int (5 : Int32)), .val (.int x14), .val (.int x23), .val (.int x32), .val (.int x41), .val (.int x50), .val (.int x59), .val (.ref b41), .unset, .unset] [])
                  refine Go.of (fun t k => XS.iconst X46.here hx rfl (hb hby at_254) k) ?_
                  show Go p e below Φ T46 (mkF m 255 #[.val (.int i0), .val (.long i1), .second, .val (.int (5 : Int32)), .val (.int x14), .val (.int x23), .val (.int x32), .val (.int x41), .val (.int x50), .val (.int x59), .val (.ref b41), .unset, .unset] [(.int (1 : Int32))])
                  refine Go.of (fun t k => XS.goto X46.here hx rfl (pc0 := 255) (pc' := 259) rfl (hb hby at_255) (by decide) (by decide) k) ?_
                  show Go p e below Φ T46 (mkF m 259 #[.val (.int i0), .val (.long i1), .second, .val (.int (5 : Int32)), .val (.int x14), .val (.int x23), .val (.int x32), .val (.int x41), .val (.int x50), .val (.int x59), .val (.ref b41), .unset, .unset] [(.int (1 : Int32))])
                  exact j259_47 _ (by rw [if_neg hc211, if_pos hc221])
                · refine Go.of (fun t k => XS.ifNo X46.here hx rfl (hb hby at_221) rfl (XT.i0_eq_f hc221) k) ?_
                  show Go p e below Φ T46 (mkF m 224 #[.val (.int i0), .val (.long i1), .second, .val (.int (5 : Int32)), .val (.int x14), .val (.int x23), .val (.int x32), .val (.int x41), .val (.int x50), .val (.int x59), .val (.ref b41), .unset, .unset] [])
                  refine Go.of (fun t k => XS.iloadN X46.here hx rfl (hb hby at_224) rfl  k) ?_
                  show Go p e below Φ T46 (mkF m 225 #[.val (.int i0), .val (.long i1), .second, .val (.int (5 : Int32)), .val (.int x14), .val (.int x23), .val (.int x32), .val (.int x41), .val (.int x50), .val (.int x59), .val (.ref b41), .unset, .unset] [(.int (5 : Int32))])
                  refine Go.of (fun t k => XS.iconst X46.here hx rfl (hb hby at_225) k) ?_
                  show Go p e below Φ T46 (mkF m 226 #[.val (.int i0), .val (.long i1), .second, .val (.int (5 : Int32)), .val (.int x14), .val (.int x23), .val (.int x32), .val (.int x41), .val (.int x50), .val (.int x59), .val (.ref b41), .unset, .unset] [(.int (2 : Int32)), (.int (5 : Int32))])
                  refine Go.of (fun t k => XS.icmpNo X46.here hx rfl (hb hby at_226) rfl (XT.ii_le_f (by decide)) k) ?_
                  show Go p e below Φ T46 (mkF m 229 #[.val (.int i0), .val (.long i1), .second, .val (.int (5 : Int32)), .val (.int x14), .val (.int x23), .val (.int x32), .val (.int x41), .val (.int x50), .val (.int x59), .val (.ref b41), .unset, .unset] [])
                  refine Go.of (fun t k => XS.iload X46.here hx rfl (hb hby at_229) rfl  k) ?_
                  show Go p e below Φ T46 (mkF m 231 #[.val (.int i0), .val (.long i1), .second, .val (.int (5 : Int32)), .val (.int x14), .val (.int x23), .val (.int x32), .val (.int x41), .val (.int x50), .val (.int x59), .val (.ref b41), .unset, .unset] [(.int x41)])
                  by_cases hc231 : x41 = (0 : Int32)
                  · refine Go.of (fun t k => XS.ifYes X46.here hx rfl (pc0 := 231) (pc' := 254) rfl (hb hby at_231) rfl (XT.i0_eq_t hc231) (by decide) (by decide) k) ?_
                    show Go p e below Φ T46 (mkF m 254 #[.val (.int i0), .val (.long i1), .second, .val (.int (5 : Int32)), .val (.int x14), .val (.int x23), .val (.int x32), .val (.int x41), .val (.int x50), .val (.int x59), .val (.ref b41), .unset, .unset] [])
                    refine Go.of (fun t k => XS.iconst X46.here hx rfl (hb hby at_254) k) ?_
                    show Go p e below Φ T46 (mkF m 255 #[.val (.int i0), .val (.long i1), .second, .val (.int (5 : Int32)), .val (.int x14), .val (.int x23), .val (.int x32), .val (.int x41), .val (.int x50), .val (.int x59), .val (.ref b41), .unset, .unset] [(.int (1 : Int32))])
                    refine Go.of (fun t k => XS.goto X46.here hx rfl (pc0 := 255) (pc' := 259) rfl (hb hby at_255) (by decide) (by decide) k) ?_
                    show Go p e below Φ T46 (mkF m 259 #[.val (.int i0), .val (.long i1), .second, .val (.int (5 : Int32)), .val (.int x14), .val (.int x23), .val (.int x32), .val (.int x41), .val (.int x50), .val (.int x59), .val (.ref b41), .unset, .unset] [(.int (1 : Int32))])
                    exact j259_47 _ (by rw [if_neg hc211, if_neg hc221, if_pos hc231])
                  · refine Go.of (fun t k => XS.ifNo X46.here hx rfl (hb hby at_231) rfl (XT.i0_eq_f hc231) k) ?_
                    show Go p e below Φ T46 (mkF m 234 #[.val (.int i0), .val (.long i1), .second, .val (.int (5 : Int32)), .val (.int x14), .val (.int x23), .val (.int x32), .val (.int x41), .val (.int x50), .val (.int x59), .val (.ref b41), .unset, .unset] [])
                    refine Go.of (fun t k => XS.iloadN X46.here hx rfl (hb hby at_234) rfl  k) ?_
                    show Go p e below Φ T46 (mkF m 235 #[.val (.int i0), .val (.long i1), .second, .val (.int (5 : Int32)), .val (.int x14), .val (.int x23), .val (.int x32), .val (.int x41), .val (.int x50), .val (.int x59), .val (.ref b41), .unset, .unset] [(.int (5 : Int32))])
                    refine Go.of (fun t k => XS.iconst X46.here hx rfl (hb hby at_235) k) ?_
                    show Go p e below Φ T46 (mkF m 236 #[.val (.int i0), .val (.long i1), .second, .val (.int (5 : Int32)), .val (.int x14), .val (.int x23), .val (.int x32), .val (.int x41), .val (.int x50), .val (.int x59), .val (.ref b41), .unset, .unset] [(.int (3 : Int32)), (.int (5 : Int32))])
                    refine Go.of (fun t k => XS.icmpNo X46.here hx rfl (hb hby at_236) rfl (XT.ii_le_f (by decide)) k) ?_
                    show Go p e below Φ T46 (mkF m 239 #[.val (.int i0), .val (.long i1), .second, .val (.int (5 : Int32)), .val (.int x14), .val (.int x23), .val (.int x32), .val (.int x41), .val (.int x50), .val (.int x59), .val (.ref b41), .unset, .unset] [])
                    refine Go.of (fun t k => XS.iload X46.here hx rfl (hb hby at_239) rfl  k) ?_
                    show Go p e below Φ T46 (mkF m 241 #[.val (.int i0), .val (.long i1), .second, .val (.int (5 : Int32)), .val (.int x14), .val (.int x23), .val (.int x32), .val (.int x41), .val (.int x50), .val (.int x59), .val (.ref b41), .unset, .unset] [(.int x50)])
                    by_cases hc241 : x50 = (0 : Int32)
                    · refine Go.of (fun t k => XS.ifYes X46.here hx rfl (pc0 := 241) (pc' := 254) rfl (hb hby at_241) rfl (XT.i0_eq_t hc241) (by decide) (by decide) k) ?_
                      show Go p e below Φ T46 (mkF m 254 #[.val (.int i0), .val (.long i1), .second, .val (.int (5 : Int32)), .val (.int x14), .val (.int x23), .val (.int x32), .val (.int x41), .val (.int x50), .val (.int x59), .val (.ref b41), .unset, .unset] [])
                      refine Go.of (fun t k => XS.iconst X46.here hx rfl (hb hby at_254) k) ?_
                      show Go p e below Φ T46 (mkF m 255 #[.val (.int i0), .val (.long i1), .second, .val (.int (5 : Int32)), .val (.int x14), .val (.int x23), .val (.int x32), .val (.int x41), .val (.int x50), .val (.int x59), .val (.ref b41), .unset, .unset] [(.int (1 : Int32))])
                      refine Go.of (fun t k => XS.goto X46.here hx rfl (pc0 := 255) (pc' := 259) rfl (hb hby at_255) (by decide) (by decide) k) ?_
                      show Go p e below Φ T46 (mkF m 259 #[.val (.int i0), .val (.long i1), .second, .val (.int (5 : Int32)), .val (.int x14), .val (.int x23), .val (.int x32), .val (.int x41), .val (.int x50), .val (.int x59), .val (.ref b41), .unset, .unset] [(.int (1 : Int32))])
                      exact j259_47 _ (by rw [if_neg hc211, if_neg hc221, if_neg hc231, if_pos hc241])
                    · refine Go.of (fun t k => XS.ifNo X46.here hx rfl (hb hby at_241) rfl (XT.i0_eq_f hc241) k) ?_
                      show Go p e below Φ T46 (mkF m 244 #[.val (.int i0), .val (.long i1), .second, .val (.int (5 : Int32)), .val (.int x14), .val (.int x23), .val (.int x32), .val (.int x41), .val (.int x50), .val (.int x59), .val (.ref b41), .unset, .unset] [])
                      refine Go.of (fun t k => XS.iloadN X46.here hx rfl (hb hby at_244) rfl  k) ?_
                      show Go p e below Φ T46 (mkF m 245 #[.val (.int i0), .val (.long i1), .second, .val (.int (5 : Int32)), .val (.int x14), .val (.int x23), .val (.int x32), .val (.int x41), .val (.int x50), .val (.int x59), .val (.ref b41), .unset, .unset] [(.int (5 : Int32))])
                      refine Go.of (fun t k => XS.iconst X46.here hx rfl (hb hby at_245) k) ?_
                      show Go p e below Φ T46 (mkF m 246 #[.val (.int i0), .val (.long i1), .second, .val (.int (5 : Int32)), .val (.int x14), .val (.int x23), .val (.int x32), .val (.int x41), .val (.int x50), .val (.int x59), .val (.ref b41), .unset, .unset] [(.int (4 : Int32)), (.int (5 : Int32))])
                      refine Go.of (fun t k => XS.icmpNo X46.here hx rfl (hb hby at_246) rfl (XT.ii_le_f (by decide)) k) ?_
                      show Go p e below Φ T46 (mkF m 249 #[.val (.int i0), .val (.long i1), .second, .val (.int (5 : Int32)), .val (.int x14), .val (.int x23), .val (.int x32), .val (.int x41), .val (.int x50), .val (.int x59), .val (.ref b41), .unset, .unset] [])
                      refine Go.of (fun t k => XS.iload X46.here hx rfl (hb hby at_249) rfl  k) ?_
                      show Go p e below Φ T46 (mkF m 251 #[.val (.int i0), .val (.long i1), .second, .val (.int (5 : Int32)), .val (.int x14), .val (.int x23), .val (.int x32), .val (.int x41), .val (.int x50), .val (.int x59), .val (.ref b41), .unset, .unset] [(.int x59)])
                      by_cases hc251 : x59 = (0 : Int32)
                      · refine Go.of (fun t k => XS.ifNo X46.here hx rfl (hb hby at_251) rfl (XT.i0_ne_f hc251) k) ?_
                        show Go p e below Φ T46 (mkF m 254 #[.val (.int i0), .val (.long i1), .second, .val (.int (5 : Int32)), .val (.int x14), .val (.int x23), .val (.int x32), .val (.int x41), .val (.int x50), .val (.int x59), .val (.ref b41), .unset, .unset] [])
                        refine Go.of (fun t k => XS.iconst X46.here hx rfl (hb hby at_254) k) ?_
                        show Go p e below Φ T46 (mkF m 255 #[.val (.int i0), .val (.long i1), .second, .val (.int (5 : Int32)), .val (.int x14), .val (.int x23), .val (.int x32), .val (.int x41), .val (.int x50), .val (.int x59), .val (.ref b41), .unset, .unset] [(.int (1 : Int32))])
                        refine Go.of (fun t k => XS.goto X46.here hx rfl (pc0 := 255) (pc' := 259) rfl (hb hby at_255) (by decide) (by decide) k) ?_
                        show Go p e below Φ T46 (mkF m 259 #[.val (.int i0), .val (.long i1), .second, .val (.int (5 : Int32)), .val (.int x14), .val (.int x23), .val (.int x32), .val (.int x41), .val (.int x50), .val (.int x59), .val (.ref b41), .unset, .unset] [(.int (1 : Int32))])
                        exact j259_47 _ (by rw [if_neg hc211, if_neg hc221, if_neg hc231, if_neg hc241, if_pos hc251])
                      · refine Go.of (fun t k => XS.ifYes X46.here hx rfl (pc0 := 251) (pc' := 258) rfl (hb hby at_251) rfl (XT.i0_ne_t hc251) (by decide) (by decide) k) ?_
                        show Go p e below Φ T46 (mkF m 258 #[.val (.int i0), .val (.long i1), .second, .val (.int (5 : Int32)), .val (.int x14), .val (.int x23), .val (.int x32), .val (.int x41), .val (.int x50), .val (.int x59), .val (.ref b41), .unset, .unset] [])
                        refine Go.of (fun t k => XS.iconst X46.here hx rfl (hb hby at_258) k) ?_
                        show Go p e below Φ T46 (mkF m 259 #[.val (.int i0), .val (.long i1), .second, .val (.int (5 : Int32)), .val (.int x14), .val (.int x23), .val (.int x32), .val (.int x41), .val (.int x50), .val (.int x59), .val (.ref b41), .unset, .unset] [(.int (0 : Int32))])
                        exact j259_47 _ (by rw [if_neg hc211, if_neg hc221, if_neg hc231, if_neg hc241, if_neg hc251])
            intro v259 hv259
            show Go p e below Φ T46 (mkF m 259 #[.val (.int i0), .val (.long i1), .second, .val (.int (5 : Int32)), .val (.int x14), .val (.int x23), .val (.int x32), .val (.int x41), .val (.int x50), .val (.int x59), .val (.ref b41), .unset, .unset] [(.int v259)])
            refine Go.of (fun t k => XS.istore X46.here hx rfl (hb hby at_259) rfl (l' := #[.val (.int i0), .val (.long i1), .second, .val (.int (5 : Int32)), .val (.int x14), .val (.int x23), .val (.int x32), .val (.int x41), .val (.int x50), .val (.int x59), .val (.ref b41), .val (.int v259), .unset]) rfl k) ?_
            show Go p e below Φ T46 (mkF m 261 #[.val (.int i0), .val (.long i1), .second, .val (.int (5 : Int32)), .val (.int x14), .val (.int x23), .val (.int x32), .val (.int x41), .val (.int x50), .val (.int x59), .val (.ref b41), .val (.int v259), .unset] [])
            refine Go.of (fun t k => XS.iload X46.here hx rfl (hb hby at_261) rfl  k) ?_
            show Go p e below Φ T46 (mkF m 263 #[.val (.int i0), .val (.long i1), .second, .val (.int (5 : Int32)), .val (.int x14), .val (.int x23), .val (.int x32), .val (.int x41), .val (.int x50), .val (.int x59), .val (.ref b41), .val (.int v259), .unset] [(.int v259)])
            suffices j271_48 :  ∀ v271 : Int32, v271 = (if v259 = (0 : Int32) then (1 : Int32) else (0 : Int32)) → Go p e below Φ T46 (mkF m 271 #[.val (.int i0), .val (.long i1), .second, .val (.int (5 : Int32)), .val (.int x14), .val (.int x23), .val (.int x32), .val (.int x41), .val (.int x50), .val (.int x59), .val (.ref b41), .val (.int v259), .unset] [(.int v271)]) by
              by_cases hc263 : v259 = (0 : Int32)
              · refine Go.of (fun t k => XS.ifNo X46.here hx rfl (hb hby at_263) rfl (XT.i0_ne_f hc263) k) ?_
                show Go p e below Φ T46 (mkF m 266 #[.val (.int i0), .val (.long i1), .second, .val (.int (5 : Int32)), .val (.int x14), .val (.int x23), .val (.int x32), .val (.int x41), .val (.int x50), .val (.int x59), .val (.ref b41), .val (.int v259), .unset] [])
                refine Go.of (fun t k => XS.iconst X46.here hx rfl (hb hby at_266) k) ?_
                show Go p e below Φ T46 (mkF m 267 #[.val (.int i0), .val (.long i1), .second, .val (.int (5 : Int32)), .val (.int x14), .val (.int x23), .val (.int x32), .val (.int x41), .val (.int x50), .val (.int x59), .val (.ref b41), .val (.int v259), .unset] [(.int (1 : Int32))])
                refine Go.of (fun t k => XS.goto X46.here hx rfl (pc0 := 267) (pc' := 271) rfl (hb hby at_267) (by decide) (by decide) k) ?_
                show Go p e below Φ T46 (mkF m 271 #[.val (.int i0), .val (.long i1), .second, .val (.int (5 : Int32)), .val (.int x14), .val (.int x23), .val (.int x32), .val (.int x41), .val (.int x50), .val (.int x59), .val (.ref b41), .val (.int v259), .unset] [(.int (1 : Int32))])
                exact j271_48 _ (by rw [if_pos hc263])
              · refine Go.of (fun t k => XS.ifYes X46.here hx rfl (pc0 := 263) (pc' := 270) rfl (hb hby at_263) rfl (XT.i0_ne_t hc263) (by decide) (by decide) k) ?_
                show Go p e below Φ T46 (mkF m 270 #[.val (.int i0), .val (.long i1), .second, .val (.int (5 : Int32)), .val (.int x14), .val (.int x23), .val (.int x32), .val (.int x41), .val (.int x50), .val (.int x59), .val (.ref b41), .val (.int v259), .unset] [])
                refine Go.of (fun t k => XS.iconst X46.here hx rfl (hb hby at_270) k) ?_
                show Go p e below Φ T46 (mkF m 271 #[.val (.int i0), .val (.long i1), .second, .val (.int (5 : Int32)), .val (.int x14), .val (.int x23), .val (.int x32), .val (.int x41), .val (.int x50), .val (.int x59), .val (.ref b41), .val (.int v259), .unset] [(.int (0 : Int32))])
                exact j271_48 _ (by rw [if_neg hc263])
            intro v271 hv271
            show Go p e below Φ T46 (mkF m 271 #[.val (.int i0), .val (.long i1), .second, .val (.int (5 : Int32)), .val (.int x14), .val (.int x23), .val (.int x32), .val (.int x41), .val (.int x50), .val (.int x59), .val (.ref b41), .val (.int v259), .unset] [(.int v271)])
            refine Go.of (fun t k => XS.istore X46.here hx rfl (hb hby at_271) rfl (l' := #[.val (.int i0), .val (.long i1), .second, .val (.int (5 : Int32)), .val (.int x14), .val (.int x23), .val (.int x32), .val (.int x41), .val (.int x50), .val (.int x59), .val (.ref b41), .val (.int v259), .val (.int v271)]) rfl k) ?_
            show Go p e below Φ T46 (mkF m 273 #[.val (.int i0), .val (.long i1), .second, .val (.int (5 : Int32)), .val (.int x14), .val (.int x23), .val (.int x32), .val (.int x41), .val (.int x50), .val (.int x59), .val (.ref b41), .val (.int v259), .val (.int v271)] [])
            refine Go.of (fun t k => XS.aload X46.here hx rfl (hb hby at_273) rfl rfl  k) ?_
            show Go p e below Φ T46 (mkF m 275 #[.val (.int i0), .val (.long i1), .second, .val (.int (5 : Int32)), .val (.int x14), .val (.int x23), .val (.int x32), .val (.int x41), .val (.int x50), .val (.int x59), .val (.ref b41), .val (.int v259), .val (.int v271)] [(.ref b41)])
            obtain ⟨_, _, ⟨T49, L49, k49, n49⟩, -, X49, ⟨Lc49, hQ49, l49, y49, z49⟩, st49⟩ := Jvm.LawKit.callS X46 hx (y := (⟨"com/example/dozynki/dozynki/StoreLayout", "definesSet", "([B)Z"⟩ : MethodName)) hown (mvT hZ (hw _ (List.mem_of_getElem? (i := 5) rfl))) (mvT hZ (hw _ (List.mem_of_getElem? (i := 6) rfl))) (mvT hZ (hw _ (List.mem_of_getElem? (i := 7) rfl))) (mvT hZ (hw _ (List.mem_of_getElem? (i := 8) rfl))) (by decide) (backOf (W := 0) (rm2 l Z a0 hw [] b41 k41 (5 : Int32) [(nar .byte x23), (nar .byte x32), (nar .byte x41), (nar .byte x50), (nar .byte x59)] h46 n0 Z46 V_b41 rfl (Nat.le_of_ble_eq_true rfl)) hZ (hw _ (List.mem_of_getElem? (i := 8) rfl)) (hw _ (List.mem_of_getElem? (i := 7) rfl)) (by decide) (by decide)) (g := (mkF m 275 #[.val (.int i0), .val (.long i1), .second, .val (.int (5 : Int32)), .val (.int x14), .val (.int x23), .val (.int x32), .val (.int x41), .val (.int x50), .val (.int x59), .val (.ref b41), .val (.int v259), .val (.int v271)] [(.ref b41)])) rfl (by rw [hml]; rfl) (argsL := [(.ref b41)]) (rest := []) (lenOf own_pd2 rfl) rfl (by show 2 * 0 + _ ≤ _; exact Nat.le_of_eq rfl) (hb hby at_275) (fun _ _ => ⟨rfl, e46, (by decide : 1 + 0 ≤ _), (by decide : 5 + 0 ≤ _)⟩)
            dsimp only [Pt.U, Pt.locs, Pt.cells, Pt.slots] at X49 l49 y49 z49 st49 hQ49
            subst l49 y49 z49
            obtain ⟨rfl, N49q, e49q⟩ := hQ49
            have N49 := Fr.app N46 N49q
            obtain ⟨lc49, X49, N49⟩ : ∃ lc, Stand p l e room_1 s m #[(.int i0), (.long i1)] below meth c T49 lc 1 5 ∧ Fr n0 lc := ⟨_, X49, N49⟩
            refine Go.of st49 ?_
            show Go p e below Φ T49 (mkF m 278 #[.val (.int i0), .val (.long i1), .second, .val (.int (5 : Int32)), .val (.int x14), .val (.int x23), .val (.int x32), .val (.int x41), .val (.int x50), .val (.int x59), .val (.ref b41), .val (.int v259), .val (.int v271)] [(.int (own_defs (5 : Int32) [(nar .byte x23), (nar .byte x32), (nar .byte x41), (nar .byte x50), (nar .byte x59)]))])
            refine Go.of (fun t k => XS.iload X49.here hx rfl (hb hby at_278) rfl  k) ?_
            show Go p e below Φ T49 (mkF m 280 #[.val (.int i0), .val (.long i1), .second, .val (.int (5 : Int32)), .val (.int x14), .val (.int x23), .val (.int x32), .val (.int x41), .val (.int x50), .val (.int x59), .val (.ref b41), .val (.int v259), .val (.int v271)] [(.int v271), (.int (own_defs (5 : Int32) [(nar .byte x23), (nar .byte x32), (nar .byte x41), (nar .byte x50), (nar .byte x59)]))])
            suffices j288_50 :  ∀ v288 : Int32, v288 = (if (own_defs (5 : Int32) [(nar .byte x23), (nar .byte x32), (nar .byte x41), (nar .byte x50), (nar .byte x59)]) = v271 then (1 : Int32) else (0 : Int32)) → Go p e below Φ T49 (mkF m 288 #[.val (.int i0), .val (.long i1), .second, .val (.int (5 : Int32)), .val (.int x14), .val (.int x23), .val (.int x32), .val (.int x41), .val (.int x50), .val (.int x59), .val (.ref b41), .val (.int v259), .val (.int v271)] [(.int v288)]) by
              by_cases hc280 : (own_defs (5 : Int32) [(nar .byte x23), (nar .byte x32), (nar .byte x41), (nar .byte x50), (nar .byte x59)]) = v271
              · refine Go.of (fun t k => XS.icmpNo X49.here hx rfl (hb hby at_280) rfl (XT.ii_ne_f hc280) k) ?_
                show Go p e below Φ T49 (mkF m 283 #[.val (.int i0), .val (.long i1), .second, .val (.int (5 : Int32)), .val (.int x14), .val (.int x23), .val (.int x32), .val (.int x41), .val (.int x50), .val (.int x59), .val (.ref b41), .val (.int v259), .val (.int v271)] [])
                refine Go.of (fun t k => XS.iconst X49.here hx rfl (hb hby at_283) k) ?_
                show Go p e below Φ T49 (mkF m 284 #[.val (.int i0), .val (.long i1), .second, .val (.int (5 : Int32)), .val (.int x14), .val (.int x23), .val (.int x32), .val (.int x41), .val (.int x50), .val (.int x59), .val (.ref b41), .val (.int v259), .val (.int v271)] [(.int (1 : Int32))])
                refine Go.of (fun t k => XS.goto X49.here hx rfl (pc0 := 284) (pc' := 288) rfl (hb hby at_284) (by decide) (by decide) k) ?_
                show Go p e below Φ T49 (mkF m 288 #[.val (.int i0), .val (.long i1), .second, .val (.int (5 : Int32)), .val (.int x14), .val (.int x23), .val (.int x32), .val (.int x41), .val (.int x50), .val (.int x59), .val (.ref b41), .val (.int v259), .val (.int v271)] [(.int (1 : Int32))])
                exact j288_50 _ (by rw [if_pos hc280])
              · refine Go.of (fun t k => XS.icmpYes X49.here hx rfl (pc0 := 280) (pc' := 287) rfl (hb hby at_280) rfl (XT.ii_ne_t hc280) (by decide) (by decide) k) ?_
                show Go p e below Φ T49 (mkF m 287 #[.val (.int i0), .val (.long i1), .second, .val (.int (5 : Int32)), .val (.int x14), .val (.int x23), .val (.int x32), .val (.int x41), .val (.int x50), .val (.int x59), .val (.ref b41), .val (.int v259), .val (.int v271)] [])
                refine Go.of (fun t k => XS.iconst X49.here hx rfl (hb hby at_287) k) ?_
                show Go p e below Φ T49 (mkF m 288 #[.val (.int i0), .val (.long i1), .second, .val (.int (5 : Int32)), .val (.int x14), .val (.int x23), .val (.int x32), .val (.int x41), .val (.int x50), .val (.int x59), .val (.ref b41), .val (.int v259), .val (.int v271)] [(.int (0 : Int32))])
                exact j288_50 _ (by rw [if_neg hc280])
            intro v288 hv288
            show Go p e below Φ T49 (mkF m 288 #[.val (.int i0), .val (.long i1), .second, .val (.int (5 : Int32)), .val (.int x14), .val (.int x23), .val (.int x32), .val (.int x41), .val (.int x50), .val (.int x59), .val (.ref b41), .val (.int v259), .val (.int v271)] [(.int v288)])
            rw [hΦ]
            refine Go.ret X49 hx Bd.notSynchronized Bd.returns (own_one (own_plain6 i0 i1 x7 hx7 x14 hx14 x23 hx23 x32 hx32 x41 hx41 x50 hx50 x59 hx59 v259 hv259 v271 hv271 v288 hv288 hc62 hc75 hc93 hc116 hc144)) (Or.inl ⟨rfl, Or.inr (Or.inl rfl), _, rfl⟩) (hb hby at_288) (by decide) (by decide) ?_
            rw [(e49q)]
            exact ⟨congrArg (fun z => some (Value.int z)) (own_plain6 i0 i1 x7 hx7 x14 hx14 x23 hx23 x32 hx32 x41 hx41 x50 hx50 x59 hx59 v259 hv259 v271 hv271 v288 hv288 hc62 hc75 hc93 hc116 hc144), N49⟩
set_option maxRecDepth 65536 in
set_option maxHeartbeats 40000000 in
theorem comes_1 {Post : Tables → Env → Array Value → State → Outcome → State → Prop} (hpost : ∀ tb e args s v u, (limb_1_1.after args s (.returned v) u = true ∧ limb_1_2.after args s (.returned v) u = true ∧ True) → FrameEnd s (.returned v) u (Jvm.fieldLocs frame_1_writes args s ++ Jvm.arrayLocs frame_1_arrays args s ++ Jvm.staticLocs frame_1_statics s) 16 128 → Post tb e args s (.returned v) u) :
    ArmFor flags0 classFile x code maxLocals ret World_1 tables_1 room_1 Calls_1 rest_1 Pre_1 Post := by
  intro l hfl _ _ p e ha hc hk s m args below hf hA hF happ hP
  obtain ⟨hcalls, hrest, hpre⟩ := hP
  obtain ⟨-, -, -, hnamed, -, -, -, hat⟩ := (Spec.applies_iff hf).mp happ
  obtain ⟨hg, hn⟩ := and_e (Cond.before_iff.mp (show (Jvm.Cond.and given_1 narrow_1).before args s = true from hpre))
  obtain ⟨g1, g2⟩ := and_e hg
  obtain ⟨g3, g4⟩ := and_e g2
  obtain ⟨w0, w1, rfl⟩ : ∃ w0 w1 : Value, args = #[w0, w1] := by
    have hs : args.size = 2 := by simpa [Cond.value, given_1] using g1
    obtain ⟨L⟩ := args
    match L, hs with
    | [w0, w1], _ => exact ⟨w0, w1, rfl⟩
  have hw := fun d (hd : d ∈ tables_1) => atoms_spec (ws := Jvm.Cond.code x code maxLocals ret :: tables_1) hat d (List.mem_cons_of_mem _ hd)
  have hfit : Fit s := fun {y c} hc i hi => by
    obtain ⟨ha, rfl⟩ := Array.getElem?_eq_some_iff.mp hc
    have q := List.all_eq_true.mp ((Array.all_eq_true_iff_forall_mem.mp hF) _ (Array.getElem_mem ha)) i (List.mem_range.mpr hi)
    simpa [Array.getElem?_eq_getElem hi] using q
  obtain ⟨i0, ei0⟩ := is_v g3
  obtain rfl : w0 = (.int i0) := Option.some.inj ei0
  obtain ⟨i1, ei1⟩ := isL_v g4
  obtain rfl : w1 = (.long i1) := Option.some.inj ei1
  obtain ⟨n, o, h1, h2, h3, _, L, rfl, ⟨rfl, N⟩, hq⟩ := rm0 l s _ hw tables_1 i0 i1  s.heap s.heap.size (Nat.le_refl _)  p e ha hc hk s m _ below hf ((Spec.applies_iff_loose hf).mp happ).1 ⟨rfl, State.Warmed39.refl s, rfl⟩ trivial
  refine ⟨n, _, h1, h2, h3, hpost _ _ _ _ _ _ ⟨Cond.after_iff.mpr rfl, Cond.after_iff.mpr (eq_i res_at (Term.int_eval (1)) rfl), trivial⟩ ⟨hq.1, hq.2.1, (hq.2.2.sift fun y hy => Or.inr (N y hy)).mono (by decide) (by decide)⟩⟩
theorem main_1_1 : Claimed_1_1 := comes_1 fun _ _ _ _ _ _ h hF => ⟨h.1, hF⟩
theorem main_1_2 : Claimed_1_2 := comes_1 fun _ _ _ _ _ _ h hF => ⟨h.2.1, hF⟩
end Jvm.Pilot.@@N@@
namespace Jvm.Pilot.@@N@@
open Jvm Jvm.ClassFile Sem Op Lib Jvm.Free Jvm.Stand Jvm.Pilot.@@N@@.Jvm.D
/-! MADE BY PROGRAM (witnessworld.py) out of the Statement's table words and the real class files: 9 classes; the members and pool entries that the words name. The judged class is class 1, her method 2. -/
namespace start1
open Jvm.ClassFile
def u (s : String) : CpInfo := .utf8 (stringToUtf16 s)
/-- a pool by its gaps: so many unusable entries, then the entry; so many at the end -/
def gap : Nat → List CpInfo → List CpInfo
  | 0, r => r
  | n + 1, r => .unusable :: gap n r
def poolList (es : List (Nat × CpInfo)) (last : Nat) : List CpInfo := es.foldr (fun e r => gap e.1 (e.2 :: r)) (gap last [])
def pool (es : List (Nat × CpInfo)) (last : Nat) : Array CpInfo := ⟨poolList es last⟩
def fileOf (pool : Array CpInfo) (this : Nat) (attrs : Array Attribute := #[]) (ms : Array MethodInfo := #[]) (fl : Nat := 33) (sup : Nat := 0) (ifs : Array Nat := #[]) (fds : Array FieldInfo := #[]) : ClassFile where
  minorVersion := 0
  majorVersion := 65
  constantPool := pool
  accessFlags := fl
  thisClass := this
  superClass := sup
  interfaces := ifs
  fields := fds
  methods := ms
  attributes := attrs
def plain (name : String) (sup : Option ClassId) : Class where
  name := name
  kind := .ordinary
  loader := none
  accessFlags := 33
  super := sup
  interfaces := #[]
  cf := none
  fields := #[]
  methods := #[]
  instanceTypes := #[]
  staticTypes := #[]
  resolved := #[]
  callSites := []
  init := .initialized
  statics := none
  mirror := none

def pool0 : Array CpInfo := pool [(5, u "<init>"), (0, u "()V"), (1, .class_ 10), (1, u "java/lang/Object")] 113

def k0m0 : Method := { name := "<init>", desc := "()V", sig := { parameters := [], returnType := none }, accessFlags := 1, code := none }
/-- java/lang/Object -/
def k0 : Class := { plain "java/lang/Object" none with
  accessFlags := 33
  interfaces := #[]
  cf := some (fileOf pool0 8 #[] #[{ accessFlags := 1, nameIndex := 5, descriptorIndex := 6, attributes := #[] }] 33 0 #[] #[])
  fields := #[]
  methods := #[k0m0]
  instanceTypes := #[]
  staticTypes := #[]
  resolved := Array.replicate 124 none
  statics := none }

def pool1 : Array CpInfo := pool [(2, .class_ 4), (1, u "java/lang/Object"), (0, u "<init>"), (0, u "()V"), (0, .methodref 8 9), (0, .class_ 10), (0, .nameAndType 11 12), (0, u "com/example/dozynki/dozynki/StoreLayoutDefinesSetPinLaw"), (0, u "byteAt"), (0, u "(JII)B"), (0, .methodref 14 15), (0, .class_ 16), (0, .nameAndType 17 18), (0, u "com/example/dozynki/dozynki/StoreLayout"), (0, u "definesSet"), (0, u "([B)Z"), (3, u "law"), (0, u "(IJ)Z")] 4

def k1m0 : Method := { name := "<init>", desc := "()V", sig := { parameters := [], returnType := none }, accessFlags := 2, code := none }
def k1c1 : Code := { maxStack := 4, maxLocals := 4, code := method_2_code, exceptionTable := #[], attributes := #[] }
def k1m1 : Method := { name := "byteAt", desc := "(JII)B", sig := { parameters := [.long, .int, .int], returnType := some .byte }, accessFlags := 10, code := some k1c1 }
def k1c2 : Code := { maxStack := 4, maxLocals := 13, code := code, exceptionTable := #[], attributes := #[] }
def k1m2 : Method := { name := "law", desc := "(IJ)Z", sig := { parameters := [.int, .long], returnType := some .boolean }, accessFlags := 9, code := some k1c2 }
/-- com/example/dozynki/dozynki/StoreLayoutDefinesSetPinLaw -/
def k1 : Class := { plain "com/example/dozynki/dozynki/StoreLayoutDefinesSetPinLaw" (some 0) with
  accessFlags := 49
  interfaces := #[]
  cf := some (fileOf pool1 8 #[] #[{ accessFlags := 2, nameIndex := 5, descriptorIndex := 6, attributes := #[] }, { accessFlags := 10, nameIndex := 11, descriptorIndex := 12, attributes := #[] }, { accessFlags := 9, nameIndex := 22, descriptorIndex := 23, attributes := #[] }] 49 2 #[] #[])
  fields := #[]
  methods := #[k1m0, k1m1, k1m2]
  instanceTypes := #[]
  staticTypes := #[]
  resolved := Array.replicate 28 none
  statics := none }

def pool2 : Array CpInfo := pool [(4, .class_ 6), (1, u "java/lang/Object"), (0, u "<init>"), (0, u "()V"), (1, .class_ 12), (1, u "com/example/dozynki/dozynki/StoreLayout"), (56, .methodref 10 70), (0, .nameAndType 71 72), (0, u "setSpecEnd"), (0, u "([B)I"), (23, u "STAGED"), (0, u "[B"), (6, u "STAGED_END"), (83, .class_ 189), (0, u "com/example/dozynki/dozynki/StoreLayout$DamagedException"), (5, .class_ 197), (1, u "com/example/dozynki/dozynki/StoreLayout$RecordFields"), (4, u "I"), (125, u "LAYOUT_KEY"), (4, u "CREATED_KEY"), (4, u "LOAD_KEY"), (4, u "UPGRADED_KEY"), (4, u "ITEMS"), (4, u "DATESTAMPS"), (4, u "SETS"), (6, u "EMPTY"), (0, u "VERSION"), (0, u "Ljava/lang/String;"), (3, u "VERSION_1"), (2, u "VERSION_2"), (2, u "VERSION_UPGRADING"), (2, u "STAMP_BYTES"), (1, u "SET_END"), (0, u "B"), (1, u "DELETED"), (13, u "definesSet"), (0, u "([B)Z")] 76

def k2m0 : Method := { name := "<init>", desc := "()V", sig := { parameters := [], returnType := none }, accessFlags := 2, code := none }
def k2c1 : Code := { maxStack := 2, maxLocals := 1, code := prog_34_method_12_code, exceptionTable := #[], attributes := #[] }
def k2m1 : Method := { name := "definesSet", desc := "([B)Z", sig := { parameters := [(.array .byte)], returnType := some .boolean }, accessFlags := 8, code := some k2c1 }
def k2c2 : Code := { maxStack := 2, maxLocals := 2, code := prog_34_method_14_code, exceptionTable := #[], attributes := #[] }
def k2m2 : Method := { name := "setSpecEnd", desc := "([B)I", sig := { parameters := [(.array .byte)], returnType := some .int }, accessFlags := 10, code := some k2c2 }
/-- com/example/dozynki/dozynki/StoreLayout -/
def k2 : Class := { plain "com/example/dozynki/dozynki/StoreLayout" (some 0) with
  accessFlags := 32
  interfaces := #[]
  cf := some (fileOf pool2 10 #[.nestMembers #[188, 195]] #[{ accessFlags := 2, nameIndex := 7, descriptorIndex := 8, attributes := #[] }, { accessFlags := 8, nameIndex := 399, descriptorIndex := 400, attributes := #[] }, { accessFlags := 10, nameIndex := 71, descriptorIndex := 72, attributes := #[] }] 32 4 #[] #[{ accessFlags := 24, nameIndex := 366, descriptorIndex := 367, attributes := #[] }, { accessFlags := 24, nameIndex := 371, descriptorIndex := 367, attributes := #[] }, { accessFlags := 24, nameIndex := 374, descriptorIndex := 367, attributes := #[] }, { accessFlags := 24, nameIndex := 377, descriptorIndex := 367, attributes := #[] }, { accessFlags := 24, nameIndex := 328, descriptorIndex := 97, attributes := #[] }, { accessFlags := 24, nameIndex := 333, descriptorIndex := 97, attributes := #[] }, { accessFlags := 24, nameIndex := 338, descriptorIndex := 97, attributes := #[] }, { accessFlags := 24, nameIndex := 343, descriptorIndex := 97, attributes := #[] }, { accessFlags := 24, nameIndex := 380, descriptorIndex := 202, attributes := #[] }, { accessFlags := 24, nameIndex := 348, descriptorIndex := 97, attributes := #[] }, { accessFlags := 24, nameIndex := 353, descriptorIndex := 97, attributes := #[] }, { accessFlags := 24, nameIndex := 358, descriptorIndex := 97, attributes := #[] }, { accessFlags := 24, nameIndex := 96, descriptorIndex := 97, attributes := #[] }, { accessFlags := 24, nameIndex := 104, descriptorIndex := 97, attributes := #[] }, { accessFlags := 24, nameIndex := 365, descriptorIndex := 97, attributes := #[] }, { accessFlags := 26, nameIndex := 382, descriptorIndex := 383, attributes := #[] }, { accessFlags := 26, nameIndex := 385, descriptorIndex := 383, attributes := #[] }])
  fields := #[{ name := "VERSION", type := (.object "java/lang/String"), accessFlags := 24, slot := 0, constantValue := 0 }, { name := "VERSION_1", type := (.object "java/lang/String"), accessFlags := 24, slot := 1, constantValue := 0 }, { name := "VERSION_2", type := (.object "java/lang/String"), accessFlags := 24, slot := 2, constantValue := 0 }, { name := "VERSION_UPGRADING", type := (.object "java/lang/String"), accessFlags := 24, slot := 3, constantValue := 0 }, { name := "LAYOUT_KEY", type := (.array .byte), accessFlags := 24, slot := 4, constantValue := 0 }, { name := "CREATED_KEY", type := (.array .byte), accessFlags := 24, slot := 5, constantValue := 0 }, { name := "LOAD_KEY", type := (.array .byte), accessFlags := 24, slot := 6, constantValue := 0 }, { name := "UPGRADED_KEY", type := (.array .byte), accessFlags := 24, slot := 7, constantValue := 0 }, { name := "STAMP_BYTES", type := .int, accessFlags := 24, slot := 8, constantValue := 0 }, { name := "ITEMS", type := (.array .byte), accessFlags := 24, slot := 9, constantValue := 0 }, { name := "DATESTAMPS", type := (.array .byte), accessFlags := 24, slot := 10, constantValue := 0 }, { name := "SETS", type := (.array .byte), accessFlags := 24, slot := 11, constantValue := 0 }, { name := "STAGED", type := (.array .byte), accessFlags := 24, slot := 12, constantValue := 0 }, { name := "STAGED_END", type := (.array .byte), accessFlags := 24, slot := 13, constantValue := 0 }, { name := "EMPTY", type := (.array .byte), accessFlags := 24, slot := 14, constantValue := 0 }, { name := "SET_END", type := .byte, accessFlags := 26, slot := 15, constantValue := 0 }, { name := "DELETED", type := .byte, accessFlags := 26, slot := 16, constantValue := 0 }]
  methods := #[k2m0, k2m1, k2m2]
  instanceTypes := #[]
  staticTypes := #[(.object "java/lang/String"), (.object "java/lang/String"), (.object "java/lang/String"), (.object "java/lang/String"), (.array .byte), (.array .byte), (.array .byte), (.array .byte), .int, (.array .byte), (.array .byte), (.array .byte), (.array .byte), (.array .byte), (.array .byte), .byte, .byte]
  resolved := Array.replicate 477 none
  statics := none }

def pool3 : Array CpInfo := pool [(1, u "java/lang/Cloneable"), (0, .class_ 1), (0, u "java/lang/Object"), (0, .class_ 3)] 3

/-- java/lang/Cloneable -/
def k3 : Class := { plain "java/lang/Cloneable" (some 0) with
  accessFlags := 1537
  interfaces := #[]
  cf := some (fileOf pool3 2 #[] #[] 1537 4 #[] #[])
  fields := #[]
  methods := #[]
  instanceTypes := #[]
  staticTypes := #[]
  resolved := Array.replicate 8 none
  statics := none }

def pool4 : Array CpInfo := pool [(1, u "java/io/Serializable"), (0, .class_ 1), (0, u "java/lang/Object"), (0, .class_ 3)] 3

/-- java/io/Serializable -/
def k4 : Class := { plain "java/io/Serializable" (some 0) with
  accessFlags := 1537
  interfaces := #[]
  cf := some (fileOf pool4 2 #[] #[] 1537 4 #[] #[])
  fields := #[]
  methods := #[]
  instanceTypes := #[]
  staticTypes := #[]
  resolved := Array.replicate 8 none
  statics := none }

/-- the primitive byte -/
def k5 : Class := { plain "byte" none with kind := .primitive 'B', accessFlags := 0x411 }
/-- [B -/
def k6 : Class := { plain "[B" (some 0) with kind := .array 5 .byte, interfaces := #[3, 4], accessFlags := 1041 }

/-- the primitive int -/
def k7 : Class := { plain "int" none with kind := .primitive 'I', accessFlags := 0x411 }
/-- [I -/
def k8 : Class := { plain "[I" (some 0) with kind := .array 7 .int, interfaces := #[3, 4], accessFlags := 1041 }

def heap : Heap := #[]
def classes : Array Class := #[k0, k1, k2, k3, k4, k5, k6, k7, k8]
def interned : List (Array UInt16 × Addr) := []
def slotsUsed : Nat := 0
def theMethod : MethodId := ⟨1, 2⟩
def args0 : Array Value := #[.int 2, .long 5]
def aboutOver (below : List Frame) : State where
  vm := { classes := classes, interned := interned.toArray }
  heap := heap
  slotsUsed := slotsUsed
  threads := #[{ frames := .invoking theMethod args0 :: below }]
def below0 : List Frame := [.native { method := ⟨0, 0⟩, args := #[] }]
def about1 : State := aboutOver below0
def p0 : Program := .bare "" "" ""
def e0 : Env := launch0.env 0 0 0
theorem w_frames : about1.frames = Frame.invoking theMethod args0 :: below0 := rfl
set_option maxRecDepth 65536 in
theorem w_args : argsFit about1.vm theMethod args0 = true := by decide +kernel
set_option maxRecDepth 65536 in
theorem w_heap : heapFits about1 = true := by decide +kernel
set_option maxRecDepth 65536 in
theorem w_runnable : about1.curStatus? = some .runnable := by decide +kernel
set_option maxRecDepth 65536 in
theorem w_alone : about1.alone = true := by decide +kernel
set_option maxRecDepth 65536 in
theorem w_named : about1.methodNamed? x = some theMethod := by decide +kernel
set_option maxRecDepth 65536 in
theorem w_hears : about1.hears theMethod below0 = true := by decide +kernel
set_option maxRecDepth 65536 in
theorem w_ripe : about1.ripe theMethod args0 below0 = true := by decide +kernel
theorem w_running : about1.status = .running := rfl
set_option maxRecDepth 65536 in
theorem w_room : about1.hasRoom e0.platform room_1 = true :=
  launch0.hasRoom_least _ room_1 (by decide +kernel) (by decide +kernel) (by decide +kernel) (by decide +kernel) (by decide +kernel) (by decide +kernel)
theorem allAtoms_all (ts : List Jvm.Cond) (a : Array Jvm.Value) (st : Jvm.State) : (allAtoms ts).before a st = ts.all (fun c => c.before a st) := by
  induction ts with
  | nil => rfl
  | cons c t ih =>
    show (Jvm.Cond.and c (allAtoms t)).before a st = _
    rw [Jvm.Cond.before_and, ih, List.all_cons]
def words1 : List Jvm.Cond := Jvm.Cond.code x code maxLocals ret :: tables_1
/-- a 'code' word, met by the world's own term for the bytes: nothing is compared byte by byte -/
theorem code_word {y : MethodName} {bytes : ByteArray} {mx : Nat} {rt : Option FieldType} {a : Array Value} {s : State} {m : MethodId} {meth : Method} {c : Code} (h1 : s.methodNamed? y = some m) (h2 : s.vm.method? m = some meth) (h3 : meth.code = some c) (h4 : c.code = bytes)
    (h5 : (c.maxLocals == mx && c.exceptionTable.isEmpty && decide (c.maxStack ≤ mostOperands) && decide (meth.sig.returnType = rt) && !meth.locks && decide (parseMethodDescriptor y.desc = some meth.sig)) = true) : (Jvm.Cond.code y bytes mx rt).before a s = true := by
  simp only [Bool.and_eq_true, beq_iff_eq, Bool.not_eq_true', decide_eq_true_eq] at h5
  obtain ⟨⟨⟨⟨⟨g1, g2⟩, g3⟩, g4⟩, g5⟩, g6⟩ := h5
  simp [Cond.before, Cond.holds, Cond.value, h1, h2, h3, h4, g1, g2, g3, g4, g5, g6]
def isCode : Jvm.Cond → Bool
  | .code _ _ _ _ => true
  | _ => false
theorem all_split {L : List Jvm.Cond} {P : Jvm.Cond → Bool} (h1 : L.all (fun c => isCode c || P c) = true) (h2 : ∀ c ∈ L.filter isCode, P c = true) : L.all P = true := by
  refine List.all_eq_true.mpr fun c hc => ?_
  have h := List.all_eq_true.mp h1 c hc
  rcases Bool.eq_false_or_eq_true (isCode c) with hi | hi
  · exact h2 c (List.mem_filter.mpr ⟨hc, hi⟩)
  · simpa [hi] using h
set_option maxRecDepth 65536 in
theorem w_c0 : (Jvm.Cond.code x code maxLocals ret).before args0 about1 = true := code_word (m := ⟨1, 2⟩) (meth := k1m2) (c := k1c2) (by decide +kernel) rfl rfl rfl (by decide +kernel)
set_option maxRecDepth 65536 in
theorem w_c1 : (Jvm.Cond.code ({ cls := "com/example/dozynki/dozynki/StoreLayoutDefinesSetPinLaw", name := "byteAt", desc := "(JII)B" } : Jvm.MethodName) method_2_code (4 : Nat) (Option.some Jvm.ClassFile.FieldType.byte)).before args0 about1 = true := code_word (m := ⟨1, 1⟩) (meth := k1m1) (c := k1c1) (by decide +kernel) rfl rfl rfl (by decide +kernel)
set_option maxRecDepth 65536 in
theorem w_c2 : (Jvm.Cond.code ({ cls := "com/example/dozynki/dozynki/StoreLayout", name := "definesSet", desc := "([B)Z" } : Jvm.MethodName) prog_34_method_12_code (1 : Nat) (Option.some Jvm.ClassFile.FieldType.boolean)).before args0 about1 = true := code_word (m := ⟨2, 1⟩) (meth := k2m1) (c := k2c1) (by decide +kernel) rfl rfl rfl (by decide +kernel)
set_option maxRecDepth 65536 in
theorem w_c3 : (Jvm.Cond.code ({ cls := "com/example/dozynki/dozynki/StoreLayout", name := "setSpecEnd", desc := "([B)I" } : Jvm.MethodName) prog_34_method_14_code (2 : Nat) (Option.some Jvm.ClassFile.FieldType.int)).before args0 about1 = true := code_word (m := ⟨2, 2⟩) (meth := k2m2) (c := k2c2) (by decide +kernel) rfl rfl rfl (by decide +kernel)
def codes1 : List Jvm.Cond := [Jvm.Cond.code x code maxLocals ret, Jvm.Cond.code ({ cls := "com/example/dozynki/dozynki/StoreLayoutDefinesSetPinLaw", name := "byteAt", desc := "(JII)B" } : Jvm.MethodName) method_2_code (4 : Nat) (Option.some Jvm.ClassFile.FieldType.byte), Jvm.Cond.code ({ cls := "com/example/dozynki/dozynki/StoreLayout", name := "definesSet", desc := "([B)Z" } : Jvm.MethodName) prog_34_method_12_code (1 : Nat) (Option.some Jvm.ClassFile.FieldType.boolean), Jvm.Cond.code ({ cls := "com/example/dozynki/dozynki/StoreLayout", name := "setSpecEnd", desc := "([B)I" } : Jvm.MethodName) prog_34_method_14_code (2 : Nat) (Option.some Jvm.ClassFile.FieldType.int)]
set_option maxRecDepth 65536 in
theorem codes_eq : words1.filter isCode = codes1 := rfl
theorem w_codes : ∀ c ∈ words1.filter isCode, c.before args0 about1 = true := by
  rw [codes_eq]
  intro c hc
  simp only [codes1, List.mem_cons, List.not_mem_nil, or_false] at hc
  rcases hc with rfl | rfl | rfl | rfl
  · exact w_c0
  · exact w_c1
  · exact w_c2
  · exact w_c3
set_option maxRecDepth 65536 in
theorem w_t1 : words1.all (fun c => isCode c || c.before args0 about1) = true := by decide +kernel
theorem w_tables : (allAtoms (Jvm.Cond.code x code maxLocals ret :: tables_1)).before args0 about1 = true := by
  rw [allAtoms_all]
  show words1.all (fun c => c.before args0 about1) = true
  refine all_split ?_ w_codes
  rw [w_t1]
set_option maxRecDepth 65536 in
theorem w_case : (Jvm.Cond.and given_1 narrow_1).before args0 about1 = true := by decide +kernel
theorem w_applies : (headSpec (Jvm.Cond.code x code maxLocals ret :: tables_1) room_1).applies x e0.platform about1 = true :=
  (Spec.applies_iff w_frames).mpr ⟨w_running, w_runnable, w_alone, w_named, w_hears, w_ripe, w_room, w_tables⟩
theorem atStart : AtStart classFile x code maxLocals ret World_1 tables_1 room_1 Calls_1 rest_1 Pre_1 launch0 p0 e0 about1 theMethod args0 below0 :=
  ⟨lists_1, trivial, launch0.admits_env _ _ _, launch0.least_env, fairChoices_fair.cas, fairChoices_fair.clock, w_frames, w_args, w_heap, w_applies, trivial, trivial, w_case⟩
end start1
theorem witness_1 : WitnessClaimed_1 := ⟨start1.p0, start1.e0, start1.about1, start1.theMethod, start1.args0, start1.below0, start1.atStart⟩
end Jvm.Pilot.@@N@@
