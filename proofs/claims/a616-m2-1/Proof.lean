import JvmDerived
import JvmDerived.Pilot.@@N@@Statement
import JvmDerived.Pilot.@@N@@Code
set_option linter.unusedVariables false
set_option linter.unusedSimpArgs false
namespace Jvm.Pilot.@@N@@
open Jvm Jvm.ClassFile Sem Op Lib Jvm.Free Jvm.Stand Jvm.LawKit Jvm.RoadKit Bundle Jvm.Pilot.@@N@@.Jvm.D
section Own
variable {p : Program} {l : Launch} {e : Env} {R : Room} {s : State} {m : MethodId} {args : Array Value} {below : List Frame} {meth : Method} {c : Code} {T T' : State} {locs : List Loc} {cells slots : Nat} {Φ : State → Outcome → Prop} {g g' : JFrame}
/-- from (T, g) the run comes to an end that Φ takes -/
def Go (p : Program) (e : Env) (below : List Frame) (Φ : State → Outcome → Prop) (T : State) (g : JFrame) : Prop := ∃ t o, Steps p.tables e below (T.setTop g) t ∧ Φ t o
theorem Go.of (h : ∀ t, Steps p.tables e below (T'.setTop g') t → Steps p.tables e below (T.setTop g) t) (k : Go p e below Φ T' g') : Go p e below Φ T g := by
  obtain ⟨t, o, h1, h2⟩ := k
  exact ⟨t, o, h t h1, h2⟩
theorem Go.tr (h : Steps p.tables e below (T.setTop g) (T'.setTop g')) (k : Go p e below Φ T' g') : Go p e below Φ T g := by
  obtain ⟨t, o, h1, h2⟩ := k
  exact ⟨t, o, h.trans h1, h2⟩
/-- what a body owes at its end -/
def EndQ (s : State) (below : List Frame) (Q : Option Value → Heap → List Loc → Prop) (C S : Nat) (t : State) (o : Outcome) : Prop := t.status = .running ∧ Ended t below o ∧ ∃ v L, o = .returned v ∧ Q v t.heap L ∧ FrameEnd s o t L C S
theorem Go.ret (X : Stand p l e R s m args below meth c T locs cells slots) (hx : p.tables.exec = Jvm.exec) (hlocks : meth.locks = false) {pc : Nat} {Ls : Array Slot} {w : Value} {t : FieldType} {i : Instr} {rest : List Value} (hret : meth.sig.returnType = some t) (hn : narrow t w = w)
    (hi : (i = .ireturn ∧ (t = .int ∨ t = .boolean ∨ t = .byte ∨ t = .char ∨ t = .short) ∧ ∃ z, w = .int z) ∨ (i = .lreturn ∧ t = .long ∧ ∃ z, w = .long z) ∨ (i = .dreturn ∧ t = .double ∧ ∃ z, w = .double z) ∨ (i = .freturn ∧ t = .float ∧ ∃ z, w = .float z) ∨ (i = .areturn ∧ t.isReference = true ∧ w.isRef = true))
    (hd : decode c.code pc = .ok (i, 1)) {Q : Option Value → Heap → List Loc → Prop} {C S : Nat} (hC : cells ≤ C) (hS : slots ≤ S) (hQ : Q (some w) T.heap locs) : Go p e below (EndQ s below Q C S) T (mkF m pc Ls (w :: rest)) := by
  obtain ⟨fs, hr, hrun, hended, hW, hsame⟩ := X.leave (v := some w) (fun h => by rw [hret] at h; cases h) hlocks
  exact ⟨_, _, retOut X hx hret hn hi hd hr, hrun, hended, _, _, rfl, hQ, ⟨_, rfl⟩, hW, hsame.mono hC hS⟩
theorem Go.retV (X : Stand p l e R s m args below meth c T locs cells slots) (hx : p.tables.exec = Jvm.exec) (hlocks : meth.locks = false) {pc : Nat} {Ls : Array Slot} (hret : meth.sig.returnType = none)
    (hd : decode c.code pc = .ok (.return_, 1)) {Q : Option Value → Heap → List Loc → Prop} {C S : Nat} (hC : cells ≤ C) (hS : slots ≤ S) (hQ : Q none T.heap locs) : Go p e below (EndQ s below Q C S) T (mkF m pc Ls []) := by
  obtain ⟨fs, hr, hrun, hended, hW, hsame⟩ := X.leave (v := none) (fun _ => rfl) hlocks
  exact ⟨_, _, X.returnOut hx hret hd hr, hrun, hended, _, _, rfl, hQ, ⟨_, rfl⟩, hW, hsame.mono hC hS⟩
def own_ushr (x y : Int32) : Int32 := (x.toUInt32 >>> (y &&& 31).toUInt32).toInt32
def own_ushrL (x : Int64) (y : Int32) : Int64 := (x.toUInt64 >>> (y &&& 0x3f).toInt64.toUInt64).toInt64
theorem own_one {v : Int32} (h : v = 1) : narrow .boolean (.int v) = .int v := by rw [h]; rfl
theorem own_at_ {h : Heap} {a : Addr} {cl : Cell} (e : T.heap = h) (q : h[a]? = some cl) : T.heap[a]? = some cl := by rw [e]; exact q
theorem own_w1 {v : Value} (h : v.isRef = true) : 2 * 0 + ([v].map fun v => v.category).sum ≤ 1 := by simp [XT.cat1 h]
theorem own_nar_ref {t : FieldType} {v : Value} (h : v.isRef = true) (ht : t.isReference = true := by rfl) : narrow t v = v := by cases v <;> simp [Value.isRef] at h <;> cases t <;> first | rfl | cases ht
theorem own_fits_ref {t : FieldType} {v : Value} (h : v.isRef = true) (ht : t.isReference = true := by rfl) : fits t v = true := by cases v <;> simp [Value.isRef] at h <;> cases t <;> first | rfl | cases ht
end Own
/-! ## bodies that may load a String constant cold: the walk stands over (s.setVm vm), the constants of EL keep their texts -/
section OwnW
variable {p : Program} {l : Launch} {e : Env} {R : Room} {s : State} {m : MethodId} {args : Array Value} {below : List Frame} {meth : Method} {c : Code} {T : State} {locs : List Loc} {cells slots : Nat} {Z : State} {a0 : Array Value} {EL : List (String × Nat)} {vm₁ : Vm}
def EndW (Z : State) (EL : List (String × Nat)) (s : State) (below : List Frame) (Q : Option Value → Heap → List Loc → Prop) (C S : Nat) (t : State) (o : Outcome) : Prop :=
  t.status = .running ∧ Ended t below o ∧ ∃ v L, o = .returned v ∧ Q v t.heap L ∧ CHr Z EL s.vm s.heap t.vm t.heap ∧ ReturnedEndW s o t L C S
theorem own_moW {t : State} {o : Outcome} {L : List Loc} {k n k' n' : Nat} (h : ReturnedEndW s o t L k n) (hk : k ≤ k') (hn : n ≤ n') : ReturnedEndW s o t L k' n' := ⟨h.1, h.2.1, h.2.2.1, h.2.2.2.mono hk hn⟩
theorem own_since (s : State) : s.Since s.vm s.heap.size := ⟨State.Warmed39.refl s, fun j q hj hp => absurd (Array.getElem?_eq_some_iff.mp hp).1 (Nat.not_lt.mpr hj)⟩
theorem Go.retW (X : Stand p l e R (s.setVm vm₁) m args below meth c T locs cells slots) (hx : p.tables.exec = Jvm.exec) (hlocks : meth.locks = false) {k0 : Nat} (hS : s.Since vm₁ k0) (hk : k0 ≤ T.heap.size) (hZ : Z.Warmed39 vm₁) (hEL : EW Z a0 EL) (hR : CHr Z EL s.vm s.heap vm₁ T.heap)
    {pc : Nat} {Ls : Array Slot} {w : Value} {t : FieldType} {i : Instr} {rest : List Value} (hret : meth.sig.returnType = some t) (hn : narrow t w = w)
    (hi : (i = .ireturn ∧ (t = .int ∨ t = .boolean ∨ t = .byte ∨ t = .char ∨ t = .short) ∧ ∃ z, w = .int z) ∨ (i = .lreturn ∧ t = .long ∧ ∃ z, w = .long z) ∨ (i = .dreturn ∧ t = .double ∧ ∃ z, w = .double z) ∨ (i = .freturn ∧ t = .float ∧ ∃ z, w = .float z) ∨ (i = .areturn ∧ t.isReference = true ∧ w.isRef = true))
    (hd : decode c.code pc = .ok (i, 1)) {Q : Option Value → Heap → List Loc → Prop} {C S : Nat} (hC : cells ≤ C) (hS' : slots ≤ S) (hQ : Q (some w) T.heap locs) : Go p e below (EndW Z EL s below Q C S) T (mkF m pc Ls (w :: rest)) := by
  obtain ⟨fs, hr, hrun, hended, hend⟩ := X.leaveW hS hk (v := some w) (fun h => by rw [hret] at h; cases h) hlocks
  have hA := hR.trans (CHv.at X hZ hEL hR.1)
  exact ⟨_, _, retOut X hx hret hn hi hd hr, hrun, hended, _, _, rfl, hQ, (hA : CHr Z EL s.vm s.heap T.vm T.heap), own_moW hend hC hS'⟩
theorem Go.retVW (X : Stand p l e R (s.setVm vm₁) m args below meth c T locs cells slots) (hx : p.tables.exec = Jvm.exec) (hlocks : meth.locks = false) {k0 : Nat} (hS : s.Since vm₁ k0) (hk : k0 ≤ T.heap.size) (hZ : Z.Warmed39 vm₁) (hEL : EW Z a0 EL) (hR : CHr Z EL s.vm s.heap vm₁ T.heap)
    {pc : Nat} {Ls : Array Slot} (hret : meth.sig.returnType = none)
    (hd : decode c.code pc = .ok (.return_, 1)) {Q : Option Value → Heap → List Loc → Prop} {C S : Nat} (hC : cells ≤ C) (hS' : slots ≤ S) (hQ : Q none T.heap locs) : Go p e below (EndW Z EL s below Q C S) T (mkF m pc Ls []) := by
  obtain ⟨fs, hr, hrun, hended, hend⟩ := X.leaveW hS hk (v := none) (fun _ => rfl) hlocks
  have hA := hR.trans (CHv.at X hZ hEL hR.1)
  exact ⟨_, _, X.returnOut hx hret hd hr, hrun, hended, _, _, rfl, hQ, (hA : CHr Z EL s.vm s.heap T.vm T.heap), own_moW hend hC hS'⟩
end OwnW
section OwnW2
variable {Z s T : State} {a0 : Array Value} {EL : List (String × Nat)} {h0 h : Heap} {vm vm' : Vm}
theorem own_EL (hw : ∀ d ∈ tables_1, d.before a0 Z = true) : EW Z a0 [("java/lang/String", 7)] := EW.cons (hw _ (List.mem_of_getElem? (i := 22) rfl)) (by decide) EW.nil
theorem own_wS (hw : ∀ d ∈ tables_1, d.before a0 Z = true) : ∀ a ∈ Bundle.stringAtoms, a.before a0 Z = true := by
  intro d hd
  simp only [Bundle.stringAtoms, List.mem_cons, List.not_mem_nil, or_false] at hd
  rcases hd with rfl | rfl | rfl | rfl | rfl | rfl | rfl
  · exact hw _ (List.mem_of_getElem? (i := 10) rfl)
  · exact hw _ (List.mem_of_getElem? (i := 9) rfl)
  · exact hw _ (List.mem_of_getElem? (i := 23) rfl)
  · exact hw _ (List.mem_of_getElem? (i := 24) rfl)
  · exact hw _ (List.mem_of_getElem? (i := 25) rfl)
  · exact hw _ (List.mem_of_getElem? (i := 26) rfl)
  · exact hw _ (List.mem_of_getElem? (i := 27) rfl)
theorem own_fc {own : String} {c : ClassId} (q : (s.setVm vm).Warmed39 vm') (ho : (s.setVm vm).vm.findClass own = some c) : (s.setVm vm').vm.findClass own = some c := by
  show vm'.findClass own = _
  rw [q.alike.findClass]; exact ho
theorem own_le {k n : Nat} (e : T.heap = h) (hk : k ≤ h.size) (hg : T.heap.size ≤ n) : k ≤ n := by rw [e] at hg; exact Nat.le_trans hk hg
theorem own_kk {k : Nat} (e : T.heap = h) (hk : k ≤ h.size) : k ≤ T.heap.size := by rw [e]; exact hk
theorem own_rr (e0 : s.heap = h0) (e : T.heap = h) (R : CHr Z EL s.vm h0 vm h) : CHr Z EL s.vm s.heap vm T.heap := by rw [e0, e]; exact R
end OwnW2
section OwnW3
variable {Z : State} {EL : List (String × Nat)} {h : Heap} {vm : Vm}
/-- a String whose bytes are not laid yet is no constant's -/
theorem own_safe {x : Addr} (hal : Z.vm.Alike vm) (E : Exa Z h x "java/lang/String") (F0 : Fld Z h x "java/lang/String" "value" "[B" .null) : Safe Z EL vm h x := fun B => by
  obtain ⟨p, -, u, a, -, q, -, F, rfl | rfl⟩ := B
  · obtain ⟨cell, cf, k, i, f, e1, e2, -, -, -, -, e7⟩ := F0
    cases (show h[q.sa]? = some q.sC from F.ha).symm.trans e1
    obtain ⟨cS, ⟨⟨-, -, -, ⟨c1, k1, i1, f1, -⟩, -, -, -, v1, -⟩, -⟩, -⟩ := F
    obtain ⟨k2, z⟩ := ff_back (Z := Z) (U := Wst Z vm h) hal f1
    have z2 := z.symm.trans e2
    simp only [Option.some.injEq, Prod.mk.injEq] at z2
    rw [z2.2.2.2, e7] at v1
    cases v1
  · obtain ⟨cell, k, e1, e2, e3, -, -⟩ := E
    cases (show h[q.sd]? = some q.SA from F.hd).symm.trans e1
    obtain ⟨cS, -, -, f, -⟩ := F
    have f : vm.findClass "[B" = some q.SA.cls := f
    rw [hal.findClass] at f
    obtain ⟨k1, q1, q2⟩ := Vm.findClass_spec f
    obtain ⟨k2, q3, q4⟩ := Vm.findClass_spec e2
    cases q1.symm.trans q3
    exact absurd (q2.symm.trans q4) (by decide)
end OwnW3
theorem own_c255 (x : Int32) : ¬ ((255 : Int32) < (x &&& (255 : Int32)).toUInt32.toUInt16.toUInt32.toInt32) := by
  have m := c_mask x 255 8 (by decide) (by decide)
  obtain ⟨h1, h2, h3⟩ := c_i2c (x &&& 255)
  have k : (255 : Int32).toInt = 255 := by decide
  rw [Int32.lt_iff_toInt_lt]
  omega
theorem own_n255 (x : Int32) : ¬ ((255 : Int32) < nar .char ((x &&& (255 : Int32)).toUInt32.toUInt16.toUInt32.toInt32)) := by
  show ¬ ((255 : Int32) < ((x &&& (255 : Int32)).toUInt32.toUInt16.toUInt32.toInt32).toUInt32.toUInt16.toUInt32.toInt32)
  have m := c_mask x 255 8 (by decide) (by decide)
  obtain ⟨h1, h2, h3⟩ := c_i2c (x &&& 255)
  obtain ⟨g1, g2, g3⟩ := c_i2c ((x &&& (255 : Int32)).toUInt32.toUInt16.toUInt32.toInt32)
  have k : (255 : Int32).toInt = 255 := by decide
  rw [Int32.lt_iff_toInt_lt]
  omega
theorem own_d1_0 : decode jdk_29_method_69_code 0 = .ok (.iload_n 0, 1) := by decide +kernel
theorem own_d1_1 : decode jdk_29_method_69_code 1 = .ok (.iload_n 1, 1) := by decide +kernel
theorem own_d1_2 : decode jdk_29_method_69_code 2 = .ok (.if_icmp .gt 7, 3) := by decide +kernel
theorem own_d1_5 : decode jdk_29_method_69_code 5 = .ok (.iload_n 0, 1) := by decide +kernel
theorem own_d1_6 : decode jdk_29_method_69_code 6 = .ok (.goto 4, 3) := by decide +kernel
theorem own_d1_9 : decode jdk_29_method_69_code 9 = .ok (.iload_n 1, 1) := by decide +kernel
theorem own_d1_10 : decode jdk_29_method_69_code 10 = .ok (.ireturn, 1) := by decide +kernel
theorem own_d2_0 : decode method_2_code 0 = .ok (.iload_n 1, 1) := by decide +kernel
theorem own_d2_1 : decode method_2_code 1 = .ok (.sipush 255, 3) := by decide +kernel
theorem own_d2_4 : decode method_2_code 4 = .ok (.iand, 1) := by decide +kernel
theorem own_d2_5 : decode method_2_code 5 = .ok (.i2c, 1) := by decide +kernel
theorem own_d2_6 : decode method_2_code 6 = .ok (.istore_n 3, 1) := by decide +kernel
theorem own_d2_7 : decode method_2_code 7 = .ok (.iload_n 2, 1) := by decide +kernel
theorem own_d2_8 : decode method_2_code 8 = .ok (.sipush 255, 3) := by decide +kernel
theorem own_d2_11 : decode method_2_code 11 = .ok (.iand, 1) := by decide +kernel
theorem own_d2_12 : decode method_2_code 12 = .ok (.i2c, 1) := by decide +kernel
theorem own_d2_13 : decode method_2_code 13 = .ok (.istore 4, 2) := by decide +kernel
theorem own_d2_15 : decode method_2_code 15 = .ok (.iload_n 0, 1) := by decide +kernel
theorem own_d2_16 : decode method_2_code 16 = .ok (.ifCond .ne 14, 3) := by decide +kernel
theorem own_d2_19 : decode method_2_code 19 = .ok (.new 7, 3) := by decide +kernel
theorem own_d2_22 : decode method_2_code 22 = .ok (.dup, 1) := by decide +kernel
theorem own_d2_23 : decode method_2_code 23 = .ok (.iconst 0, 1) := by decide +kernel
theorem own_d2_24 : decode method_2_code 24 = .ok (.newarray .char, 2) := by decide +kernel
theorem own_d2_26 : decode method_2_code 26 = .ok (.invokespecial 9, 3) := by decide +kernel
theorem own_d2_29 : decode method_2_code 29 = .ok (.areturn, 1) := by decide +kernel
theorem own_d2_30 : decode method_2_code 30 = .ok (.iload_n 0, 1) := by decide +kernel
theorem own_d2_31 : decode method_2_code 31 = .ok (.iconst 1, 1) := by decide +kernel
theorem own_d2_32 : decode method_2_code 32 = .ok (.if_icmp .ne 8, 3) := by decide +kernel
theorem own_d2_35 : decode method_2_code 35 = .ok (.iload_n 3, 1) := by decide +kernel
theorem own_d2_36 : decode method_2_code 36 = .ok (.invokestatic 12, 3) := by decide +kernel
theorem own_d2_39 : decode method_2_code 39 = .ok (.areturn, 1) := by decide +kernel
theorem own_d2_40 : decode method_2_code 40 = .ok (.new 7, 3) := by decide +kernel
theorem own_d2_43 : decode method_2_code 43 = .ok (.dup, 1) := by decide +kernel
theorem own_d2_44 : decode method_2_code 44 = .ok (.iconst 2, 1) := by decide +kernel
theorem own_d2_45 : decode method_2_code 45 = .ok (.newarray .char, 2) := by decide +kernel
theorem own_d2_47 : decode method_2_code 47 = .ok (.dup, 1) := by decide +kernel
theorem own_d2_48 : decode method_2_code 48 = .ok (.iconst 0, 1) := by decide +kernel
theorem own_d2_49 : decode method_2_code 49 = .ok (.iload_n 3, 1) := by decide +kernel
theorem own_d2_50 : decode method_2_code 50 = .ok (.castore, 1) := by decide +kernel
theorem own_d2_51 : decode method_2_code 51 = .ok (.dup, 1) := by decide +kernel
theorem own_d2_52 : decode method_2_code 52 = .ok (.iconst 1, 1) := by decide +kernel
theorem own_d2_53 : decode method_2_code 53 = .ok (.iload 4, 2) := by decide +kernel
theorem own_d2_55 : decode method_2_code 55 = .ok (.castore, 1) := by decide +kernel
theorem own_d2_56 : decode method_2_code 56 = .ok (.invokespecial 9, 3) := by decide +kernel
theorem own_d2_59 : decode method_2_code 59 = .ok (.areturn, 1) := by decide +kernel
theorem own_d3_0 : decode jdk_42_method_3_code 0 = .ok (.aload_n 0, 1) := by decide +kernel
theorem own_d3_1 : decode jdk_42_method_3_code 1 = .ok (.aload_n 1, 1) := by decide +kernel
theorem own_d3_2 : decode jdk_42_method_3_code 2 = .ok (.iconst 0, 1) := by decide +kernel
theorem own_d3_3 : decode jdk_42_method_3_code 3 = .ok (.aload_n 1, 1) := by decide +kernel
theorem own_d3_4 : decode jdk_42_method_3_code 4 = .ok (.arraylength, 1) := by decide +kernel
theorem own_d3_5 : decode jdk_42_method_3_code 5 = .ok (.aconst_null, 1) := by decide +kernel
theorem own_d3_6 : decode jdk_42_method_3_code 6 = .ok (.invokespecial 27, 3) := by decide +kernel
theorem own_d3_9 : decode jdk_42_method_3_code 9 = .ok (.return_, 1) := by decide +kernel
theorem own_d4_0 : decode jdk_42_method_149_code 0 = .ok (.aload_n 0, 1) := by decide +kernel
theorem own_d4_1 : decode jdk_42_method_149_code 1 = .ok (.invokespecial 1, 3) := by decide +kernel
theorem own_d4_4 : decode jdk_42_method_149_code 4 = .ok (.iload_n 3, 1) := by decide +kernel
theorem own_d4_5 : decode jdk_42_method_149_code 5 = .ok (.ifCond .ne 22, 3) := by decide +kernel
theorem own_d4_8 : decode jdk_42_method_149_code 8 = .ok (.aload_n 0, 1) := by decide +kernel
theorem own_d4_9 : decode jdk_42_method_149_code 9 = .ok (.ldc 7, 2) := by decide +kernel
theorem own_d4_11 : decode jdk_42_method_149_code 11 = .ok (.getfield 9, 3) := by decide +kernel
theorem own_d4_14 : decode jdk_42_method_149_code 14 = .ok (.putfield 9, 3) := by decide +kernel
theorem own_d4_17 : decode jdk_42_method_149_code 17 = .ok (.aload_n 0, 1) := by decide +kernel
theorem own_d4_18 : decode jdk_42_method_149_code 18 = .ok (.ldc 7, 2) := by decide +kernel
theorem own_d4_20 : decode jdk_42_method_149_code 20 = .ok (.getfield 15, 3) := by decide +kernel
theorem own_d4_23 : decode jdk_42_method_149_code 23 = .ok (.putfield 15, 3) := by decide +kernel
theorem own_d4_26 : decode jdk_42_method_149_code 26 = .ok (.return_, 1) := by decide +kernel
theorem own_d4_27 : decode jdk_42_method_149_code 27 = .ok (.getstatic 38, 3) := by decide +kernel
theorem own_d4_30 : decode jdk_42_method_149_code 30 = .ok (.ifCond .eq 28, 3) := by decide +kernel
theorem own_d4_33 : decode jdk_42_method_149_code 33 = .ok (.aload_n 1, 1) := by decide +kernel
theorem own_d4_34 : decode jdk_42_method_149_code 34 = .ok (.iload_n 2, 1) := by decide +kernel
theorem own_d4_35 : decode jdk_42_method_149_code 35 = .ok (.iload_n 3, 1) := by decide +kernel
theorem own_d4_36 : decode jdk_42_method_149_code 36 = .ok (.invokestatic 177, 3) := by decide +kernel
theorem own_d4_39 : decode jdk_42_method_149_code 39 = .ok (.astore 5, 2) := by decide +kernel
theorem own_d4_41 : decode jdk_42_method_149_code 41 = .ok (.aload_n 0, 1) := by decide +kernel
theorem own_d4_42 : decode jdk_42_method_149_code 42 = .ok (.aload 5, 2) := by decide +kernel
theorem own_d4_44 : decode jdk_42_method_149_code 44 = .ok (.iload_n 3, 1) := by decide +kernel
theorem own_d4_45 : decode jdk_42_method_149_code 45 = .ok (.invokestatic 47, 3) := by decide +kernel
theorem own_d4_48 : decode jdk_42_method_149_code 48 = .ok (.putfield 15, 3) := by decide +kernel
theorem own_d4_51 : decode jdk_42_method_149_code 51 = .ok (.aload_n 0, 1) := by decide +kernel
theorem own_d4_52 : decode jdk_42_method_149_code 52 = .ok (.aload 5, 2) := by decide +kernel
theorem own_d4_54 : decode jdk_42_method_149_code 54 = .ok (.putfield 9, 3) := by decide +kernel
theorem own_d4_57 : decode jdk_42_method_149_code 57 = .ok (.return_, 1) := by decide +kernel
theorem own_d6_0 : decode prog_28_method_1_code 0 = .ok (.aload_n 0, 1) := by decide +kernel
theorem own_d6_1 : decode prog_28_method_1_code 1 = .ok (.invokespecial 1, 3) := by decide +kernel
theorem own_d6_4 : decode prog_28_method_1_code 4 = .ok (.aload_n 0, 1) := by decide +kernel
theorem own_d6_5 : decode prog_28_method_1_code 5 = .ok (.aload_n 1, 1) := by decide +kernel
theorem own_d6_6 : decode prog_28_method_1_code 6 = .ok (.putfield 7, 3) := by decide +kernel
theorem own_d6_9 : decode prog_28_method_1_code 9 = .ok (.aload_n 0, 1) := by decide +kernel
theorem own_d6_10 : decode prog_28_method_1_code 10 = .ok (.iload_n 2, 1) := by decide +kernel
theorem own_d6_11 : decode prog_28_method_1_code 11 = .ok (.putfield 13, 3) := by decide +kernel
theorem own_d6_14 : decode prog_28_method_1_code 14 = .ok (.aload_n 0, 1) := by decide +kernel
theorem own_d6_15 : decode prog_28_method_1_code 15 = .ok (.aload_n 3, 1) := by decide +kernel
theorem own_d6_16 : decode prog_28_method_1_code 16 = .ok (.putfield 17, 3) := by decide +kernel
theorem own_d6_19 : decode prog_28_method_1_code 19 = .ok (.aload_n 0, 1) := by decide +kernel
theorem own_d6_20 : decode prog_28_method_1_code 20 = .ok (.iload 4, 2) := by decide +kernel
theorem own_d6_22 : decode prog_28_method_1_code 22 = .ok (.putfield 20, 3) := by decide +kernel
theorem own_d6_25 : decode prog_28_method_1_code 25 = .ok (.aload_n 0, 1) := by decide +kernel
theorem own_d6_26 : decode prog_28_method_1_code 26 = .ok (.iload 5, 2) := by decide +kernel
theorem own_d6_28 : decode prog_28_method_1_code 28 = .ok (.putfield 23, 3) := by decide +kernel
theorem own_d6_31 : decode prog_28_method_1_code 31 = .ok (.return_, 1) := by decide +kernel
theorem own_d7_0 : decode jdk_30_method_1_code 0 = .ok (.aload_n 0, 1) := by decide +kernel
theorem own_d7_1 : decode jdk_30_method_1_code 1 = .ok (.invokespecial 1, 3) := by decide +kernel
theorem own_d7_4 : decode jdk_30_method_1_code 4 = .ok (.return_, 1) := by decide +kernel
theorem own_d8_0 : decode prog_28_method_2_code 0 = .ok (.aload_n 0, 1) := by decide +kernel
theorem own_d8_1 : decode prog_28_method_2_code 1 = .ok (.getfield 17, 3) := by decide +kernel
theorem own_d8_4 : decode prog_28_method_2_code 4 = .ok (.ifnonnull 7, 3) := by decide +kernel
theorem own_d8_7 : decode prog_28_method_2_code 7 = .ok (.iconst 1, 1) := by decide +kernel
theorem own_d8_8 : decode prog_28_method_2_code 8 = .ok (.goto 4, 3) := by decide +kernel
theorem own_d8_11 : decode prog_28_method_2_code 11 = .ok (.iconst 0, 1) := by decide +kernel
theorem own_d8_12 : decode prog_28_method_2_code 12 = .ok (.ireturn, 1) := by decide +kernel
theorem own_d9_0 : decode jdk_52_method_16_code 0 = .ok (.iload_n 2, 1) := by decide +kernel
theorem own_d9_1 : decode jdk_52_method_16_code 1 = .ok (.newarray .byte, 2) := by decide +kernel
theorem own_d9_3 : decode jdk_52_method_16_code 3 = .ok (.astore_n 3, 1) := by decide +kernel
theorem own_d9_4 : decode jdk_52_method_16_code 4 = .ok (.aload_n 0, 1) := by decide +kernel
theorem own_d9_5 : decode jdk_52_method_16_code 5 = .ok (.iload_n 1, 1) := by decide +kernel
theorem own_d9_6 : decode jdk_52_method_16_code 6 = .ok (.aload_n 3, 1) := by decide +kernel
theorem own_d9_7 : decode jdk_52_method_16_code 7 = .ok (.iconst 0, 1) := by decide +kernel
theorem own_d9_8 : decode jdk_52_method_16_code 8 = .ok (.iload_n 2, 1) := by decide +kernel
theorem own_d9_9 : decode jdk_52_method_16_code 9 = .ok (.invokestatic 115, 3) := by decide +kernel
theorem own_d9_12 : decode jdk_52_method_16_code 12 = .ok (.istore 4, 2) := by decide +kernel
theorem own_d9_14 : decode jdk_52_method_16_code 14 = .ok (.iload 4, 2) := by decide +kernel
theorem own_d9_16 : decode jdk_52_method_16_code 16 = .ok (.iload_n 2, 1) := by decide +kernel
theorem own_d9_17 : decode jdk_52_method_16_code 17 = .ok (.if_icmp .eq 40, 3) := by decide +kernel
theorem own_d9_57 : decode jdk_52_method_16_code 57 = .ok (.aload_n 3, 1) := by decide +kernel
theorem own_d9_58 : decode jdk_52_method_16_code 58 = .ok (.areturn, 1) := by decide +kernel
theorem own_d10_0 : decode jdk_52_method_21_code 0 = .ok (.iconst 0, 1) := by decide +kernel
theorem own_d10_1 : decode jdk_52_method_21_code 1 = .ok (.istore 5, 2) := by decide +kernel
theorem own_d10_3 : decode jdk_52_method_21_code 3 = .ok (.iload 5, 2) := by decide +kernel
theorem own_d10_5 : decode jdk_52_method_21_code 5 = .ok (.iload 4, 2) := by decide +kernel
theorem own_d10_7 : decode jdk_52_method_21_code 7 = .ok (.if_icmp .ge 37, 3) := by decide +kernel
theorem own_d10_10 : decode jdk_52_method_21_code 10 = .ok (.aload_n 0, 1) := by decide +kernel
theorem own_d10_11 : decode jdk_52_method_21_code 11 = .ok (.iload_n 1, 1) := by decide +kernel
theorem own_d10_12 : decode jdk_52_method_21_code 12 = .ok (.caload, 1) := by decide +kernel
theorem own_d10_13 : decode jdk_52_method_21_code 13 = .ok (.istore 6, 2) := by decide +kernel
theorem own_d10_15 : decode jdk_52_method_21_code 15 = .ok (.iload 6, 2) := by decide +kernel
theorem own_d10_17 : decode jdk_52_method_21_code 17 = .ok (.sipush 255, 3) := by decide +kernel
theorem own_d10_20 : decode jdk_52_method_21_code 20 = .ok (.if_icmp .le 6, 3) := by decide +kernel
theorem own_d10_26 : decode jdk_52_method_21_code 26 = .ok (.aload_n 2, 1) := by decide +kernel
theorem own_d10_27 : decode jdk_52_method_21_code 27 = .ok (.iload_n 3, 1) := by decide +kernel
theorem own_d10_28 : decode jdk_52_method_21_code 28 = .ok (.iload 6, 2) := by decide +kernel
theorem own_d10_30 : decode jdk_52_method_21_code 30 = .ok (.i2b, 1) := by decide +kernel
theorem own_d10_31 : decode jdk_52_method_21_code 31 = .ok (.bastore, 1) := by decide +kernel
theorem own_d10_32 : decode jdk_52_method_21_code 32 = .ok (.iinc 1 1, 3) := by decide +kernel
theorem own_d10_35 : decode jdk_52_method_21_code 35 = .ok (.iinc 3 1, 3) := by decide +kernel
theorem own_d10_38 : decode jdk_52_method_21_code 38 = .ok (.iinc 5 1, 3) := by decide +kernel
theorem own_d10_41 : decode jdk_52_method_21_code 41 = .ok (.goto (-38), 3) := by decide +kernel
theorem own_d10_44 : decode jdk_52_method_21_code 44 = .ok (.iload 4, 2) := by decide +kernel
theorem own_d10_46 : decode jdk_52_method_21_code 46 = .ok (.ireturn, 1) := by decide +kernel
theorem own_d11_0 : decode jdk_52_method_15_code 0 = .ok (.iload_n 1, 1) := by decide +kernel
theorem own_d11_1 : decode jdk_52_method_15_code 1 = .ok (.aload_n 0, 1) := by decide +kernel
theorem own_d11_2 : decode jdk_52_method_15_code 2 = .ok (.arraylength, 1) := by decide +kernel
theorem own_d11_3 : decode jdk_52_method_15_code 3 = .ok (.isub, 1) := by decide +kernel
theorem own_d11_4 : decode jdk_52_method_15_code 4 = .ok (.bipush 31, 2) := by decide +kernel
theorem own_d11_6 : decode jdk_52_method_15_code 6 = .ok (.iushr, 1) := by decide +kernel
theorem own_d11_7 : decode jdk_52_method_15_code 7 = .ok (.i2b, 1) := by decide +kernel
theorem own_d11_8 : decode jdk_52_method_15_code 8 = .ok (.ireturn, 1) := by decide +kernel
theorem own_d12_0 : decode jdk_42_method_139_code 0 = .ok (.getstatic 38, 3) := by decide +kernel
theorem own_d12_3 : decode jdk_42_method_139_code 3 = .ok (.ifCond .eq 23, 3) := by decide +kernel
theorem own_d12_6 : decode jdk_42_method_139_code 6 = .ok (.iload_n 0, 1) := by decide +kernel
theorem own_d12_7 : decode jdk_42_method_139_code 7 = .ok (.invokestatic 1015, 3) := by decide +kernel
theorem own_d12_10 : decode jdk_42_method_139_code 10 = .ok (.ifCond .eq 16, 3) := by decide +kernel
theorem own_d12_13 : decode jdk_42_method_139_code 13 = .ok (.new 10, 3) := by decide +kernel
theorem own_d12_16 : decode jdk_42_method_139_code 16 = .ok (.dup, 1) := by decide +kernel
theorem own_d12_17 : decode jdk_42_method_139_code 17 = .ok (.iload_n 0, 1) := by decide +kernel
theorem own_d12_18 : decode jdk_42_method_139_code 18 = .ok (.invokestatic 1018, 3) := by decide +kernel
theorem own_d12_21 : decode jdk_42_method_139_code 21 = .ok (.iconst 0, 1) := by decide +kernel
theorem own_d12_22 : decode jdk_42_method_139_code 22 = .ok (.invokespecial 209, 3) := by decide +kernel
theorem own_d12_25 : decode jdk_42_method_139_code 25 = .ok (.areturn, 1) := by decide +kernel
theorem own_d13_0 : decode jdk_43_method_3_code 0 = .ok (.iload_n 0, 1) := by decide +kernel
theorem own_d13_1 : decode jdk_43_method_3_code 1 = .ok (.sipush 255, 3) := by decide +kernel
theorem own_d13_4 : decode jdk_43_method_3_code 4 = .ok (.if_icmp .gt 7, 3) := by decide +kernel
theorem own_d13_7 : decode jdk_43_method_3_code 7 = .ok (.iconst 1, 1) := by decide +kernel
theorem own_d13_8 : decode jdk_43_method_3_code 8 = .ok (.goto 4, 3) := by decide +kernel
theorem own_d13_11 : decode jdk_43_method_3_code 11 = .ok (.iconst 0, 1) := by decide +kernel
theorem own_d13_12 : decode jdk_43_method_3_code 12 = .ok (.ireturn, 1) := by decide +kernel
theorem own_d14_0 : decode jdk_43_method_46_code 0 = .ok (.iconst 1, 1) := by decide +kernel
theorem own_d14_1 : decode jdk_43_method_46_code 1 = .ok (.newarray .byte, 2) := by decide +kernel
theorem own_d14_3 : decode jdk_43_method_46_code 3 = .ok (.dup, 1) := by decide +kernel
theorem own_d14_4 : decode jdk_43_method_46_code 4 = .ok (.iconst 0, 1) := by decide +kernel
theorem own_d14_5 : decode jdk_43_method_46_code 5 = .ok (.iload_n 0, 1) := by decide +kernel
theorem own_d14_6 : decode jdk_43_method_46_code 6 = .ok (.i2b, 1) := by decide +kernel
theorem own_d14_7 : decode jdk_43_method_46_code 7 = .ok (.bastore, 1) := by decide +kernel
theorem own_d14_8 : decode jdk_43_method_46_code 8 = .ok (.areturn, 1) := by decide +kernel
theorem own_d15_0 : decode jdk_42_method_151_code 0 = .ok (.aload_n 0, 1) := by decide +kernel
theorem own_d15_1 : decode jdk_42_method_151_code 1 = .ok (.invokespecial 1, 3) := by decide +kernel
theorem own_d15_4 : decode jdk_42_method_151_code 4 = .ok (.aload_n 0, 1) := by decide +kernel
theorem own_d15_5 : decode jdk_42_method_151_code 5 = .ok (.aload_n 1, 1) := by decide +kernel
theorem own_d15_6 : decode jdk_42_method_151_code 6 = .ok (.putfield 9, 3) := by decide +kernel
theorem own_d15_9 : decode jdk_42_method_151_code 9 = .ok (.aload_n 0, 1) := by decide +kernel
theorem own_d15_10 : decode jdk_42_method_151_code 10 = .ok (.iload_n 2, 1) := by decide +kernel
theorem own_d15_11 : decode jdk_42_method_151_code 11 = .ok (.putfield 15, 3) := by decide +kernel
theorem own_d15_14 : decode jdk_42_method_151_code 14 = .ok (.return_, 1) := by decide +kernel
theorem own_pn0 : plainName "java/lang/StringLatin1" = true := by first | (simp [plainName, overriddenIn]; done) | decide +kernel
theorem own_pn1 : plainName "java/lang/String" = true := by first | (simp [plainName, overriddenIn]; done) | decide +kernel
theorem own_pn2 : plainName "java/lang/StringUTF16" = true := by first | (simp [plainName, overriddenIn]; done) | decide +kernel
theorem own_pn3 : plainName "com/example/signalbox/signalbox/tramlines/CardIsConductorPinLaw" = true := by first | (simp [plainName, overriddenIn]; done) | decide +kernel
theorem own_pn4 : plainName "java/lang/Record" = true := by first | (simp [plainName, overriddenIn]; done) | decide +kernel
theorem own_pn5 : plainName "com/example/signalbox/signalbox/tramlines/Card" = true := by first | (simp [plainName, overriddenIn]; done) | decide +kernel
theorem own_pd0 : parseMethodDescriptor "(C)Z" = some ⟨[.char], some .boolean⟩ := by decide +kernel
theorem own_pd1 : parseMethodDescriptor "(C)[B" = some ⟨[.char], some (.array .byte)⟩ := by decide +kernel
theorem own_pd2 : parseMethodDescriptor "([BB)V" = some ⟨[(.array .byte), .byte], none⟩ := by decide +kernel
theorem own_pd3 : parseMethodDescriptor "([CI[BII)I" = some ⟨[(.array .char), .int, (.array .byte), .int, .int], some .int⟩ := by decide +kernel
theorem own_pd4 : parseMethodDescriptor "([CII)[B" = some ⟨[(.array .char), .int, .int], some (.array .byte)⟩ := by decide +kernel
theorem own_pd5 : parseMethodDescriptor "([BI)B" = some ⟨[(.array .byte), .int], some .byte⟩ := by decide +kernel
theorem own_pd6 : parseMethodDescriptor "([CIILjava/lang/Void;)V" = some ⟨[(.array .char), .int, .int, (.object "java/lang/Void")], none⟩ := by decide +kernel
theorem own_pd7 : parseMethodDescriptor "([C)V" = some ⟨[(.array .char)], none⟩ := by decide +kernel
theorem own_pd8 : parseMethodDescriptor "(C)Ljava/lang/String;" = some ⟨[.char], some (.object "java/lang/String")⟩ := by decide +kernel
theorem own_pd9 : parseMethodDescriptor "()V" = some ⟨[], none⟩ := by decide +kernel
theorem own_pd10 : parseMethodDescriptor "(II)I" = some ⟨[.int, .int], some .int⟩ := by decide +kernel
theorem own_pd11 : parseMethodDescriptor "(III)Ljava/lang/String;" = some ⟨[.int, .int, .int], some (.object "java/lang/String")⟩ := by decide +kernel
theorem own_pd12 : parseMethodDescriptor "(Ljava/lang/String;ILjava/lang/String;II)V" = some ⟨[(.object "java/lang/String"), .int, (.object "java/lang/String"), .int, .int], none⟩ := by decide +kernel
theorem own_pd13 : parseMethodDescriptor "()Z" = some ⟨[], some .boolean⟩ := by decide +kernel
def own_min (xa : Int32) (xb : Int32) : Int32 := (if xb < xa then xb else xa)
theorem own_ef1 (m : MethodId) (xa : Int32) (xb : Int32) : entryFrame m #[(.int xa), (.int xb)] 2 = mkF m 0 #[.val (.int xa), .val (.int xb)] [] := by first | (simp [entryFrame, mkF, argsToLocals, Value.category]; done) | rfl
def Q1 (Z : State) (xa : Int32) (xb : Int32) (h0 : Heap) (n0 : Nat) (vr : Option Value) (hr : Heap) (Lr : List Loc) : Prop := vr = some (.int (own_min xa xb)) ∧ Fr n0 Lr ∧ hr = h0
set_option maxRecDepth 65536 in
set_option maxHeartbeats 40000000 in
theorem rm1 (l : Launch) (Z : State) (a0 : Array Value) (hw : ∀ d ∈ tables_1, d.before a0 Z = true) (ws : List Jvm.Cond) (xa : Int32) (xb : Int32) (h0 : Heap) (n0 : Nat) (Z0 : n0 ≤ h0.size) :
    MetFree l (⟨"java/lang/Math", "min", "(II)I"⟩ : MethodName) (head1 (Jvm.Cond.code (⟨"java/lang/Math", "min", "(II)I"⟩ : MethodName) jdk_29_method_69_code 2 (some .int) :: ws) ({ frames := 0, cells := 0, slots := 0, locals := 0 } : Room)) (fun aQ UQ => aQ = #[(.int xa), (.int xb)] ∧ Z.Warmed39 UQ.vm ∧ UQ.heap = h0) (fun _ _ _ _ _ => True) (fun _ UQ oQ VQ => ∃ vQ LQ, oQ = .returned vQ ∧ Q1 Z xa xb h0 n0 vQ VQ.heap LQ ∧ FrameEnd UQ oQ VQ LQ ({ frames := 0, cells := 0, slots := 0, locals := 0 } : Room).cells ({ frames := 0, cells := 0, slots := 0, locals := 0 } : Room).slots) := by
  refine MetFree.of_bodySF (Jvm.Free.JP.mathPlain rfl (by decide +kernel)) hisR ?_
  intro p e s m args below meth c s₁ Bd hml0 hP hK
  obtain ⟨rfl, hZ, hh⟩ := hP
  have hx := Bd.exec
  have hby := Bd.bytes
  have hml : c.maxLocals = 2 := hml0
  have hown : s.vm.findClass "java/lang/Math" = some m.cls := findClass_of_methodNamed Bd.named
  have hnm := (name_of_methodNamed Bd.named Bd.method).1
  have X0 : Stand p l e ({ frames := 0, cells := 0, slots := 0, locals := 0 } : Room) s m #[(.int xa), (.int xb)] below meth c s₁ [] 0 0 := Stand.of_body Bd
  have e0 : s₁.heap = h0 := by rw [← hh, Bd.state]; rfl
  have N0 := Fr.nil n0
  show Go p e below (EndQ s below (Q1 Z xa xb h0 n0) ({ frames := 0, cells := 0, slots := 0, locals := 0 } : Room).cells ({ frames := 0, cells := 0, slots := 0, locals := 0 } : Room).slots) s₁ (entryFrame m #[(.int xa), (.int xb)] 2)
  obtain ⟨Φ, hΦ⟩ : ∃ Φ, Φ = EndQ s below (Q1 Z xa xb h0 n0) ({ frames := 0, cells := 0, slots := 0, locals := 0 } : Room).cells ({ frames := 0, cells := 0, slots := 0, locals := 0 } : Room).slots := ⟨_, rfl⟩
  rw [← hΦ, own_ef1]
  show Go p e below Φ s₁ (mkF m 0 #[.val (.int xa), .val (.int xb)] [])
  refine Go.of (fun t k => XS.iloadN X0.here hx rfl (hb hby own_d1_0) rfl  k) ?_
  show Go p e below Φ s₁ (mkF m 1 #[.val (.int xa), .val (.int xb)] [(.int xa)])
  refine Go.of (fun t k => XS.iloadN X0.here hx rfl (hb hby own_d1_1) rfl  k) ?_
  show Go p e below Φ s₁ (mkF m 2 #[.val (.int xa), .val (.int xb)] [(.int xb), (.int xa)])
  by_cases hc2 : xb < xa
  · refine Go.of (fun t k => XS.icmpYes X0.here hx rfl (pc0 := 2) (pc' := 9) rfl (hb hby own_d1_2) rfl (XT.ii_gt_t hc2) (by decide) (by decide) k) ?_
    show Go p e below Φ s₁ (mkF m 9 #[.val (.int xa), .val (.int xb)] [])
    refine Go.of (fun t k => XS.iloadN X0.here hx rfl (hb hby own_d1_9) rfl  k) ?_
    show Go p e below Φ s₁ (mkF m 10 #[.val (.int xa), .val (.int xb)] [(.int xb)])
    rw [hΦ]
    refine Go.ret X0 hx Bd.notSynchronized Bd.returns rfl (Or.inl ⟨rfl, Or.inl rfl, _, rfl⟩) (hb hby own_d1_10) (by decide) (by decide) ?_
    rw [e0]
    exact ⟨by rw [own_min, if_pos hc2], N0, rfl⟩
  · refine Go.of (fun t k => XS.icmpNo X0.here hx rfl (hb hby own_d1_2) rfl (XT.ii_gt_f hc2) k) ?_
    show Go p e below Φ s₁ (mkF m 5 #[.val (.int xa), .val (.int xb)] [])
    refine Go.of (fun t k => XS.iloadN X0.here hx rfl (hb hby own_d1_5) rfl  k) ?_
    show Go p e below Φ s₁ (mkF m 6 #[.val (.int xa), .val (.int xb)] [(.int xa)])
    refine Go.of (fun t k => XS.goto X0.here hx rfl (pc0 := 6) (pc' := 10) rfl (hb hby own_d1_6) (by decide) (by decide) k) ?_
    show Go p e below Φ s₁ (mkF m 10 #[.val (.int xa), .val (.int xb)] [(.int xa)])
    rw [hΦ]
    refine Go.ret X0 hx Bd.notSynchronized Bd.returns rfl (Or.inl ⟨rfl, Or.inl rfl, _, rfl⟩) (hb hby own_d1_10) (by decide) (by decide) ?_
    rw [e0]
    exact ⟨by rw [own_min, if_neg hc2], N0, rfl⟩
def own_can (ch : Int32) : Int32 := (if (255 : Int32) < ch then (0 : Int32) else (1 : Int32))
theorem own_ef13 (m : MethodId) (ch : Int32) : entryFrame m #[(.int ch)] 1 = mkF m 0 #[.val (.int ch)] [] := by first | (simp [entryFrame, mkF, argsToLocals, Value.category]; done) | rfl
def Q13 (Z : State) (ch : Int32) (h0 : Heap) (n0 : Nat) (vr : Option Value) (hr : Heap) (Lr : List Loc) : Prop := vr = some (.int (own_can ch)) ∧ Fr n0 Lr ∧ hr = h0
set_option maxRecDepth 65536 in
set_option maxHeartbeats 40000000 in
theorem rm13 (l : Launch) (Z : State) (a0 : Array Value) (hw : ∀ d ∈ tables_1, d.before a0 Z = true) (ws : List Jvm.Cond) (ch : Int32) (h0 : Heap) (n0 : Nat) (Z0 : n0 ≤ h0.size) :
    MetFree l (⟨"java/lang/StringLatin1", "canEncode", "(C)Z"⟩ : MethodName) (head1 (Jvm.Cond.code (⟨"java/lang/StringLatin1", "canEncode", "(C)Z"⟩ : MethodName) jdk_43_method_3_code 1 (some .boolean) :: ws) ({ frames := 0, cells := 0, slots := 0, locals := 0 } : Room)) (fun aQ UQ => aQ = #[(.int ch)] ∧ Z.Warmed39 UQ.vm ∧ UQ.heap = h0) (fun _ _ _ _ _ => True) (fun _ UQ oQ VQ => ∃ vQ LQ, oQ = .returned vQ ∧ Q13 Z ch h0 n0 vQ VQ.heap LQ ∧ FrameEnd UQ oQ VQ LQ ({ frames := 0, cells := 0, slots := 0, locals := 0 } : Room).cells ({ frames := 0, cells := 0, slots := 0, locals := 0 } : Room).slots) := by
  refine MetFree.of_bodySF (plainFor_of_name own_pn0) hisR ?_
  intro p e s m args below meth c s₁ Bd hml0 hP hK
  obtain ⟨rfl, hZ, hh⟩ := hP
  have hx := Bd.exec
  have hby := Bd.bytes
  have hml : c.maxLocals = 1 := hml0
  have hown : s.vm.findClass "java/lang/StringLatin1" = some m.cls := findClass_of_methodNamed Bd.named
  have hnm := (name_of_methodNamed Bd.named Bd.method).1
  have X0 : Stand p l e ({ frames := 0, cells := 0, slots := 0, locals := 0 } : Room) s m #[(.int ch)] below meth c s₁ [] 0 0 := Stand.of_body Bd
  have e0 : s₁.heap = h0 := by rw [← hh, Bd.state]; rfl
  have N0 := Fr.nil n0
  show Go p e below (EndQ s below (Q13 Z ch h0 n0) ({ frames := 0, cells := 0, slots := 0, locals := 0 } : Room).cells ({ frames := 0, cells := 0, slots := 0, locals := 0 } : Room).slots) s₁ (entryFrame m #[(.int ch)] 1)
  obtain ⟨Φ, hΦ⟩ : ∃ Φ, Φ = EndQ s below (Q13 Z ch h0 n0) ({ frames := 0, cells := 0, slots := 0, locals := 0 } : Room).cells ({ frames := 0, cells := 0, slots := 0, locals := 0 } : Room).slots := ⟨_, rfl⟩
  rw [← hΦ, own_ef13]
  show Go p e below Φ s₁ (mkF m 0 #[.val (.int ch)] [])
  refine Go.of (fun t k => XS.iloadN X0.here hx rfl (hb hby own_d13_0) rfl  k) ?_
  show Go p e below Φ s₁ (mkF m 1 #[.val (.int ch)] [(.int ch)])
  refine Go.of (fun t k => XS.sipush X0.here hx rfl (hb hby own_d13_1) k) ?_
  show Go p e below Φ s₁ (mkF m 4 #[.val (.int ch)] [(.int (255 : Int32)), (.int ch)])
  by_cases hc4 : (255 : Int32) < ch
  · refine Go.of (fun t k => XS.icmpYes X0.here hx rfl (pc0 := 4) (pc' := 11) rfl (hb hby own_d13_4) rfl (XT.ii_gt_t hc4) (by decide) (by decide) k) ?_
    show Go p e below Φ s₁ (mkF m 11 #[.val (.int ch)] [])
    refine Go.of (fun t k => XS.iconst X0.here hx rfl (hb hby own_d13_11) k) ?_
    show Go p e below Φ s₁ (mkF m 12 #[.val (.int ch)] [(.int (0 : Int32))])
    rw [hΦ]
    refine Go.ret X0 hx Bd.notSynchronized Bd.returns rfl (Or.inl ⟨rfl, Or.inr (Or.inl rfl), _, rfl⟩) (hb hby own_d13_12) (by decide) (by decide) ?_
    rw [e0]
    exact ⟨by rw [own_can, if_pos hc4], N0, rfl⟩
  · refine Go.of (fun t k => XS.icmpNo X0.here hx rfl (hb hby own_d13_4) rfl (XT.ii_gt_f hc4) k) ?_
    show Go p e below Φ s₁ (mkF m 7 #[.val (.int ch)] [])
    refine Go.of (fun t k => XS.iconst X0.here hx rfl (hb hby own_d13_7) k) ?_
    show Go p e below Φ s₁ (mkF m 8 #[.val (.int ch)] [(.int (1 : Int32))])
    refine Go.of (fun t k => XS.goto X0.here hx rfl (pc0 := 8) (pc' := 12) rfl (hb hby own_d13_8) (by decide) (by decide) k) ?_
    show Go p e below Φ s₁ (mkF m 12 #[.val (.int ch)] [(.int (1 : Int32))])
    rw [hΦ]
    refine Go.ret X0 hx Bd.notSynchronized Bd.returns rfl (Or.inl ⟨rfl, Or.inr (Or.inl rfl), _, rfl⟩) (hb hby own_d13_12) (by decide) (by decide) ?_
    rw [e0]
    exact ⟨by rw [own_can, if_neg hc4], N0, rfl⟩
theorem own_ef14 (m : MethodId) (ch : Int32) : entryFrame m #[(.int ch)] 1 = mkF m 0 #[.val (.int ch)] [] := by first | (simp [entryFrame, mkF, argsToLocals, Value.category]; done) | rfl
def Q14 (Z : State) (ch : Int32) (h0 : Heap) (n0 : Nat) (vr : Option Value) (hr : Heap) (Lr : List Loc) : Prop := ∃ br : Addr, vr = some (.ref br) ∧ Fr n0 Lr ∧ Keep h0 hr [] ∧ h0.size ≤ br
set_option maxRecDepth 65536 in
set_option maxHeartbeats 40000000 in
theorem rm14 (l : Launch) (Z : State) (a0 : Array Value) (hw : ∀ d ∈ tables_1, d.before a0 Z = true) (ws : List Jvm.Cond) (ch : Int32) (h0 : Heap) (n0 : Nat) (Z0 : n0 ≤ h0.size) :
    MetFree l (⟨"java/lang/StringLatin1", "toBytes", "(C)[B"⟩ : MethodName) (head1 (Jvm.Cond.code (⟨"java/lang/StringLatin1", "toBytes", "(C)[B"⟩ : MethodName) jdk_43_method_46_code 1 (some (.array .byte)) :: ws) ({ frames := 0, cells := 1, slots := 1, locals := 0 } : Room)) (fun aQ UQ => aQ = #[(.int ch)] ∧ Z.Warmed39 UQ.vm ∧ UQ.heap = h0) (fun _ _ _ _ _ => True) (fun _ UQ oQ VQ => ∃ vQ LQ, oQ = .returned vQ ∧ Q14 Z ch h0 n0 vQ VQ.heap LQ ∧ FrameEnd UQ oQ VQ LQ ({ frames := 0, cells := 1, slots := 1, locals := 0 } : Room).cells ({ frames := 0, cells := 1, slots := 1, locals := 0 } : Room).slots) := by
  refine MetFree.of_bodySF (plainFor_of_name own_pn0) hisR ?_
  intro p e s m args below meth c s₁ Bd hml0 hP hK
  obtain ⟨rfl, hZ, hh⟩ := hP
  have hx := Bd.exec
  have hby := Bd.bytes
  have hml : c.maxLocals = 1 := hml0
  have hown : s.vm.findClass "java/lang/StringLatin1" = some m.cls := findClass_of_methodNamed Bd.named
  have hnm := (name_of_methodNamed Bd.named Bd.method).1
  have X0 : Stand p l e ({ frames := 0, cells := 1, slots := 1, locals := 0 } : Room) s m #[(.int ch)] below meth c s₁ [] 0 0 := Stand.of_body Bd
  have e0 : s₁.heap = h0 := by rw [← hh, Bd.state]; rfl
  have N0 := Fr.nil n0
  show Go p e below (EndQ s below (Q14 Z ch h0 n0) ({ frames := 0, cells := 1, slots := 1, locals := 0 } : Room).cells ({ frames := 0, cells := 1, slots := 1, locals := 0 } : Room).slots) s₁ (entryFrame m #[(.int ch)] 1)
  obtain ⟨Φ, hΦ⟩ : ∃ Φ, Φ = EndQ s below (Q14 Z ch h0 n0) ({ frames := 0, cells := 1, slots := 1, locals := 0 } : Room).cells ({ frames := 0, cells := 1, slots := 1, locals := 0 } : Room).slots := ⟨_, rfl⟩
  rw [← hΦ, own_ef14]
  show Go p e below Φ s₁ (mkF m 0 #[.val (.int ch)] [])
  refine Go.of (fun t k => XS.iconst X0.here hx rfl (hb hby own_d14_0) k) ?_
  show Go p e below Φ s₁ (mkF m 1 #[.val (.int ch)] [(.int (1 : Int32))])
  obtain ⟨T1, h1, k1, X1, e1, E1, A1, st1⟩ := newP X0 hx hZ (hw _ (List.mem_of_getElem? (i := 23) rfl)) e0 (g := (mkF m 1 #[.val (.int ch)] [(.int (1 : Int32))])) rfl (hb hby own_d14_1) rfl (by decide) (cap := 1) (by decide) (by decide) (by decide) (by decide)
  obtain ⟨b1, g1⟩ : ∃ z, z = h0.size := ⟨_, rfl⟩
  rw [← g1] at A1 st1
  have g_b1 : n0 ≤ b1 := Nat.le_trans Z0 (Nat.le_of_eq g1.symm)
  have sz_b1 : h0.size ≤ b1 := Nat.le_trans (Keep.refl h0 []).1 (Nat.le_of_eq g1.symm)
  have K1 := (Keep.refl h0 []).ext E1
  have Z1 := Nat.le_trans Z0 E1.1
  have V_b1 : Arv Z h1 b1 k1 .byte (1 : Int32) [(.int (0 : Int32))] (.int (0 : Int32)) := (Arv.new A1 (by decide)).pad (pad_rep [] (.int (0 : Int32)) 1)
  refine Go.of st1 ?_
  show Go p e below Φ T1 (mkF m 3 #[.val (.int ch)] [(.ref b1)])
  refine Go.of (fun t k => XS.dup X1.here hx rfl (hb hby own_d14_3) rfl rfl k) ?_
  show Go p e below Φ T1 (mkF m 4 #[.val (.int ch)] [(.ref b1), (.ref b1)])
  refine Go.of (fun t k => XS.iconst X1.here hx rfl (hb hby own_d14_4) k) ?_
  show Go p e below Φ T1 (mkF m 5 #[.val (.int ch)] [(.int (0 : Int32)), (.ref b1), (.ref b1)])
  refine Go.of (fun t k => XS.iloadN X1.here hx rfl (hb hby own_d14_5) rfl  k) ?_
  show Go p e below Φ T1 (mkF m 6 #[.val (.int ch)] [(.int ch), (.int (0 : Int32)), (.ref b1), (.ref b1)])
  refine Go.of (fun t k => XS.i2b X1.here hx rfl (hb hby own_d14_6) rfl k) ?_
  show Go p e below Φ T1 (mkF m 7 #[.val (.int ch)] [(.int (ch.toInt8.toInt32)), (.int (0 : Int32)), (.ref b1), (.ref b1)])
  obtain ⟨cl7, Ar7, q7, S7, N7, H7, G7⟩ := id V_b1
  have hin7 : ¬ ((0 : Int32) < 0 ∨ cl7.slots.size ≤ ((0 : Int32)).toNatClampNeg) := inb_of S7 ⟨by decide, by decide⟩
  obtain ⟨T2, h2, X2, e2, W2, st2⟩ := stB X1 hx hZ e1 Ar7 (j := (0 : Int32)) hin7 (g := (mkF m 7 #[.val (.int ch)] [(.int (ch.toInt8.toInt32)), (.int (0 : Int32)), (.ref b1), (.ref b1)])) rfl rfl (hb hby own_d14_7)
  have V_b1 : Arv Z h2 b1 k1 .byte (1 : Int32) [(.int (nar .byte (ch.toInt8.toInt32)))] (.int (0 : Int32)) := Arv.set Ar7 q7 S7 N7 H7 G7 (fits_nar_byte _) W2 0 rfl (Nat.le_of_ble_eq_true rfl)
  have N2 := Fr.snoc X2 N0 g_b1
  have K2 : Keep h0 h2 [] := K1.wr W2 (Or.inr sz_b1)
  have Z2 := Nat.le_trans Z1 (Keep.of_wr W2).1
  obtain ⟨lc2, X2, N2⟩ : ∃ lc, Stand p l e ({ frames := 0, cells := 1, slots := 1, locals := 0 } : Room) s m #[(.int ch)] below meth c T2 lc 1 1 ∧ Fr n0 lc := ⟨_, X2, N2⟩
  refine Go.of st2 ?_
  show Go p e below Φ T2 (mkF m 8 #[.val (.int ch)] [(.ref b1)])
  rw [hΦ]
  refine Go.ret X2 hx Bd.notSynchronized Bd.returns rfl (Or.inr (Or.inr (Or.inr (Or.inr ⟨rfl, rfl, rfl⟩)))) (hb hby own_d14_8) (by decide) (by decide) ?_
  rw [e2]
  exact ⟨b1, rfl, N2, K2, sz_b1⟩
theorem own_ef15 (m : MethodId) (oa : Addr) (va : Addr) (cd : Int32) : entryFrame m #[(.ref oa), (.ref va), (.int cd)] 3 = mkF m 0 #[.val (.ref oa), .val (.ref va), .val (.int cd)] [] := by first | (simp [entryFrame, mkF, argsToLocals, Value.category]; done) | rfl
def Q15 (Z : State) (oa : Addr) (va : Addr) (cd : Int32) (u : Value) (w : Int32) (h0 : Heap) (n0 : Nat) (vr : Option Value) (hr : Heap) (Lr : List Loc) : Prop := vr = none ∧ Fr n0 Lr ∧ Keep h0 hr [oa] ∧ Exa Z hr oa "java/lang/String"
set_option maxRecDepth 65536 in
set_option maxHeartbeats 40000000 in
theorem rm15 (l : Launch) (Z : State) (a0 : Array Value) (hw : ∀ d ∈ tables_1, d.before a0 Z = true) (ws : List Jvm.Cond) (oa : Addr) (va : Addr) (cd : Int32) (u : Value) (w : Int32) (h0 : Heap) (n0 : Nat) (Z0 : n0 ≤ h0.size) (F_oa_value : Fld Z h0 oa "java/lang/String" "value" "[B" u) (F_oa_coder : Fld Z h0 oa "java/lang/String" "coder" "B" (.int w)) (E_oa : Exa Z h0 oa "java/lang/String") (g_oa : n0 ≤ oa) :
    MetFree l (⟨"java/lang/String", "<init>", "([BB)V"⟩ : MethodName) (head1 (Jvm.Cond.code (⟨"java/lang/String", "<init>", "([BB)V"⟩ : MethodName) jdk_42_method_151_code 3 none :: ws) ({ frames := 1, cells := 0, slots := 0, locals := 12 } : Room)) (fun aQ UQ => aQ = #[(.ref oa), (.ref va), (.int cd)] ∧ Z.Warmed39 UQ.vm ∧ UQ.heap = h0) (fun _ _ _ _ _ => True) (fun _ UQ oQ VQ => ∃ vQ LQ, oQ = .returned vQ ∧ Q15 Z oa va cd u w h0 n0 vQ VQ.heap LQ ∧ FrameEnd UQ oQ VQ LQ ({ frames := 1, cells := 0, slots := 0, locals := 12 } : Room).cells ({ frames := 1, cells := 0, slots := 0, locals := 12 } : Room).slots) := by
  refine MetFree.of_bodySF (plainFor_of_name own_pn1) hisR ?_
  intro p e s m args below meth c s₁ Bd hml0 hP hK
  obtain ⟨rfl, hZ, hh⟩ := hP
  have hx := Bd.exec
  have hby := Bd.bytes
  have hml : c.maxLocals = 3 := hml0
  have hown : s.vm.findClass "java/lang/String" = some m.cls := findClass_of_methodNamed Bd.named
  have hnm := (name_of_methodNamed Bd.named Bd.method).1
  have X0 : Stand p l e ({ frames := 1, cells := 0, slots := 0, locals := 12 } : Room) s m #[(.ref oa), (.ref va), (.int cd)] below meth c s₁ [] 0 0 := Stand.of_body Bd
  have e0 : s₁.heap = h0 := by rw [← hh, Bd.state]; rfl
  have N0 := Fr.nil n0
  show Go p e below (EndQ s below (Q15 Z oa va cd u w h0 n0) ({ frames := 1, cells := 0, slots := 0, locals := 12 } : Room).cells ({ frames := 1, cells := 0, slots := 0, locals := 12 } : Room).slots) s₁ (entryFrame m #[(.ref oa), (.ref va), (.int cd)] 3)
  obtain ⟨Φ, hΦ⟩ : ∃ Φ, Φ = EndQ s below (Q15 Z oa va cd u w h0 n0) ({ frames := 1, cells := 0, slots := 0, locals := 12 } : Room).cells ({ frames := 1, cells := 0, slots := 0, locals := 12 } : Room).slots := ⟨_, rfl⟩
  rw [← hΦ, own_ef15]
  show Go p e below Φ s₁ (mkF m 0 #[.val (.ref oa), .val (.ref va), .val (.int cd)] [])
  refine Go.of (fun t k => XS.aloadN X0.here hx rfl (hb hby own_d15_0) rfl rfl  k) ?_
  show Go p e below Φ s₁ (mkF m 1 #[.val (.ref oa), .val (.ref va), .val (.int cd)] [(.ref oa)])
  obtain ⟨T1, X1, e1, st1⟩ := initO X0 hx hZ hown (hw _ (List.mem_of_getElem? (i := 19) rfl)) (hw _ (List.mem_of_getElem? (i := 20) rfl)) (hw _ (List.mem_of_getElem? (i := 21) rfl)) e0 (g := (mkF m 1 #[.val (.ref oa), .val (.ref va), .val (.int cd)] [(.ref oa)])) rfl (by rw [hml]; rfl) rfl (hb hby own_d15_1) (by decide) (W := 0) (by show 2 * 0 + _ ≤ _; exact Nat.le_of_eq rfl) (by decide)
  refine Go.of st1 ?_
  show Go p e below Φ T1 (mkF m 4 #[.val (.ref oa), .val (.ref va), .val (.int cd)] [])
  refine Go.of (fun t k => XS.aloadN X1.here hx rfl (hb hby own_d15_4) rfl rfl  k) ?_
  show Go p e below Φ T1 (mkF m 5 #[.val (.ref oa), .val (.ref va), .val (.int cd)] [(.ref oa)])
  refine Go.of (fun t k => XS.aloadN X1.here hx rfl (hb hby own_d15_5) rfl rfl  k) ?_
  show Go p e below Φ T1 (mkF m 6 #[.val (.ref oa), .val (.ref va), .val (.int cd)] [(.ref va), (.ref oa)])
  obtain ⟨T2, h2, X2, e2, W2, st2⟩ := putF X1 hx hZ hown (host := "") (Or.inl (hw _ (List.mem_of_getElem? (i := 28) rfl))) Via.refl e1 F_oa_value E_oa (Or.inr ⟨(hw _ (List.mem_of_getElem? (i := 24) rfl)), rfl, hnm⟩) (hw _ (List.mem_of_getElem? (i := 9) rfl)) (ty := (.array .byte)) (by decide) rfl rfl (g := (mkF m 6 #[.val (.ref oa), .val (.ref va), .val (.int cd)] [(.ref va), (.ref oa)])) rfl rfl (hb hby own_d15_6)
  have N2 := Fr.snoc X2 N0 g_oa
  have F_oa_value := F_oa_value.same W2
  have F_oa_coder := F_oa_coder.other W2 (Or.inr (slot_ne (Or.inr (hw _ (List.mem_of_getElem? (i := 25) rfl))) (Or.inr (hw _ (List.mem_of_getElem? (i := 24) rfl))) (by decide) (t := .byte) (t' := (.array .byte)) (by decide) (by decide)))
  have E_oa := E_oa.wr W2
  have K2 : Keep h0 h2 [oa] := (Keep.refl h0 [oa]).wr W2 (Or.inl (List.mem_of_getElem? (i := 0) rfl))
  have Z2 := Nat.le_trans Z0 (Keep.of_wr W2).1
  obtain ⟨lc2, X2, N2⟩ : ∃ lc, Stand p l e ({ frames := 1, cells := 0, slots := 0, locals := 12 } : Room) s m #[(.ref oa), (.ref va), (.int cd)] below meth c T2 lc 0 0 ∧ Fr n0 lc := ⟨_, X2, N2⟩
  refine Go.of st2 ?_
  show Go p e below Φ T2 (mkF m 9 #[.val (.ref oa), .val (.ref va), .val (.int cd)] [])
  refine Go.of (fun t k => XS.aloadN X2.here hx rfl (hb hby own_d15_9) rfl rfl  k) ?_
  show Go p e below Φ T2 (mkF m 10 #[.val (.ref oa), .val (.ref va), .val (.int cd)] [(.ref oa)])
  refine Go.of (fun t k => XS.iloadN X2.here hx rfl (hb hby own_d15_10) rfl  k) ?_
  show Go p e below Φ T2 (mkF m 11 #[.val (.ref oa), .val (.ref va), .val (.int cd)] [(.int cd), (.ref oa)])
  obtain ⟨T3, h3, X3, e3, W3, st3⟩ := putFN X2 hx hZ hown (hw _ (List.mem_of_getElem? (i := 29) rfl)) Via.refl e2 F_oa_coder E_oa (Or.inr ⟨(hw _ (List.mem_of_getElem? (i := 25) rfl)), rfl, hnm⟩) (hw _ (List.mem_of_getElem? (i := 9) rfl)) (ty := .byte) (v' := (.int (nar .byte cd))) (by decide) rfl (fits_nar_byte _) (g := (mkF m 11 #[.val (.ref oa), .val (.ref va), .val (.int cd)] [(.int cd), (.ref oa)])) rfl rfl (hb hby own_d15_11)
  have N3 := Fr.snoc X3 N2 g_oa
  have F_oa_coder := F_oa_coder.same W3
  have F_oa_value := F_oa_value.other W3 (Or.inr (slot_ne (Or.inr (hw _ (List.mem_of_getElem? (i := 24) rfl))) (Or.inr (hw _ (List.mem_of_getElem? (i := 25) rfl))) (by decide) (t := (.array .byte)) (t' := .byte) (by decide) (by decide)))
  have E_oa := E_oa.wr W3
  have K3 : Keep h0 h3 [oa] := K2.wr W3 (Or.inl (List.mem_of_getElem? (i := 0) rfl))
  have Z3 := Nat.le_trans Z2 (Keep.of_wr W3).1
  obtain ⟨lc3, X3, N3⟩ : ∃ lc, Stand p l e ({ frames := 1, cells := 0, slots := 0, locals := 12 } : Room) s m #[(.ref oa), (.ref va), (.int cd)] below meth c T3 lc 0 0 ∧ Fr n0 lc := ⟨_, X3, N3⟩
  refine Go.of st3 ?_
  show Go p e below Φ T3 (mkF m 14 #[.val (.ref oa), .val (.ref va), .val (.int cd)] [])
  rw [hΦ]
  refine Go.retV X3 hx Bd.notSynchronized Bd.returns (hb hby own_d15_14) (by decide) (by decide) ?_
  rw [e3]
  exact ⟨rfl, N3, K3, E_oa⟩
theorem own_ef12 (m : MethodId) (ch : Int32) : entryFrame m #[(.int ch)] 1 = mkF m 0 #[.val (.int ch)] [] := by first | (simp [entryFrame, mkF, argsToLocals, Value.category]; done) | rfl
def Q12 (Z : State) (ch : Int32) (w : Int32) (h0 : Heap) (n0 : Nat) (vr : Option Value) (hr : Heap) (Lr : List Loc) : Prop := ∃ br : Addr, vr = some (.ref br) ∧ Fr n0 Lr ∧ Keep h0 hr [] ∧ h0.size ≤ br
set_option maxRecDepth 65536 in
set_option maxHeartbeats 40000000 in
theorem rm12 (l : Launch) (Z : State) (a0 : Array Value) (hw : ∀ d ∈ tables_1, d.before a0 Z = true) (ws : List Jvm.Cond) (ch : Int32) (w : Int32) (h0 : Heap) (n0 : Nat) (Z0 : n0 ≤ h0.size) (S_COMPACT_STRINGS : Sta Z h0 "java/lang/String" "COMPACT_STRINGS" "Z" (.int w)) (hw0 : ¬ (w = (0 : Int32))) (hc : ¬ ((255 : Int32) < ch)) :
    MetFree l (⟨"java/lang/String", "valueOf", "(C)Ljava/lang/String;"⟩ : MethodName) (head1 (Jvm.Cond.code (⟨"java/lang/String", "valueOf", "(C)Ljava/lang/String;"⟩ : MethodName) jdk_42_method_139_code 1 (some (.object "java/lang/String")) :: ws) ({ frames := 2, cells := 2, slots := 5, locals := 27 } : Room)) (fun aQ UQ => aQ = #[(.int ch)] ∧ Z.Warmed39 UQ.vm ∧ UQ.heap = h0) (fun _ _ _ _ _ => True) (fun _ UQ oQ VQ => ∃ vQ LQ, oQ = .returned vQ ∧ Q12 Z ch w h0 n0 vQ VQ.heap LQ ∧ FrameEnd UQ oQ VQ LQ ({ frames := 2, cells := 2, slots := 5, locals := 27 } : Room).cells ({ frames := 2, cells := 2, slots := 5, locals := 27 } : Room).slots) := by
  refine MetFree.of_bodySF (plainFor_of_name own_pn1) hisR ?_
  intro p e s m args below meth c s₁ Bd hml0 hP hK
  obtain ⟨rfl, hZ, hh⟩ := hP
  have hx := Bd.exec
  have hby := Bd.bytes
  have hml : c.maxLocals = 1 := hml0
  have hown : s.vm.findClass "java/lang/String" = some m.cls := findClass_of_methodNamed Bd.named
  have hnm := (name_of_methodNamed Bd.named Bd.method).1
  have X0 : Stand p l e ({ frames := 2, cells := 2, slots := 5, locals := 27 } : Room) s m #[(.int ch)] below meth c s₁ [] 0 0 := Stand.of_body Bd
  have e0 : s₁.heap = h0 := by rw [← hh, Bd.state]; rfl
  have N0 := Fr.nil n0
  show Go p e below (EndQ s below (Q12 Z ch w h0 n0) ({ frames := 2, cells := 2, slots := 5, locals := 27 } : Room).cells ({ frames := 2, cells := 2, slots := 5, locals := 27 } : Room).slots) s₁ (entryFrame m #[(.int ch)] 1)
  obtain ⟨Φ, hΦ⟩ : ∃ Φ, Φ = EndQ s below (Q12 Z ch w h0 n0) ({ frames := 2, cells := 2, slots := 5, locals := 27 } : Room).cells ({ frames := 2, cells := 2, slots := 5, locals := 27 } : Room).slots := ⟨_, rfl⟩
  rw [← hΦ, own_ef12]
  show Go p e below Φ s₁ (mkF m 0 #[.val (.int ch)] [])
  obtain ⟨T1, X1, e1, st1⟩ := getS2 X0 hx hZ hown (host := "") (Or.inl (hw _ (List.mem_of_getElem? (i := 57) rfl))) Via.refl e0 S_COMPACT_STRINGS (g := (mkF m 0 #[.val (.int ch)] [])) rfl (hb hby own_d12_0)
  refine Go.of st1 ?_
  show Go p e below Φ T1 (mkF m 3 #[.val (.int ch)] [(.int w)])
  refine Go.of (fun t k => XS.ifNo X1.here hx rfl (hb hby own_d12_3) rfl (XT.i0_eq_f hw0) k) ?_
  show Go p e below Φ T1 (mkF m 6 #[.val (.int ch)] [])
  refine Go.of (fun t k => XS.iloadN X1.here hx rfl (hb hby own_d12_6) rfl  k) ?_
  show Go p e below Φ T1 (mkF m 7 #[.val (.int ch)] [(.int ch)])
  obtain ⟨_, _, ⟨T2, L2, k2, n2⟩, -, X2, ⟨Lc2, hQ2, l2, y2, z2⟩, st2⟩ := Jvm.LawKit.callS X1 hx (y := (⟨"java/lang/StringLatin1", "canEncode", "(C)Z"⟩ : MethodName)) hown (mvT hZ (hw _ (List.mem_of_getElem? (i := 72) rfl))) (mvT hZ (hw _ (List.mem_of_getElem? (i := 73) rfl))) (mvT hZ (hw _ (List.mem_of_getElem? (i := 74) rfl))) (mvT hZ (hw _ (List.mem_of_getElem? (i := 75) rfl))) (by decide) (backOf (W := 0) (rm13 l Z a0 hw [] ch h0 n0 Z0) hZ (hw _ (List.mem_of_getElem? (i := 75) rfl)) (hw _ (List.mem_of_getElem? (i := 74) rfl)) (by decide) (by decide)) (g := (mkF m 7 #[.val (.int ch)] [(.int ch)])) rfl (by rw [hml]; rfl) (argsL := [(.int ch)]) (rest := []) (lenOf own_pd0 rfl) rfl (by show 2 * 0 + _ ≤ _; exact Nat.le_of_eq rfl) (hb hby own_d12_7) (fun _ _ => ⟨rfl, e1, (by decide : 0 + 0 ≤ _), (by decide : 0 + 0 ≤ _)⟩)
  dsimp only [Pt.U, Pt.locs, Pt.cells, Pt.slots] at X2 l2 y2 z2 st2 hQ2
  subst l2 y2 z2
  obtain ⟨rfl, N2q, e2q⟩ := hQ2
  have N2 := Fr.app N0 N2q
  obtain ⟨lc2, X2, N2⟩ : ∃ lc, Stand p l e ({ frames := 2, cells := 2, slots := 5, locals := 27 } : Room) s m #[(.int ch)] below meth c T2 lc 0 0 ∧ Fr n0 lc := ⟨_, X2, N2⟩
  refine Go.of st2 ?_
  show Go p e below Φ T2 (mkF m 10 #[.val (.int ch)] [(.int (own_can ch))])
  refine Go.of (fun t k => XS.ifNo X2.here hx rfl (hb hby own_d12_10) rfl (XT.i0_eq_f (by rw [own_can, if_neg hc]; decide)) k) ?_
  show Go p e below Φ T2 (mkF m 13 #[.val (.int ch)] [])
  obtain ⟨T3, h3, X3, e3, E3, A3, D3, -, st3⟩ := newO X2 hx hZ hown (hw _ (List.mem_of_getElem? (i := 76) rfl)) (hw _ (List.mem_of_getElem? (i := 9) rfl)) (hw _ (List.mem_of_getElem? (i := 10) rfl)) (e2q) (g := (mkF m 13 #[.val (.int ch)] [])) rfl (hb hby own_d12_13) (by decide) (by decide)
  obtain ⟨b3, g3⟩ : ∃ z, z = h0.size := ⟨_, rfl⟩
  rw [← g3] at A3 D3 st3
  have g_b3 : n0 ≤ b3 := Nat.le_trans Z0 (Nat.le_of_eq g3.symm)
  have sz_b3 : h0.size ≤ b3 := Nat.le_trans (Keep.refl h0 []).1 (Nat.le_of_eq g3.symm)
  have K3 := (Keep.refl h0 []).ext E3
  have Z3 := Nat.le_trans Z0 E3.1
  have S_COMPACT_STRINGS := S_COMPACT_STRINGS.ext E3
  have E_b3 := A3
  have F_b3_value : Fld Z h3 b3 "java/lang/String" "value" "[B" .null := D3 (Or.inr (hw _ (List.mem_of_getElem? (i := 24) rfl))) (ty := (.array .byte)) (by decide)
  have F_b3_coder : Fld Z h3 b3 "java/lang/String" "coder" "B" (.int (0 : Int32)) := D3 (Or.inr (hw _ (List.mem_of_getElem? (i := 25) rfl))) (ty := .byte) (by decide)
  refine Go.of st3 ?_
  show Go p e below Φ T3 (mkF m 16 #[.val (.int ch)] [(.ref b3)])
  refine Go.of (fun t k => XS.dup X3.here hx rfl (hb hby own_d12_16) rfl rfl k) ?_
  show Go p e below Φ T3 (mkF m 17 #[.val (.int ch)] [(.ref b3), (.ref b3)])
  refine Go.of (fun t k => XS.iloadN X3.here hx rfl (hb hby own_d12_17) rfl  k) ?_
  show Go p e below Φ T3 (mkF m 18 #[.val (.int ch)] [(.int ch), (.ref b3), (.ref b3)])
  obtain ⟨_, _, ⟨T4, L4, k4, n4⟩, -, X4, ⟨Lc4, hQ4, l4, y4, z4⟩, st4⟩ := Jvm.LawKit.callS X3 hx (y := (⟨"java/lang/StringLatin1", "toBytes", "(C)[B"⟩ : MethodName)) hown (mvT hZ (hw _ (List.mem_of_getElem? (i := 77) rfl))) (mvT hZ (hw _ (List.mem_of_getElem? (i := 78) rfl))) (mvT hZ (hw _ (List.mem_of_getElem? (i := 74) rfl))) (mvT hZ (hw _ (List.mem_of_getElem? (i := 79) rfl))) (by decide) (backOf (W := 2) (rm14 l Z a0 hw [] ch h3 n0 Z3 ) hZ (hw _ (List.mem_of_getElem? (i := 79) rfl)) (hw _ (List.mem_of_getElem? (i := 74) rfl)) (by decide) (by decide)) (g := (mkF m 18 #[.val (.int ch)] [(.int ch), (.ref b3), (.ref b3)])) rfl (by rw [hml]; rfl) (argsL := [(.int ch)]) (rest := [(.ref b3), (.ref b3)]) (lenOf own_pd1 rfl) rfl (by show 2 * 0 + _ ≤ _; exact Nat.le_of_eq rfl) (hb hby own_d12_18) (fun _ _ => ⟨rfl, e3, (by decide : 1 + 1 ≤ _), (by decide : 4 + 1 ≤ _)⟩)
  dsimp only [Pt.U, Pt.locs, Pt.cells, Pt.slots] at X4 l4 y4 z4 st4 hQ4
  subst l4 y4 z4
  obtain ⟨b4, rfl, N4q, K4q, s4q⟩ := hQ4
  have N4 := Fr.app N2 N4q
  obtain ⟨lc4, X4, N4⟩ : ∃ lc, Stand p l e ({ frames := 2, cells := 2, slots := 5, locals := 27 } : Room) s m #[(.int ch)] below meth c T4 lc 2 5 ∧ Fr n0 lc := ⟨_, X4, N4⟩
  have ne_b3_b4 : b3 ≠ b4 := Nat.ne_of_lt (Nat.lt_of_lt_of_le E_b3.lt s4q)
  have g_b4 : n0 ≤ b4 := Nat.le_trans Z3 s4q
  have sz_b4 : h0.size ≤ b4 := Nat.le_trans K3.1 s4q
  have E_b3 := E_b3.keep K4q
  have F_b3_value := F_b3_value.keep K4q nin0
  have F_b3_coder := F_b3_coder.keep K4q nin0
  have K4 := K3.trans K4q all0
  have Z4 := Nat.le_trans Z3 K4q.1
  refine Go.of st4 ?_
  show Go p e below Φ T4 (mkF m 21 #[.val (.int ch)] [(.ref b4), (.ref b3), (.ref b3)])
  refine Go.of (fun t k => XS.iconst X4.here hx rfl (hb hby own_d12_21) k) ?_
  show Go p e below Φ T4 (mkF m 22 #[.val (.int ch)] [(.int (0 : Int32)), (.ref b4), (.ref b3), (.ref b3)])
  obtain ⟨_, _, ⟨T5, L5, k5, n5⟩, -, X5, ⟨Lc5, hQ5, l5, y5, z5⟩, st5⟩ := X4.specialBack hx (y := (⟨"java/lang/String", "<init>", "([BB)V"⟩ : MethodName)) rfl hown (mvT hZ (hw _ (List.mem_of_getElem? (i := 80) rfl))) (mvT hZ (hw _ (List.mem_of_getElem? (i := 81) rfl))) (mvT hZ (hw _ (List.mem_of_getElem? (i := 82) rfl))) (by decide) (backOf (W := 1) (rm15 l Z a0 hw [] b3 b4 (0 : Int32) .null (0 : Int32) T4.heap n0 Z4 F_b3_value F_b3_coder E_b3 g_b3) hZ (hw _ (List.mem_of_getElem? (i := 82) rfl)) (hw _ (List.mem_of_getElem? (i := 10) rfl)) (by decide) (by decide)) (g := (mkF m 22 #[.val (.int ch)] [(.int (0 : Int32)), (.ref b4), (.ref b3), (.ref b3)])) rfl (by rw [hml]; rfl) (Steps.refl _) (a := b3) (argsL := [(.ref b4), (.int (0 : Int32))]) (rest := [(.ref b3)]) (lenOf own_pd2 rfl) rfl (by show 2 * 0 + _ ≤ _; exact Nat.le_of_eq rfl) (hb hby own_d12_22) (fun _ _ => ⟨rfl, rfl, (by decide : 2 + 0 ≤ _), (by decide : 5 + 0 ≤ _)⟩)
  dsimp only [Pt.U, Pt.locs, Pt.cells, Pt.slots] at X5 l5 y5 z5 st5 hQ5
  subst l5 y5 z5
  obtain ⟨rfl, N5q, K5q, c5_0⟩ := hQ5
  have N5 := Fr.app N4 N5q
  obtain ⟨lc5, X5, N5⟩ : ∃ lc, Stand p l e ({ frames := 2, cells := 2, slots := 5, locals := 27 } : Room) s m #[(.int ch)] below meth c T5 lc 2 5 ∧ Fr n0 lc := ⟨_, X5, N5⟩
  have E_b3 := c5_0
  have K5 := K4.trans K5q (allS (Or.inr sz_b3) all0)
  have Z5 := Nat.le_trans Z4 K5q.1
  refine Go.tr st5 ?_
  show Go p e below Φ T5 (mkF m 25 #[.val (.int ch)] [(.ref b3)])
  rw [hΦ]
  refine Go.ret X5 hx Bd.notSynchronized Bd.returns rfl (Or.inr (Or.inr (Or.inr (Or.inr ⟨rfl, rfl, rfl⟩)))) (hb hby own_d12_25) (by decide) (by decide) ?_
  exact ⟨b3, rfl, N5, K5, sz_b3⟩
theorem own_ef10 (m : MethodId) (ca : Addr) (ba : Addr) : entryFrame m #[(.ref ca), (.int (0 : Int32)), (.ref ba), (.int (0 : Int32)), (.int (2 : Int32))] 7 = mkF m 0 #[.val (.ref ca), .val (.int (0 : Int32)), .val (.ref ba), .val (.int (0 : Int32)), .val (.int (2 : Int32)), .unset, .unset] [] := by first | (simp [entryFrame, mkF, argsToLocals, Value.category]; done) | rfl
def Q10 (Z : State) (ca : Addr) (ba : Addr) (kc : ClassId) (x0 : Int32) (x1 : Int32) (kb : ClassId) (h0 : Heap) (n0 : Nat) (vr : Option Value) (hr : Heap) (Lr : List Loc) : Prop := vr = some (.int (2 : Int32)) ∧ Fr n0 Lr ∧ Keep h0 hr [ba] ∧ Arv Z hr ba kb .byte (2 : Int32) [(.int (nar .byte (x0.toInt8.toInt32))), (.int (nar .byte (x1.toInt8.toInt32)))] (.int (0 : Int32))
set_option maxRecDepth 65536 in
set_option maxHeartbeats 40000000 in
theorem rm10 (l : Launch) (Z : State) (a0 : Array Value) (hw : ∀ d ∈ tables_1, d.before a0 Z = true) (ws : List Jvm.Cond) (ca : Addr) (ba : Addr) (kc : ClassId) (x0 : Int32) (x1 : Int32) (kb : ClassId) (h0 : Heap) (n0 : Nat) (Z0 : n0 ≤ h0.size) (V_ca : Arv Z h0 ca kc .char (2 : Int32) [(.int x0), (.int x1)] (.int (0 : Int32))) (V_ba : Arv Z h0 ba kb .byte (2 : Int32) [(.int (0 : Int32)), (.int (0 : Int32))] (.int (0 : Int32))) (g_ba : n0 ≤ ba) (ne_ca_ba : ca ≠ ba) (hx0 : ¬ ((255 : Int32) < x0)) (hx1 : ¬ ((255 : Int32) < x1)) :
    MetFree l (⟨"java/lang/StringUTF16", "compress", "([CI[BII)I"⟩ : MethodName) (head1 (Jvm.Cond.code (⟨"java/lang/StringUTF16", "compress", "([CI[BII)I"⟩ : MethodName) jdk_52_method_21_code 7 (some .int) :: ws) ({ frames := 0, cells := 0, slots := 0, locals := 0 } : Room)) (fun aQ UQ => aQ = #[(.ref ca), (.int (0 : Int32)), (.ref ba), (.int (0 : Int32)), (.int (2 : Int32))] ∧ Z.Warmed39 UQ.vm ∧ UQ.heap = h0) (fun _ _ _ _ _ => True) (fun _ UQ oQ VQ => ∃ vQ LQ, oQ = .returned vQ ∧ Q10 Z ca ba kc x0 x1 kb h0 n0 vQ VQ.heap LQ ∧ FrameEnd UQ oQ VQ LQ ({ frames := 0, cells := 0, slots := 0, locals := 0 } : Room).cells ({ frames := 0, cells := 0, slots := 0, locals := 0 } : Room).slots) := by
  refine MetFree.of_bodySF (plainFor_of_name own_pn2) hisR ?_
  intro p e s m args below meth c s₁ Bd hml0 hP hK
  obtain ⟨rfl, hZ, hh⟩ := hP
  have hx := Bd.exec
  have hby := Bd.bytes
  have hml : c.maxLocals = 7 := hml0
  have hown : s.vm.findClass "java/lang/StringUTF16" = some m.cls := findClass_of_methodNamed Bd.named
  have hnm := (name_of_methodNamed Bd.named Bd.method).1
  have X0 : Stand p l e ({ frames := 0, cells := 0, slots := 0, locals := 0 } : Room) s m #[(.ref ca), (.int (0 : Int32)), (.ref ba), (.int (0 : Int32)), (.int (2 : Int32))] below meth c s₁ [] 0 0 := Stand.of_body Bd
  have e0 : s₁.heap = h0 := by rw [← hh, Bd.state]; rfl
  have N0 := Fr.nil n0
  show Go p e below (EndQ s below (Q10 Z ca ba kc x0 x1 kb h0 n0) ({ frames := 0, cells := 0, slots := 0, locals := 0 } : Room).cells ({ frames := 0, cells := 0, slots := 0, locals := 0 } : Room).slots) s₁ (entryFrame m #[(.ref ca), (.int (0 : Int32)), (.ref ba), (.int (0 : Int32)), (.int (2 : Int32))] 7)
  obtain ⟨Φ, hΦ⟩ : ∃ Φ, Φ = EndQ s below (Q10 Z ca ba kc x0 x1 kb h0 n0) ({ frames := 0, cells := 0, slots := 0, locals := 0 } : Room).cells ({ frames := 0, cells := 0, slots := 0, locals := 0 } : Room).slots := ⟨_, rfl⟩
  rw [← hΦ, own_ef10]
  show Go p e below Φ s₁ (mkF m 0 #[.val (.ref ca), .val (.int (0 : Int32)), .val (.ref ba), .val (.int (0 : Int32)), .val (.int (2 : Int32)), .unset, .unset] [])
  refine Go.of (fun t k => XS.iconst X0.here hx rfl (hb hby own_d10_0) k) ?_
  show Go p e below Φ s₁ (mkF m 1 #[.val (.ref ca), .val (.int (0 : Int32)), .val (.ref ba), .val (.int (0 : Int32)), .val (.int (2 : Int32)), .unset, .unset] [(.int (0 : Int32))])
  refine Go.of (fun t k => XS.istore X0.here hx rfl (hb hby own_d10_1) rfl (l' := #[.val (.ref ca), .val (.int (0 : Int32)), .val (.ref ba), .val (.int (0 : Int32)), .val (.int (2 : Int32)), .val (.int (0 : Int32)), .unset]) rfl k) ?_
  show Go p e below Φ s₁ (mkF m 3 #[.val (.ref ca), .val (.int (0 : Int32)), .val (.ref ba), .val (.int (0 : Int32)), .val (.int (2 : Int32)), .val (.int (0 : Int32)), .unset] [])
  refine Go.of (fun t k => XS.iload X0.here hx rfl (hb hby own_d10_3) rfl  k) ?_
  show Go p e below Φ s₁ (mkF m 5 #[.val (.ref ca), .val (.int (0 : Int32)), .val (.ref ba), .val (.int (0 : Int32)), .val (.int (2 : Int32)), .val (.int (0 : Int32)), .unset] [(.int (0 : Int32))])
  refine Go.of (fun t k => XS.iload X0.here hx rfl (hb hby own_d10_5) rfl  k) ?_
  show Go p e below Φ s₁ (mkF m 7 #[.val (.ref ca), .val (.int (0 : Int32)), .val (.ref ba), .val (.int (0 : Int32)), .val (.int (2 : Int32)), .val (.int (0 : Int32)), .unset] [(.int (2 : Int32)), (.int (0 : Int32))])
  refine Go.of (fun t k => XS.icmpNo X0.here hx rfl (hb hby own_d10_7) rfl (XT.ii_ge_f (by decide)) k) ?_
  show Go p e below Φ s₁ (mkF m 10 #[.val (.ref ca), .val (.int (0 : Int32)), .val (.ref ba), .val (.int (0 : Int32)), .val (.int (2 : Int32)), .val (.int (0 : Int32)), .unset] [])
  refine Go.of (fun t k => XS.aloadN X0.here hx rfl (hb hby own_d10_10) rfl rfl  k) ?_
  show Go p e below Φ s₁ (mkF m 11 #[.val (.ref ca), .val (.int (0 : Int32)), .val (.ref ba), .val (.int (0 : Int32)), .val (.int (2 : Int32)), .val (.int (0 : Int32)), .unset] [(.ref ca)])
  refine Go.of (fun t k => XS.iloadN X0.here hx rfl (hb hby own_d10_11) rfl  k) ?_
  show Go p e below Φ s₁ (mkF m 12 #[.val (.ref ca), .val (.int (0 : Int32)), .val (.ref ba), .val (.int (0 : Int32)), .val (.int (2 : Int32)), .val (.int (0 : Int32)), .unset] [(.int (0 : Int32)), (.ref ca)])
  obtain ⟨cl12, Ar12, q12, S12, N12, H12, G12⟩ := id V_ca
  have hin12 : ¬ ((0 : Int32) < 0 ∨ cl12.slots.size ≤ ((0 : Int32)).toNatClampNeg) := inb_of S12 ⟨by decide, by decide⟩
  have hat12 : cl12.slots[((0 : Int32)).toNatClampNeg]? = some (.int x0) := H12.at hin12 rfl
  refine Go.of (fun t k => X0.caload hx (j := (0 : Int32)) (v := (.int x0)) (own_at_ e0 Ar12.1) (State.isArrayOf_alike hZ.alike Ar12.2.1) Ar12.2.2 hin12 hat12 (g := (mkF m 12 #[.val (.ref ca), .val (.int (0 : Int32)), .val (.ref ba), .val (.int (0 : Int32)), .val (.int (2 : Int32)), .val (.int (0 : Int32)), .unset] [(.int (0 : Int32)), (.ref ca)])) rfl rfl (hb hby own_d10_12) t k) ?_
  show Go p e below Φ s₁ (mkF m 13 #[.val (.ref ca), .val (.int (0 : Int32)), .val (.ref ba), .val (.int (0 : Int32)), .val (.int (2 : Int32)), .val (.int (0 : Int32)), .unset] [(.int x0)])
  refine Go.of (fun t k => XS.istore X0.here hx rfl (hb hby own_d10_13) rfl (l' := #[.val (.ref ca), .val (.int (0 : Int32)), .val (.ref ba), .val (.int (0 : Int32)), .val (.int (2 : Int32)), .val (.int (0 : Int32)), .val (.int x0)]) rfl k) ?_
  show Go p e below Φ s₁ (mkF m 15 #[.val (.ref ca), .val (.int (0 : Int32)), .val (.ref ba), .val (.int (0 : Int32)), .val (.int (2 : Int32)), .val (.int (0 : Int32)), .val (.int x0)] [])
  refine Go.of (fun t k => XS.iload X0.here hx rfl (hb hby own_d10_15) rfl  k) ?_
  show Go p e below Φ s₁ (mkF m 17 #[.val (.ref ca), .val (.int (0 : Int32)), .val (.ref ba), .val (.int (0 : Int32)), .val (.int (2 : Int32)), .val (.int (0 : Int32)), .val (.int x0)] [(.int x0)])
  refine Go.of (fun t k => XS.sipush X0.here hx rfl (hb hby own_d10_17) k) ?_
  show Go p e below Φ s₁ (mkF m 20 #[.val (.ref ca), .val (.int (0 : Int32)), .val (.ref ba), .val (.int (0 : Int32)), .val (.int (2 : Int32)), .val (.int (0 : Int32)), .val (.int x0)] [(.int (255 : Int32)), (.int x0)])
  refine Go.of (fun t k => XS.icmpYes X0.here hx rfl (pc0 := 20) (pc' := 26) rfl (hb hby own_d10_20) rfl (XT.ii_le_t hx0) (by decide) (by decide) k) ?_
  show Go p e below Φ s₁ (mkF m 26 #[.val (.ref ca), .val (.int (0 : Int32)), .val (.ref ba), .val (.int (0 : Int32)), .val (.int (2 : Int32)), .val (.int (0 : Int32)), .val (.int x0)] [])
  refine Go.of (fun t k => XS.aloadN X0.here hx rfl (hb hby own_d10_26) rfl rfl  k) ?_
  show Go p e below Φ s₁ (mkF m 27 #[.val (.ref ca), .val (.int (0 : Int32)), .val (.ref ba), .val (.int (0 : Int32)), .val (.int (2 : Int32)), .val (.int (0 : Int32)), .val (.int x0)] [(.ref ba)])
  refine Go.of (fun t k => XS.iloadN X0.here hx rfl (hb hby own_d10_27) rfl  k) ?_
  show Go p e below Φ s₁ (mkF m 28 #[.val (.ref ca), .val (.int (0 : Int32)), .val (.ref ba), .val (.int (0 : Int32)), .val (.int (2 : Int32)), .val (.int (0 : Int32)), .val (.int x0)] [(.int (0 : Int32)), (.ref ba)])
  refine Go.of (fun t k => XS.iload X0.here hx rfl (hb hby own_d10_28) rfl  k) ?_
  show Go p e below Φ s₁ (mkF m 30 #[.val (.ref ca), .val (.int (0 : Int32)), .val (.ref ba), .val (.int (0 : Int32)), .val (.int (2 : Int32)), .val (.int (0 : Int32)), .val (.int x0)] [(.int x0), (.int (0 : Int32)), (.ref ba)])
  refine Go.of (fun t k => XS.i2b X0.here hx rfl (hb hby own_d10_30) rfl k) ?_
  show Go p e below Φ s₁ (mkF m 31 #[.val (.ref ca), .val (.int (0 : Int32)), .val (.ref ba), .val (.int (0 : Int32)), .val (.int (2 : Int32)), .val (.int (0 : Int32)), .val (.int x0)] [(.int (x0.toInt8.toInt32)), (.int (0 : Int32)), (.ref ba)])
  obtain ⟨cl31, Ar31, q31, S31, N31, H31, G31⟩ := id V_ba
  have hin31 : ¬ ((0 : Int32) < 0 ∨ cl31.slots.size ≤ ((0 : Int32)).toNatClampNeg) := inb_of S31 ⟨by decide, by decide⟩
  obtain ⟨T1, h1, X1, e1, W1, st1⟩ := stB X0 hx hZ e0 Ar31 (j := (0 : Int32)) hin31 (g := (mkF m 31 #[.val (.ref ca), .val (.int (0 : Int32)), .val (.ref ba), .val (.int (0 : Int32)), .val (.int (2 : Int32)), .val (.int (0 : Int32)), .val (.int x0)] [(.int (x0.toInt8.toInt32)), (.int (0 : Int32)), (.ref ba)])) rfl rfl (hb hby own_d10_31)
  have V_ba : Arv Z h1 ba kb .byte (2 : Int32) [(.int (nar .byte (x0.toInt8.toInt32))), (.int (0 : Int32))] (.int (0 : Int32)) := Arv.set Ar31 q31 S31 N31 H31 G31 (fits_nar_byte _) W1 0 rfl (Nat.le_of_ble_eq_true rfl)
  have V_ca := V_ca.other W1 ne_ca_ba
  have N1 := Fr.snoc X1 N0 g_ba
  have K1 : Keep h0 h1 [ba] := (Keep.refl h0 [ba]).wr W1 (Or.inl (List.mem_of_getElem? (i := 0) rfl))
  have Z1 := Nat.le_trans Z0 (Keep.of_wr W1).1
  obtain ⟨lc1, X1, N1⟩ : ∃ lc, Stand p l e ({ frames := 0, cells := 0, slots := 0, locals := 0 } : Room) s m #[(.ref ca), (.int (0 : Int32)), (.ref ba), (.int (0 : Int32)), (.int (2 : Int32))] below meth c T1 lc 0 0 ∧ Fr n0 lc := ⟨_, X1, N1⟩
  refine Go.of st1 ?_
  show Go p e below Φ T1 (mkF m 32 #[.val (.ref ca), .val (.int (0 : Int32)), .val (.ref ba), .val (.int (0 : Int32)), .val (.int (2 : Int32)), .val (.int (0 : Int32)), .val (.int x0)] [])
  refine Go.of (fun t k => XS.iinc X1.here hx rfl (hb hby own_d10_32) rfl (l' := #[.val (.ref ca), .val (.int (1 : Int32)), .val (.ref ba), .val (.int (0 : Int32)), .val (.int (2 : Int32)), .val (.int (0 : Int32)), .val (.int x0)]) rfl k) ?_
  show Go p e below Φ T1 (mkF m 35 #[.val (.ref ca), .val (.int (1 : Int32)), .val (.ref ba), .val (.int (0 : Int32)), .val (.int (2 : Int32)), .val (.int (0 : Int32)), .val (.int x0)] [])
  refine Go.of (fun t k => XS.iinc X1.here hx rfl (hb hby own_d10_35) rfl (l' := #[.val (.ref ca), .val (.int (1 : Int32)), .val (.ref ba), .val (.int (1 : Int32)), .val (.int (2 : Int32)), .val (.int (0 : Int32)), .val (.int x0)]) rfl k) ?_
  show Go p e below Φ T1 (mkF m 38 #[.val (.ref ca), .val (.int (1 : Int32)), .val (.ref ba), .val (.int (1 : Int32)), .val (.int (2 : Int32)), .val (.int (0 : Int32)), .val (.int x0)] [])
  refine Go.of (fun t k => XS.iinc X1.here hx rfl (hb hby own_d10_38) rfl (l' := #[.val (.ref ca), .val (.int (1 : Int32)), .val (.ref ba), .val (.int (1 : Int32)), .val (.int (2 : Int32)), .val (.int (1 : Int32)), .val (.int x0)]) rfl k) ?_
  show Go p e below Φ T1 (mkF m 41 #[.val (.ref ca), .val (.int (1 : Int32)), .val (.ref ba), .val (.int (1 : Int32)), .val (.int (2 : Int32)), .val (.int (1 : Int32)), .val (.int x0)] [])
  refine Go.of (fun t k => XS.goto X1.here hx rfl (pc0 := 41) (pc' := 3) rfl (hb hby own_d10_41) (by decide) (by decide) k) ?_
  show Go p e below Φ T1 (mkF m 3 #[.val (.ref ca), .val (.int (1 : Int32)), .val (.ref ba), .val (.int (1 : Int32)), .val (.int (2 : Int32)), .val (.int (1 : Int32)), .val (.int x0)] [])
  refine Go.of (fun t k => XS.iload X1.here hx rfl (hb hby own_d10_3) rfl  k) ?_
  show Go p e below Φ T1 (mkF m 5 #[.val (.ref ca), .val (.int (1 : Int32)), .val (.ref ba), .val (.int (1 : Int32)), .val (.int (2 : Int32)), .val (.int (1 : Int32)), .val (.int x0)] [(.int (1 : Int32))])
  refine Go.of (fun t k => XS.iload X1.here hx rfl (hb hby own_d10_5) rfl  k) ?_
  show Go p e below Φ T1 (mkF m 7 #[.val (.ref ca), .val (.int (1 : Int32)), .val (.ref ba), .val (.int (1 : Int32)), .val (.int (2 : Int32)), .val (.int (1 : Int32)), .val (.int x0)] [(.int (2 : Int32)), (.int (1 : Int32))])
  refine Go.of (fun t k => XS.icmpNo X1.here hx rfl (hb hby own_d10_7) rfl (XT.ii_ge_f (by decide)) k) ?_
  show Go p e below Φ T1 (mkF m 10 #[.val (.ref ca), .val (.int (1 : Int32)), .val (.ref ba), .val (.int (1 : Int32)), .val (.int (2 : Int32)), .val (.int (1 : Int32)), .val (.int x0)] [])
  refine Go.of (fun t k => XS.aloadN X1.here hx rfl (hb hby own_d10_10) rfl rfl  k) ?_
  show Go p e below Φ T1 (mkF m 11 #[.val (.ref ca), .val (.int (1 : Int32)), .val (.ref ba), .val (.int (1 : Int32)), .val (.int (2 : Int32)), .val (.int (1 : Int32)), .val (.int x0)] [(.ref ca)])
  refine Go.of (fun t k => XS.iloadN X1.here hx rfl (hb hby own_d10_11) rfl  k) ?_
  show Go p e below Φ T1 (mkF m 12 #[.val (.ref ca), .val (.int (1 : Int32)), .val (.ref ba), .val (.int (1 : Int32)), .val (.int (2 : Int32)), .val (.int (1 : Int32)), .val (.int x0)] [(.int (1 : Int32)), (.ref ca)])
  obtain ⟨cl12, Ar12, q12, S12, N12, H12, G12⟩ := id V_ca
  have hin12 : ¬ ((1 : Int32) < 0 ∨ cl12.slots.size ≤ ((1 : Int32)).toNatClampNeg) := inb_of S12 ⟨by decide, by decide⟩
  have hat12 : cl12.slots[((1 : Int32)).toNatClampNeg]? = some (.int x1) := H12.at hin12 rfl
  refine Go.of (fun t k => X1.caload hx (j := (1 : Int32)) (v := (.int x1)) (own_at_ e1 Ar12.1) (State.isArrayOf_alike hZ.alike Ar12.2.1) Ar12.2.2 hin12 hat12 (g := (mkF m 12 #[.val (.ref ca), .val (.int (1 : Int32)), .val (.ref ba), .val (.int (1 : Int32)), .val (.int (2 : Int32)), .val (.int (1 : Int32)), .val (.int x0)] [(.int (1 : Int32)), (.ref ca)])) rfl rfl (hb hby own_d10_12) t k) ?_
  show Go p e below Φ T1 (mkF m 13 #[.val (.ref ca), .val (.int (1 : Int32)), .val (.ref ba), .val (.int (1 : Int32)), .val (.int (2 : Int32)), .val (.int (1 : Int32)), .val (.int x0)] [(.int x1)])
  refine Go.of (fun t k => XS.istore X1.here hx rfl (hb hby own_d10_13) rfl (l' := #[.val (.ref ca), .val (.int (1 : Int32)), .val (.ref ba), .val (.int (1 : Int32)), .val (.int (2 : Int32)), .val (.int (1 : Int32)), .val (.int x1)]) rfl k) ?_
  show Go p e below Φ T1 (mkF m 15 #[.val (.ref ca), .val (.int (1 : Int32)), .val (.ref ba), .val (.int (1 : Int32)), .val (.int (2 : Int32)), .val (.int (1 : Int32)), .val (.int x1)] [])
  refine Go.of (fun t k => XS.iload X1.here hx rfl (hb hby own_d10_15) rfl  k) ?_
  show Go p e below Φ T1 (mkF m 17 #[.val (.ref ca), .val (.int (1 : Int32)), .val (.ref ba), .val (.int (1 : Int32)), .val (.int (2 : Int32)), .val (.int (1 : Int32)), .val (.int x1)] [(.int x1)])
  refine Go.of (fun t k => XS.sipush X1.here hx rfl (hb hby own_d10_17) k) ?_
  show Go p e below Φ T1 (mkF m 20 #[.val (.ref ca), .val (.int (1 : Int32)), .val (.ref ba), .val (.int (1 : Int32)), .val (.int (2 : Int32)), .val (.int (1 : Int32)), .val (.int x1)] [(.int (255 : Int32)), (.int x1)])
  refine Go.of (fun t k => XS.icmpYes X1.here hx rfl (pc0 := 20) (pc' := 26) rfl (hb hby own_d10_20) rfl (XT.ii_le_t hx1) (by decide) (by decide) k) ?_
  show Go p e below Φ T1 (mkF m 26 #[.val (.ref ca), .val (.int (1 : Int32)), .val (.ref ba), .val (.int (1 : Int32)), .val (.int (2 : Int32)), .val (.int (1 : Int32)), .val (.int x1)] [])
  refine Go.of (fun t k => XS.aloadN X1.here hx rfl (hb hby own_d10_26) rfl rfl  k) ?_
  show Go p e below Φ T1 (mkF m 27 #[.val (.ref ca), .val (.int (1 : Int32)), .val (.ref ba), .val (.int (1 : Int32)), .val (.int (2 : Int32)), .val (.int (1 : Int32)), .val (.int x1)] [(.ref ba)])
  refine Go.of (fun t k => XS.iloadN X1.here hx rfl (hb hby own_d10_27) rfl  k) ?_
  show Go p e below Φ T1 (mkF m 28 #[.val (.ref ca), .val (.int (1 : Int32)), .val (.ref ba), .val (.int (1 : Int32)), .val (.int (2 : Int32)), .val (.int (1 : Int32)), .val (.int x1)] [(.int (1 : Int32)), (.ref ba)])
  refine Go.of (fun t k => XS.iload X1.here hx rfl (hb hby own_d10_28) rfl  k) ?_
  show Go p e below Φ T1 (mkF m 30 #[.val (.ref ca), .val (.int (1 : Int32)), .val (.ref ba), .val (.int (1 : Int32)), .val (.int (2 : Int32)), .val (.int (1 : Int32)), .val (.int x1)] [(.int x1), (.int (1 : Int32)), (.ref ba)])
  refine Go.of (fun t k => XS.i2b X1.here hx rfl (hb hby own_d10_30) rfl k) ?_
  show Go p e below Φ T1 (mkF m 31 #[.val (.ref ca), .val (.int (1 : Int32)), .val (.ref ba), .val (.int (1 : Int32)), .val (.int (2 : Int32)), .val (.int (1 : Int32)), .val (.int x1)] [(.int (x1.toInt8.toInt32)), (.int (1 : Int32)), (.ref ba)])
  obtain ⟨cl31, Ar31, q31, S31, N31, H31, G31⟩ := id V_ba
  have hin31 : ¬ ((1 : Int32) < 0 ∨ cl31.slots.size ≤ ((1 : Int32)).toNatClampNeg) := inb_of S31 ⟨by decide, by decide⟩
  obtain ⟨T2, h2, X2, e2, W2, st2⟩ := stB X1 hx hZ e1 Ar31 (j := (1 : Int32)) hin31 (g := (mkF m 31 #[.val (.ref ca), .val (.int (1 : Int32)), .val (.ref ba), .val (.int (1 : Int32)), .val (.int (2 : Int32)), .val (.int (1 : Int32)), .val (.int x1)] [(.int (x1.toInt8.toInt32)), (.int (1 : Int32)), (.ref ba)])) rfl rfl (hb hby own_d10_31)
  have V_ba : Arv Z h2 ba kb .byte (2 : Int32) [(.int (nar .byte (x0.toInt8.toInt32))), (.int (nar .byte (x1.toInt8.toInt32)))] (.int (0 : Int32)) := Arv.set Ar31 q31 S31 N31 H31 G31 (fits_nar_byte _) W2 1 rfl (Nat.le_of_ble_eq_true rfl)
  have V_ca := V_ca.other W2 ne_ca_ba
  have N2 := Fr.snoc X2 N1 g_ba
  have K2 : Keep h0 h2 [ba] := K1.wr W2 (Or.inl (List.mem_of_getElem? (i := 0) rfl))
  have Z2 := Nat.le_trans Z1 (Keep.of_wr W2).1
  obtain ⟨lc2, X2, N2⟩ : ∃ lc, Stand p l e ({ frames := 0, cells := 0, slots := 0, locals := 0 } : Room) s m #[(.ref ca), (.int (0 : Int32)), (.ref ba), (.int (0 : Int32)), (.int (2 : Int32))] below meth c T2 lc 0 0 ∧ Fr n0 lc := ⟨_, X2, N2⟩
  refine Go.of st2 ?_
  show Go p e below Φ T2 (mkF m 32 #[.val (.ref ca), .val (.int (1 : Int32)), .val (.ref ba), .val (.int (1 : Int32)), .val (.int (2 : Int32)), .val (.int (1 : Int32)), .val (.int x1)] [])
  refine Go.of (fun t k => XS.iinc X2.here hx rfl (hb hby own_d10_32) rfl (l' := #[.val (.ref ca), .val (.int (2 : Int32)), .val (.ref ba), .val (.int (1 : Int32)), .val (.int (2 : Int32)), .val (.int (1 : Int32)), .val (.int x1)]) rfl k) ?_
  show Go p e below Φ T2 (mkF m 35 #[.val (.ref ca), .val (.int (2 : Int32)), .val (.ref ba), .val (.int (1 : Int32)), .val (.int (2 : Int32)), .val (.int (1 : Int32)), .val (.int x1)] [])
  refine Go.of (fun t k => XS.iinc X2.here hx rfl (hb hby own_d10_35) rfl (l' := #[.val (.ref ca), .val (.int (2 : Int32)), .val (.ref ba), .val (.int (2 : Int32)), .val (.int (2 : Int32)), .val (.int (1 : Int32)), .val (.int x1)]) rfl k) ?_
  show Go p e below Φ T2 (mkF m 38 #[.val (.ref ca), .val (.int (2 : Int32)), .val (.ref ba), .val (.int (2 : Int32)), .val (.int (2 : Int32)), .val (.int (1 : Int32)), .val (.int x1)] [])
  refine Go.of (fun t k => XS.iinc X2.here hx rfl (hb hby own_d10_38) rfl (l' := #[.val (.ref ca), .val (.int (2 : Int32)), .val (.ref ba), .val (.int (2 : Int32)), .val (.int (2 : Int32)), .val (.int (2 : Int32)), .val (.int x1)]) rfl k) ?_
  show Go p e below Φ T2 (mkF m 41 #[.val (.ref ca), .val (.int (2 : Int32)), .val (.ref ba), .val (.int (2 : Int32)), .val (.int (2 : Int32)), .val (.int (2 : Int32)), .val (.int x1)] [])
  refine Go.of (fun t k => XS.goto X2.here hx rfl (pc0 := 41) (pc' := 3) rfl (hb hby own_d10_41) (by decide) (by decide) k) ?_
  show Go p e below Φ T2 (mkF m 3 #[.val (.ref ca), .val (.int (2 : Int32)), .val (.ref ba), .val (.int (2 : Int32)), .val (.int (2 : Int32)), .val (.int (2 : Int32)), .val (.int x1)] [])
  refine Go.of (fun t k => XS.iload X2.here hx rfl (hb hby own_d10_3) rfl  k) ?_
  show Go p e below Φ T2 (mkF m 5 #[.val (.ref ca), .val (.int (2 : Int32)), .val (.ref ba), .val (.int (2 : Int32)), .val (.int (2 : Int32)), .val (.int (2 : Int32)), .val (.int x1)] [(.int (2 : Int32))])
  refine Go.of (fun t k => XS.iload X2.here hx rfl (hb hby own_d10_5) rfl  k) ?_
  show Go p e below Φ T2 (mkF m 7 #[.val (.ref ca), .val (.int (2 : Int32)), .val (.ref ba), .val (.int (2 : Int32)), .val (.int (2 : Int32)), .val (.int (2 : Int32)), .val (.int x1)] [(.int (2 : Int32)), (.int (2 : Int32))])
  refine Go.of (fun t k => XS.icmpYes X2.here hx rfl (pc0 := 7) (pc' := 44) rfl (hb hby own_d10_7) rfl (XT.ii_ge_t (by decide)) (by decide) (by decide) k) ?_
  show Go p e below Φ T2 (mkF m 44 #[.val (.ref ca), .val (.int (2 : Int32)), .val (.ref ba), .val (.int (2 : Int32)), .val (.int (2 : Int32)), .val (.int (2 : Int32)), .val (.int x1)] [])
  refine Go.of (fun t k => XS.iload X2.here hx rfl (hb hby own_d10_44) rfl  k) ?_
  show Go p e below Φ T2 (mkF m 46 #[.val (.ref ca), .val (.int (2 : Int32)), .val (.ref ba), .val (.int (2 : Int32)), .val (.int (2 : Int32)), .val (.int (2 : Int32)), .val (.int x1)] [(.int (2 : Int32))])
  rw [hΦ]
  refine Go.ret X2 hx Bd.notSynchronized Bd.returns rfl (Or.inl ⟨rfl, Or.inl rfl, _, rfl⟩) (hb hby own_d10_46) (by decide) (by decide) ?_
  rw [e2]
  exact ⟨rfl, N2, K2, V_ba⟩
theorem own_ef9 (m : MethodId) (ca : Addr) : entryFrame m #[(.ref ca), (.int (0 : Int32)), (.int (2 : Int32))] 6 = mkF m 0 #[.val (.ref ca), .val (.int (0 : Int32)), .val (.int (2 : Int32)), .unset, .unset, .unset] [] := by first | (simp [entryFrame, mkF, argsToLocals, Value.category]; done) | rfl
def Q9 (Z : State) (ca : Addr) (kc : ClassId) (x0 : Int32) (x1 : Int32) (h0 : Heap) (n0 : Nat) (vr : Option Value) (hr : Heap) (Lr : List Loc) : Prop := ∃ (br : Addr) (kr : ClassId) (u0 u1 : Value), vr = some (.ref br) ∧ Fr n0 Lr ∧ Keep h0 hr [] ∧ h0.size ≤ br ∧ Arv Z hr br kr .byte (2 : Int32) [u0, u1] (.int (0 : Int32))
set_option maxRecDepth 65536 in
set_option maxHeartbeats 40000000 in
theorem rm9 (l : Launch) (Z : State) (a0 : Array Value) (hw : ∀ d ∈ tables_1, d.before a0 Z = true) (ws : List Jvm.Cond) (ca : Addr) (kc : ClassId) (x0 : Int32) (x1 : Int32) (h0 : Heap) (n0 : Nat) (Z0 : n0 ≤ h0.size) (V_ca : Arv Z h0 ca kc .char (2 : Int32) [(.int x0), (.int x1)] (.int (0 : Int32))) (hx0 : ¬ ((255 : Int32) < x0)) (hx1 : ¬ ((255 : Int32) < x1)) :
    MetFree l (⟨"java/lang/StringUTF16", "compress", "([CII)[B"⟩ : MethodName) (head1 (Jvm.Cond.code (⟨"java/lang/StringUTF16", "compress", "([CII)[B"⟩ : MethodName) jdk_52_method_16_code 6 (some (.array .byte)) :: ws) ({ frames := 1, cells := 1, slots := 2, locals := 18 } : Room)) (fun aQ UQ => aQ = #[(.ref ca), (.int (0 : Int32)), (.int (2 : Int32))] ∧ Z.Warmed39 UQ.vm ∧ UQ.heap = h0) (fun _ _ _ _ _ => True) (fun _ UQ oQ VQ => ∃ vQ LQ, oQ = .returned vQ ∧ Q9 Z ca kc x0 x1 h0 n0 vQ VQ.heap LQ ∧ FrameEnd UQ oQ VQ LQ ({ frames := 1, cells := 1, slots := 2, locals := 18 } : Room).cells ({ frames := 1, cells := 1, slots := 2, locals := 18 } : Room).slots) := by
  refine MetFree.of_bodySF (plainFor_of_name own_pn2) hisR ?_
  intro p e s m args below meth c s₁ Bd hml0 hP hK
  obtain ⟨rfl, hZ, hh⟩ := hP
  have hx := Bd.exec
  have hby := Bd.bytes
  have hml : c.maxLocals = 6 := hml0
  have hown : s.vm.findClass "java/lang/StringUTF16" = some m.cls := findClass_of_methodNamed Bd.named
  have hnm := (name_of_methodNamed Bd.named Bd.method).1
  have X0 : Stand p l e ({ frames := 1, cells := 1, slots := 2, locals := 18 } : Room) s m #[(.ref ca), (.int (0 : Int32)), (.int (2 : Int32))] below meth c s₁ [] 0 0 := Stand.of_body Bd
  have e0 : s₁.heap = h0 := by rw [← hh, Bd.state]; rfl
  have N0 := Fr.nil n0
  show Go p e below (EndQ s below (Q9 Z ca kc x0 x1 h0 n0) ({ frames := 1, cells := 1, slots := 2, locals := 18 } : Room).cells ({ frames := 1, cells := 1, slots := 2, locals := 18 } : Room).slots) s₁ (entryFrame m #[(.ref ca), (.int (0 : Int32)), (.int (2 : Int32))] 6)
  obtain ⟨Φ, hΦ⟩ : ∃ Φ, Φ = EndQ s below (Q9 Z ca kc x0 x1 h0 n0) ({ frames := 1, cells := 1, slots := 2, locals := 18 } : Room).cells ({ frames := 1, cells := 1, slots := 2, locals := 18 } : Room).slots := ⟨_, rfl⟩
  rw [← hΦ, own_ef9]
  show Go p e below Φ s₁ (mkF m 0 #[.val (.ref ca), .val (.int (0 : Int32)), .val (.int (2 : Int32)), .unset, .unset, .unset] [])
  refine Go.of (fun t k => XS.iloadN X0.here hx rfl (hb hby own_d9_0) rfl  k) ?_
  show Go p e below Φ s₁ (mkF m 1 #[.val (.ref ca), .val (.int (0 : Int32)), .val (.int (2 : Int32)), .unset, .unset, .unset] [(.int (2 : Int32))])
  obtain ⟨T1, h1, k1, X1, e1, E1, A1, st1⟩ := newP X0 hx hZ (hw _ (List.mem_of_getElem? (i := 23) rfl)) e0 (g := (mkF m 1 #[.val (.ref ca), .val (.int (0 : Int32)), .val (.int (2 : Int32)), .unset, .unset, .unset] [(.int (2 : Int32))])) rfl (hb hby own_d9_1) rfl (by decide) (cap := 2) (by decide) (by decide) (by decide) (by decide)
  obtain ⟨b1, g1⟩ : ∃ z, z = h0.size := ⟨_, rfl⟩
  rw [← g1] at A1 st1
  have ne_ca_b1 : ca ≠ b1 := Nat.ne_of_lt (Nat.lt_of_lt_of_le V_ca.lt (Nat.le_of_eq g1.symm))
  have g_b1 : n0 ≤ b1 := Nat.le_trans Z0 (Nat.le_of_eq g1.symm)
  have sz_b1 : h0.size ≤ b1 := Nat.le_trans (Keep.refl h0 []).1 (Nat.le_of_eq g1.symm)
  have K1 := (Keep.refl h0 []).ext E1
  have Z1 := Nat.le_trans Z0 E1.1
  have V_ca := V_ca.ext E1
  have V_b1 : Arv Z h1 b1 k1 .byte (2 : Int32) [(.int (0 : Int32)), (.int (0 : Int32))] (.int (0 : Int32)) := (Arv.new A1 (by decide)).pad (pad_rep [] (.int (0 : Int32)) 2)
  refine Go.of st1 ?_
  show Go p e below Φ T1 (mkF m 3 #[.val (.ref ca), .val (.int (0 : Int32)), .val (.int (2 : Int32)), .unset, .unset, .unset] [(.ref b1)])
  refine Go.of (fun t k => XS.astoreN X1.here hx rfl (hb hby own_d9_3) rfl rfl (l' := #[.val (.ref ca), .val (.int (0 : Int32)), .val (.int (2 : Int32)), .val (.ref b1), .unset, .unset]) rfl k) ?_
  show Go p e below Φ T1 (mkF m 4 #[.val (.ref ca), .val (.int (0 : Int32)), .val (.int (2 : Int32)), .val (.ref b1), .unset, .unset] [])
  refine Go.of (fun t k => XS.aloadN X1.here hx rfl (hb hby own_d9_4) rfl rfl  k) ?_
  show Go p e below Φ T1 (mkF m 5 #[.val (.ref ca), .val (.int (0 : Int32)), .val (.int (2 : Int32)), .val (.ref b1), .unset, .unset] [(.ref ca)])
  refine Go.of (fun t k => XS.iloadN X1.here hx rfl (hb hby own_d9_5) rfl  k) ?_
  show Go p e below Φ T1 (mkF m 6 #[.val (.ref ca), .val (.int (0 : Int32)), .val (.int (2 : Int32)), .val (.ref b1), .unset, .unset] [(.int (0 : Int32)), (.ref ca)])
  refine Go.of (fun t k => XS.aloadN X1.here hx rfl (hb hby own_d9_6) rfl rfl  k) ?_
  show Go p e below Φ T1 (mkF m 7 #[.val (.ref ca), .val (.int (0 : Int32)), .val (.int (2 : Int32)), .val (.ref b1), .unset, .unset] [(.ref b1), (.int (0 : Int32)), (.ref ca)])
  refine Go.of (fun t k => XS.iconst X1.here hx rfl (hb hby own_d9_7) k) ?_
  show Go p e below Φ T1 (mkF m 8 #[.val (.ref ca), .val (.int (0 : Int32)), .val (.int (2 : Int32)), .val (.ref b1), .unset, .unset] [(.int (0 : Int32)), (.ref b1), (.int (0 : Int32)), (.ref ca)])
  refine Go.of (fun t k => XS.iloadN X1.here hx rfl (hb hby own_d9_8) rfl  k) ?_
  show Go p e below Φ T1 (mkF m 9 #[.val (.ref ca), .val (.int (0 : Int32)), .val (.int (2 : Int32)), .val (.ref b1), .unset, .unset] [(.int (2 : Int32)), (.int (0 : Int32)), (.ref b1), (.int (0 : Int32)), (.ref ca)])
  obtain ⟨_, _, ⟨T2, L2, k2, n2⟩, -, X2, ⟨Lc2, hQ2, l2, y2, z2⟩, st2⟩ := Jvm.LawKit.callS X1 hx (y := (⟨"java/lang/StringUTF16", "compress", "([CI[BII)I"⟩ : MethodName)) hown (mvT hZ (hw _ (List.mem_of_getElem? (i := 62) rfl))) (mvT hZ (hw _ (List.mem_of_getElem? (i := 63) rfl))) (mvT hZ (hw _ (List.mem_of_getElem? (i := 60) rfl))) (mvT hZ (hw _ (List.mem_of_getElem? (i := 64) rfl))) (by decide) (backOf (W := 0) (rm10 l Z a0 hw [] ca b1 kc x0 x1 k1 h1 n0 Z1 V_ca V_b1 g_b1 ne_ca_b1 hx0 hx1) hZ (hw _ (List.mem_of_getElem? (i := 64) rfl)) (hw _ (List.mem_of_getElem? (i := 60) rfl)) (by decide) (by decide)) (g := (mkF m 9 #[.val (.ref ca), .val (.int (0 : Int32)), .val (.int (2 : Int32)), .val (.ref b1), .unset, .unset] [(.int (2 : Int32)), (.int (0 : Int32)), (.ref b1), (.int (0 : Int32)), (.ref ca)])) rfl (by rw [hml]; rfl) (argsL := [(.ref ca), (.int (0 : Int32)), (.ref b1), (.int (0 : Int32)), (.int (2 : Int32))]) (rest := []) (lenOf own_pd3 rfl) rfl (by show 2 * 0 + _ ≤ _; exact Nat.le_of_eq rfl) (hb hby own_d9_9) (fun _ _ => ⟨rfl, e1, (by decide : 1 + 0 ≤ _), (by decide : 2 + 0 ≤ _)⟩)
  dsimp only [Pt.U, Pt.locs, Pt.cells, Pt.slots] at X2 l2 y2 z2 st2 hQ2
  subst l2 y2 z2
  obtain ⟨rfl, N2q, K2q, c2_0⟩ := hQ2
  have N2 := Fr.app N0 N2q
  obtain ⟨lc2, X2, N2⟩ : ∃ lc, Stand p l e ({ frames := 1, cells := 1, slots := 2, locals := 18 } : Room) s m #[(.ref ca), (.int (0 : Int32)), (.int (2 : Int32))] below meth c T2 lc 1 2 ∧ Fr n0 lc := ⟨_, X2, N2⟩
  have V_ca := V_ca.keep K2q (ninS ne_ca_b1 nin0)
  have V_b1 := c2_0
  have K2 := K1.trans K2q (allS (Or.inr sz_b1) all0)
  have Z2 := Nat.le_trans Z1 K2q.1
  refine Go.of st2 ?_
  show Go p e below Φ T2 (mkF m 12 #[.val (.ref ca), .val (.int (0 : Int32)), .val (.int (2 : Int32)), .val (.ref b1), .unset, .unset] [(.int (2 : Int32))])
  refine Go.of (fun t k => XS.istore X2.here hx rfl (hb hby own_d9_12) rfl (l' := #[.val (.ref ca), .val (.int (0 : Int32)), .val (.int (2 : Int32)), .val (.ref b1), .val (.int (2 : Int32)), .unset]) rfl k) ?_
  show Go p e below Φ T2 (mkF m 14 #[.val (.ref ca), .val (.int (0 : Int32)), .val (.int (2 : Int32)), .val (.ref b1), .val (.int (2 : Int32)), .unset] [])
  refine Go.of (fun t k => XS.iload X2.here hx rfl (hb hby own_d9_14) rfl  k) ?_
  show Go p e below Φ T2 (mkF m 16 #[.val (.ref ca), .val (.int (0 : Int32)), .val (.int (2 : Int32)), .val (.ref b1), .val (.int (2 : Int32)), .unset] [(.int (2 : Int32))])
  refine Go.of (fun t k => XS.iloadN X2.here hx rfl (hb hby own_d9_16) rfl  k) ?_
  show Go p e below Φ T2 (mkF m 17 #[.val (.ref ca), .val (.int (0 : Int32)), .val (.int (2 : Int32)), .val (.ref b1), .val (.int (2 : Int32)), .unset] [(.int (2 : Int32)), (.int (2 : Int32))])
  refine Go.of (fun t k => XS.icmpYes X2.here hx rfl (pc0 := 17) (pc' := 57) rfl (hb hby own_d9_17) rfl (XT.ii_eq_t rfl) (by decide) (by decide) k) ?_
  show Go p e below Φ T2 (mkF m 57 #[.val (.ref ca), .val (.int (0 : Int32)), .val (.int (2 : Int32)), .val (.ref b1), .val (.int (2 : Int32)), .unset] [])
  refine Go.of (fun t k => XS.aloadN X2.here hx rfl (hb hby own_d9_57) rfl rfl  k) ?_
  show Go p e below Φ T2 (mkF m 58 #[.val (.ref ca), .val (.int (0 : Int32)), .val (.int (2 : Int32)), .val (.ref b1), .val (.int (2 : Int32)), .unset] [(.ref b1)])
  rw [hΦ]
  refine Go.ret X2 hx Bd.notSynchronized Bd.returns rfl (Or.inr (Or.inr (Or.inr (Or.inr ⟨rfl, rfl, rfl⟩)))) (hb hby own_d9_58) (by decide) (by decide) ?_
  exact ⟨b1, _, _, _, rfl, N2, K2, sz_b1, V_b1⟩
theorem own_ef11 (m : MethodId) (ba : Addr) : entryFrame m #[(.ref ba), (.int (2 : Int32))] 2 = mkF m 0 #[.val (.ref ba), .val (.int (2 : Int32))] [] := by first | (simp [entryFrame, mkF, argsToLocals, Value.category]; done) | rfl
def Q11 (Z : State) (ba : Addr) (kb : ClassId) (u0 : Value) (u1 : Value) (h0 : Heap) (n0 : Nat) (vr : Option Value) (hr : Heap) (Lr : List Loc) : Prop := vr = some (.int ((0 : Int32).toInt8.toInt32)) ∧ Fr n0 Lr ∧ hr = h0
set_option maxRecDepth 65536 in
set_option maxHeartbeats 40000000 in
theorem rm11 (l : Launch) (Z : State) (a0 : Array Value) (hw : ∀ d ∈ tables_1, d.before a0 Z = true) (ws : List Jvm.Cond) (ba : Addr) (kb : ClassId) (u0 : Value) (u1 : Value) (h0 : Heap) (n0 : Nat) (Z0 : n0 ≤ h0.size) (V_ba : Arv Z h0 ba kb .byte (2 : Int32) [u0, u1] (.int (0 : Int32))) :
    MetFree l (⟨"java/lang/StringUTF16", "coderFromArrayLen", "([BI)B"⟩ : MethodName) (head1 (Jvm.Cond.code (⟨"java/lang/StringUTF16", "coderFromArrayLen", "([BI)B"⟩ : MethodName) jdk_52_method_15_code 2 (some .byte) :: ws) ({ frames := 0, cells := 0, slots := 0, locals := 0 } : Room)) (fun aQ UQ => aQ = #[(.ref ba), (.int (2 : Int32))] ∧ Z.Warmed39 UQ.vm ∧ UQ.heap = h0) (fun _ _ _ _ _ => True) (fun _ UQ oQ VQ => ∃ vQ LQ, oQ = .returned vQ ∧ Q11 Z ba kb u0 u1 h0 n0 vQ VQ.heap LQ ∧ FrameEnd UQ oQ VQ LQ ({ frames := 0, cells := 0, slots := 0, locals := 0 } : Room).cells ({ frames := 0, cells := 0, slots := 0, locals := 0 } : Room).slots) := by
  refine MetFree.of_bodySF (plainFor_of_name own_pn2) hisR ?_
  intro p e s m args below meth c s₁ Bd hml0 hP hK
  obtain ⟨rfl, hZ, hh⟩ := hP
  have hx := Bd.exec
  have hby := Bd.bytes
  have hml : c.maxLocals = 2 := hml0
  have hown : s.vm.findClass "java/lang/StringUTF16" = some m.cls := findClass_of_methodNamed Bd.named
  have hnm := (name_of_methodNamed Bd.named Bd.method).1
  have X0 : Stand p l e ({ frames := 0, cells := 0, slots := 0, locals := 0 } : Room) s m #[(.ref ba), (.int (2 : Int32))] below meth c s₁ [] 0 0 := Stand.of_body Bd
  have e0 : s₁.heap = h0 := by rw [← hh, Bd.state]; rfl
  have N0 := Fr.nil n0
  show Go p e below (EndQ s below (Q11 Z ba kb u0 u1 h0 n0) ({ frames := 0, cells := 0, slots := 0, locals := 0 } : Room).cells ({ frames := 0, cells := 0, slots := 0, locals := 0 } : Room).slots) s₁ (entryFrame m #[(.ref ba), (.int (2 : Int32))] 2)
  obtain ⟨Φ, hΦ⟩ : ∃ Φ, Φ = EndQ s below (Q11 Z ba kb u0 u1 h0 n0) ({ frames := 0, cells := 0, slots := 0, locals := 0 } : Room).cells ({ frames := 0, cells := 0, slots := 0, locals := 0 } : Room).slots := ⟨_, rfl⟩
  rw [← hΦ, own_ef11]
  show Go p e below Φ s₁ (mkF m 0 #[.val (.ref ba), .val (.int (2 : Int32))] [])
  refine Go.of (fun t k => XS.iloadN X0.here hx rfl (hb hby own_d11_0) rfl  k) ?_
  show Go p e below Φ s₁ (mkF m 1 #[.val (.ref ba), .val (.int (2 : Int32))] [(.int (2 : Int32))])
  refine Go.of (fun t k => XS.aloadN X0.here hx rfl (hb hby own_d11_1) rfl rfl  k) ?_
  show Go p e below Φ s₁ (mkF m 2 #[.val (.ref ba), .val (.int (2 : Int32))] [(.ref ba), (.int (2 : Int32))])
  obtain ⟨cl2, Ar2, q2, S2, N2, H2, G2⟩ := id V_ba
  refine Go.of (fun t k => X0.arraylength hx (own_at_ e0 Ar2.1) (State.isArrayOf_alike hZ.alike Ar2.2.1) (g := (mkF m 2 #[.val (.ref ba), .val (.int (2 : Int32))] [(.ref ba), (.int (2 : Int32))])) rfl rfl (hb hby own_d11_2) t k) ?_
  rw [len_of S2 N2]
  show Go p e below Φ s₁ (mkF m 3 #[.val (.ref ba), .val (.int (2 : Int32))] [(.int (2 : Int32)), (.int (2 : Int32))])
  refine Go.of (fun t k => XS.isub X0.here hx rfl (hb hby own_d11_3) rfl k) ?_
  show Go p e below Φ s₁ (mkF m 4 #[.val (.ref ba), .val (.int (2 : Int32))] [(.int (0 : Int32))])
  refine Go.of (fun t k => XS.bipush X0.here hx rfl (hb hby own_d11_4) k) ?_
  show Go p e below Φ s₁ (mkF m 6 #[.val (.ref ba), .val (.int (2 : Int32))] [(.int (31 : Int32)), (.int (0 : Int32))])
  refine Go.of (fun t k => XS.iushr X0.here hx rfl (hb hby own_d11_6) rfl k) ?_
  show Go p e below Φ s₁ (mkF m 7 #[.val (.ref ba), .val (.int (2 : Int32))] [(.int (0 : Int32))])
  refine Go.of (fun t k => XS.i2b X0.here hx rfl (hb hby own_d11_7) rfl k) ?_
  show Go p e below Φ s₁ (mkF m 8 #[.val (.ref ba), .val (.int (2 : Int32))] [(.int ((0 : Int32).toInt8.toInt32))])
  rw [hΦ]
  refine Go.ret X0 hx Bd.notSynchronized Bd.returns (XT.narrow_b _) (Or.inl ⟨rfl, Or.inr (Or.inr (Or.inl rfl)), _, rfl⟩) (hb hby own_d11_8) (by decide) (by decide) ?_
  rw [e0]
  exact ⟨rfl, N0, rfl⟩
theorem own_ef4b (m : MethodId) (oa : Addr) (ca : Addr) : entryFrame m #[(.ref oa), (.ref ca), (.int (0 : Int32)), (.int (2 : Int32)), .null] 6 = mkF m 0 #[.val (.ref oa), .val (.ref ca), .val (.int (0 : Int32)), .val (.int (2 : Int32)), .val .null, .unset] [] := by first | (simp [entryFrame, mkF, argsToLocals, Value.category]; done) | rfl
def Q4b (Z : State) (oa : Addr) (ca : Addr) (kc : ClassId) (x0 : Int32) (x1 : Int32) (w : Int32) (u : Value) (wc : Int32) (h0 : Heap) (n0 : Nat) (vr : Option Value) (hr : Heap) (Lr : List Loc) : Prop := vr = none ∧ Fr n0 Lr ∧ Keep h0 hr [oa]
set_option maxRecDepth 65536 in
set_option maxHeartbeats 40000000 in
theorem rm4b (l : Launch) (Z : State) (a0 : Array Value) (hw : ∀ d ∈ tables_1, d.before a0 Z = true) (ws : List Jvm.Cond) (oa : Addr) (ca : Addr) (kc : ClassId) (x0 : Int32) (x1 : Int32) (w : Int32) (u : Value) (wc : Int32) (h0 : Heap) (n0 : Nat) (Z0 : n0 ≤ h0.size) (F_oa_value : Fld Z h0 oa "java/lang/String" "value" "[B" u) (F_oa_coder : Fld Z h0 oa "java/lang/String" "coder" "B" (.int wc)) (E_oa : Exa Z h0 oa "java/lang/String") (g_oa : n0 ≤ oa) (V_ca : Arv Z h0 ca kc .char (2 : Int32) [(.int x0), (.int x1)] (.int (0 : Int32))) (ne_ca_oa : ca ≠ oa) (S_COMPACT_STRINGS : Sta Z h0 "java/lang/String" "COMPACT_STRINGS" "Z" (.int w)) (hw0 : ¬ (w = (0 : Int32))) (hx0 : ¬ ((255 : Int32) < x0)) (hx1 : ¬ ((255 : Int32) < x1)) :
    MetFree l (⟨"java/lang/String", "<init>", "([CIILjava/lang/Void;)V"⟩ : MethodName) (head1 (Jvm.Cond.code (⟨"java/lang/String", "<init>", "([CIILjava/lang/Void;)V"⟩ : MethodName) jdk_42_method_149_code 6 none :: ws) ({ frames := 2, cells := 1, slots := 2, locals := 35 } : Room)) (fun aQ UQ => aQ = #[(.ref oa), (.ref ca), (.int (0 : Int32)), (.int (2 : Int32)), .null] ∧ Z.Warmed39 UQ.vm ∧ UQ.heap = h0) (fun _ _ _ _ _ => True) (fun _ UQ oQ VQ => ∃ vQ LQ, oQ = .returned vQ ∧ Q4b Z oa ca kc x0 x1 w u wc h0 n0 vQ VQ.heap LQ ∧ FrameEnd UQ oQ VQ LQ ({ frames := 2, cells := 1, slots := 2, locals := 35 } : Room).cells ({ frames := 2, cells := 1, slots := 2, locals := 35 } : Room).slots) := by
  refine MetFree.of_bodySF (plainFor_of_name own_pn1) hisR ?_
  intro p e s m args below meth c s₁ Bd hml0 hP hK
  obtain ⟨rfl, hZ, hh⟩ := hP
  have hx := Bd.exec
  have hby := Bd.bytes
  have hml : c.maxLocals = 6 := hml0
  have hown : s.vm.findClass "java/lang/String" = some m.cls := findClass_of_methodNamed Bd.named
  have hnm := (name_of_methodNamed Bd.named Bd.method).1
  have X0 : Stand p l e ({ frames := 2, cells := 1, slots := 2, locals := 35 } : Room) s m #[(.ref oa), (.ref ca), (.int (0 : Int32)), (.int (2 : Int32)), .null] below meth c s₁ [] 0 0 := Stand.of_body Bd
  have e0 : s₁.heap = h0 := by rw [← hh, Bd.state]; rfl
  have N0 := Fr.nil n0
  show Go p e below (EndQ s below (Q4b Z oa ca kc x0 x1 w u wc h0 n0) ({ frames := 2, cells := 1, slots := 2, locals := 35 } : Room).cells ({ frames := 2, cells := 1, slots := 2, locals := 35 } : Room).slots) s₁ (entryFrame m #[(.ref oa), (.ref ca), (.int (0 : Int32)), (.int (2 : Int32)), .null] 6)
  obtain ⟨Φ, hΦ⟩ : ∃ Φ, Φ = EndQ s below (Q4b Z oa ca kc x0 x1 w u wc h0 n0) ({ frames := 2, cells := 1, slots := 2, locals := 35 } : Room).cells ({ frames := 2, cells := 1, slots := 2, locals := 35 } : Room).slots := ⟨_, rfl⟩
  rw [← hΦ, own_ef4b]
  show Go p e below Φ s₁ (mkF m 0 #[.val (.ref oa), .val (.ref ca), .val (.int (0 : Int32)), .val (.int (2 : Int32)), .val .null, .unset] [])
  refine Go.of (fun t k => XS.aloadN X0.here hx rfl (hb hby own_d4_0) rfl rfl  k) ?_
  show Go p e below Φ s₁ (mkF m 1 #[.val (.ref oa), .val (.ref ca), .val (.int (0 : Int32)), .val (.int (2 : Int32)), .val .null, .unset] [(.ref oa)])
  obtain ⟨T1, X1, e1, st1⟩ := initO X0 hx hZ hown (hw _ (List.mem_of_getElem? (i := 19) rfl)) (hw _ (List.mem_of_getElem? (i := 20) rfl)) (hw _ (List.mem_of_getElem? (i := 21) rfl)) e0 (g := (mkF m 1 #[.val (.ref oa), .val (.ref ca), .val (.int (0 : Int32)), .val (.int (2 : Int32)), .val .null, .unset] [(.ref oa)])) rfl (by rw [hml]; rfl) rfl (hb hby own_d4_1) (by decide) (W := 0) (by show 2 * 0 + _ ≤ _; exact Nat.le_of_eq rfl) (by decide)
  refine Go.of st1 ?_
  show Go p e below Φ T1 (mkF m 4 #[.val (.ref oa), .val (.ref ca), .val (.int (0 : Int32)), .val (.int (2 : Int32)), .val .null, .unset] [])
  refine Go.of (fun t k => XS.iloadN X1.here hx rfl (hb hby own_d4_4) rfl  k) ?_
  show Go p e below Φ T1 (mkF m 5 #[.val (.ref oa), .val (.ref ca), .val (.int (0 : Int32)), .val (.int (2 : Int32)), .val .null, .unset] [(.int (2 : Int32))])
  refine Go.of (fun t k => XS.ifYes X1.here hx rfl (pc0 := 5) (pc' := 27) rfl (hb hby own_d4_5) rfl (XT.i0_ne_t (by decide)) (by decide) (by decide) k) ?_
  show Go p e below Φ T1 (mkF m 27 #[.val (.ref oa), .val (.ref ca), .val (.int (0 : Int32)), .val (.int (2 : Int32)), .val .null, .unset] [])
  obtain ⟨T2, X2, e2, st2⟩ := getS2 X1 hx hZ hown (host := "") (Or.inl (hw _ (List.mem_of_getElem? (i := 57) rfl))) Via.refl e1 S_COMPACT_STRINGS (g := (mkF m 27 #[.val (.ref oa), .val (.ref ca), .val (.int (0 : Int32)), .val (.int (2 : Int32)), .val .null, .unset] [])) rfl (hb hby own_d4_27)
  refine Go.of st2 ?_
  show Go p e below Φ T2 (mkF m 30 #[.val (.ref oa), .val (.ref ca), .val (.int (0 : Int32)), .val (.int (2 : Int32)), .val .null, .unset] [(.int w)])
  refine Go.of (fun t k => XS.ifNo X2.here hx rfl (hb hby own_d4_30) rfl (XT.i0_eq_f hw0) k) ?_
  show Go p e below Φ T2 (mkF m 33 #[.val (.ref oa), .val (.ref ca), .val (.int (0 : Int32)), .val (.int (2 : Int32)), .val .null, .unset] [])
  refine Go.of (fun t k => XS.aloadN X2.here hx rfl (hb hby own_d4_33) rfl rfl  k) ?_
  show Go p e below Φ T2 (mkF m 34 #[.val (.ref oa), .val (.ref ca), .val (.int (0 : Int32)), .val (.int (2 : Int32)), .val .null, .unset] [(.ref ca)])
  refine Go.of (fun t k => XS.iloadN X2.here hx rfl (hb hby own_d4_34) rfl  k) ?_
  show Go p e below Φ T2 (mkF m 35 #[.val (.ref oa), .val (.ref ca), .val (.int (0 : Int32)), .val (.int (2 : Int32)), .val .null, .unset] [(.int (0 : Int32)), (.ref ca)])
  refine Go.of (fun t k => XS.iloadN X2.here hx rfl (hb hby own_d4_35) rfl  k) ?_
  show Go p e below Φ T2 (mkF m 36 #[.val (.ref oa), .val (.ref ca), .val (.int (0 : Int32)), .val (.int (2 : Int32)), .val .null, .unset] [(.int (2 : Int32)), (.int (0 : Int32)), (.ref ca)])
  obtain ⟨_, _, ⟨T3, L3, k3, n3⟩, -, X3, ⟨Lc3, hQ3, l3, y3, z3⟩, st3⟩ := Jvm.LawKit.callS X2 hx (y := (⟨"java/lang/StringUTF16", "compress", "([CII)[B"⟩ : MethodName)) hown (mvT hZ (hw _ (List.mem_of_getElem? (i := 58) rfl))) (mvT hZ (hw _ (List.mem_of_getElem? (i := 59) rfl))) (mvT hZ (hw _ (List.mem_of_getElem? (i := 60) rfl))) (mvT hZ (hw _ (List.mem_of_getElem? (i := 61) rfl))) (by decide) (backOf (W := 0) (rm9 l Z a0 hw [] ca kc x0 x1 h0 n0 Z0 V_ca hx0 hx1) hZ (hw _ (List.mem_of_getElem? (i := 61) rfl)) (hw _ (List.mem_of_getElem? (i := 60) rfl)) (by decide) (by decide)) (g := (mkF m 36 #[.val (.ref oa), .val (.ref ca), .val (.int (0 : Int32)), .val (.int (2 : Int32)), .val .null, .unset] [(.int (2 : Int32)), (.int (0 : Int32)), (.ref ca)])) rfl (by rw [hml]; rfl) (argsL := [(.ref ca), (.int (0 : Int32)), (.int (2 : Int32))]) (rest := []) (lenOf own_pd4 rfl) rfl (by show 2 * 0 + _ ≤ _; exact Nat.le_of_eq rfl) (hb hby own_d4_36) (fun _ _ => ⟨rfl, e2, (by decide : 0 + 1 ≤ _), (by decide : 0 + 2 ≤ _)⟩)
  dsimp only [Pt.U, Pt.locs, Pt.cells, Pt.slots] at X3 l3 y3 z3 st3 hQ3
  subst l3 y3 z3
  obtain ⟨b3, k3, u3, v3, rfl, N3q, K3q, s3q, cV3⟩ := hQ3
  have N3 := Fr.app N0 N3q
  obtain ⟨lc3, X3, N3⟩ : ∃ lc, Stand p l e ({ frames := 2, cells := 1, slots := 2, locals := 35 } : Room) s m #[(.ref oa), (.ref ca), (.int (0 : Int32)), (.int (2 : Int32)), .null] below meth c T3 lc 1 2 ∧ Fr n0 lc := ⟨_, X3, N3⟩
  have ne_oa_b3 : oa ≠ b3 := Nat.ne_of_lt (Nat.lt_of_lt_of_le F_oa_value.lt s3q)
  have ne_ca_b3 : ca ≠ b3 := Nat.ne_of_lt (Nat.lt_of_lt_of_le V_ca.lt s3q)
  have g_b3 : n0 ≤ b3 := Nat.le_trans Z0 s3q
  have sz_b3 : h0.size ≤ b3 := Nat.le_trans (Keep.refl h0 [oa]).1 s3q
  have F_oa_value := F_oa_value.keep K3q nin0
  have F_oa_coder := F_oa_coder.keep K3q nin0
  have E_oa := E_oa.keep K3q
  have V_ca := V_ca.keep K3q nin0
  have V_b3 := cV3
  have K3 := (Keep.refl h0 [oa]).trans K3q all0
  have Z3 := Nat.le_trans Z0 K3q.1
  refine Go.of st3 ?_
  show Go p e below Φ T3 (mkF m 39 #[.val (.ref oa), .val (.ref ca), .val (.int (0 : Int32)), .val (.int (2 : Int32)), .val .null, .unset] [(.ref b3)])
  refine Go.of (fun t k => XS.astore X3.here hx rfl (hb hby own_d4_39) rfl rfl (l' := #[.val (.ref oa), .val (.ref ca), .val (.int (0 : Int32)), .val (.int (2 : Int32)), .val .null, .val (.ref b3)]) rfl k) ?_
  show Go p e below Φ T3 (mkF m 41 #[.val (.ref oa), .val (.ref ca), .val (.int (0 : Int32)), .val (.int (2 : Int32)), .val .null, .val (.ref b3)] [])
  refine Go.of (fun t k => XS.aloadN X3.here hx rfl (hb hby own_d4_41) rfl rfl  k) ?_
  show Go p e below Φ T3 (mkF m 42 #[.val (.ref oa), .val (.ref ca), .val (.int (0 : Int32)), .val (.int (2 : Int32)), .val .null, .val (.ref b3)] [(.ref oa)])
  refine Go.of (fun t k => XS.aload X3.here hx rfl (hb hby own_d4_42) rfl rfl  k) ?_
  show Go p e below Φ T3 (mkF m 44 #[.val (.ref oa), .val (.ref ca), .val (.int (0 : Int32)), .val (.int (2 : Int32)), .val .null, .val (.ref b3)] [(.ref b3), (.ref oa)])
  refine Go.of (fun t k => XS.iloadN X3.here hx rfl (hb hby own_d4_44) rfl  k) ?_
  show Go p e below Φ T3 (mkF m 45 #[.val (.ref oa), .val (.ref ca), .val (.int (0 : Int32)), .val (.int (2 : Int32)), .val .null, .val (.ref b3)] [(.int (2 : Int32)), (.ref b3), (.ref oa)])
  obtain ⟨_, _, ⟨T4, L4, k4, n4⟩, -, X4, ⟨Lc4, hQ4, l4, y4, z4⟩, st4⟩ := Jvm.LawKit.callS X3 hx (y := (⟨"java/lang/StringUTF16", "coderFromArrayLen", "([BI)B"⟩ : MethodName)) hown (mvT hZ (hw _ (List.mem_of_getElem? (i := 65) rfl))) (mvT hZ (hw _ (List.mem_of_getElem? (i := 66) rfl))) (mvT hZ (hw _ (List.mem_of_getElem? (i := 60) rfl))) (mvT hZ (hw _ (List.mem_of_getElem? (i := 67) rfl))) (by decide) (backOf (W := 1) (rm11 l Z a0 hw [] b3 k3 u3 v3 T3.heap n0 Z3 V_b3) hZ (hw _ (List.mem_of_getElem? (i := 67) rfl)) (hw _ (List.mem_of_getElem? (i := 60) rfl)) (by decide) (by decide)) (g := (mkF m 45 #[.val (.ref oa), .val (.ref ca), .val (.int (0 : Int32)), .val (.int (2 : Int32)), .val .null, .val (.ref b3)] [(.int (2 : Int32)), (.ref b3), (.ref oa)])) rfl (by rw [hml]; rfl) (argsL := [(.ref b3), (.int (2 : Int32))]) (rest := [(.ref oa)]) (lenOf own_pd5 rfl) rfl (by show 2 * 0 + _ ≤ _; exact Nat.le_of_eq rfl) (hb hby own_d4_45) (fun _ _ => ⟨rfl, rfl, (by decide : 1 + 0 ≤ _), (by decide : 2 + 0 ≤ _)⟩)
  dsimp only [Pt.U, Pt.locs, Pt.cells, Pt.slots] at X4 l4 y4 z4 st4 hQ4
  subst l4 y4 z4
  obtain ⟨rfl, N4q, e4q⟩ := hQ4
  have N4 := Fr.app N3 N4q
  obtain ⟨lc4, X4, N4⟩ : ∃ lc, Stand p l e ({ frames := 2, cells := 1, slots := 2, locals := 35 } : Room) s m #[(.ref oa), (.ref ca), (.int (0 : Int32)), (.int (2 : Int32)), .null] below meth c T4 lc 1 2 ∧ Fr n0 lc := ⟨_, X4, N4⟩
  refine Go.of st4 ?_
  show Go p e below Φ T4 (mkF m 48 #[.val (.ref oa), .val (.ref ca), .val (.int (0 : Int32)), .val (.int (2 : Int32)), .val .null, .val (.ref b3)] [(.int ((0 : Int32).toInt8.toInt32)), (.ref oa)])
  obtain ⟨T5, h5, X5, e5, W5, st5⟩ := putFN X4 hx hZ hown (hw _ (List.mem_of_getElem? (i := 29) rfl)) Via.refl (e4q) F_oa_coder E_oa (Or.inr ⟨(hw _ (List.mem_of_getElem? (i := 25) rfl)), rfl, hnm⟩) (hw _ (List.mem_of_getElem? (i := 9) rfl)) (ty := .byte) (v' := (.int (nar .byte ((0 : Int32).toInt8.toInt32)))) (by decide) rfl (fits_nar_byte _) (g := (mkF m 48 #[.val (.ref oa), .val (.ref ca), .val (.int (0 : Int32)), .val (.int (2 : Int32)), .val .null, .val (.ref b3)] [(.int ((0 : Int32).toInt8.toInt32)), (.ref oa)])) rfl rfl (hb hby own_d4_48)
  have N5 := Fr.snoc X5 N4 g_oa
  have F_oa_coder := F_oa_coder.same W5
  have F_oa_value := F_oa_value.other W5 (Or.inr (slot_ne (Or.inr (hw _ (List.mem_of_getElem? (i := 24) rfl))) (Or.inr (hw _ (List.mem_of_getElem? (i := 25) rfl))) (by decide) (t := (.array .byte)) (t' := .byte) (by decide) (by decide)))
  have E_oa := E_oa.wr W5
  have V_ca := V_ca.other W5 ne_ca_oa
  have V_b3 := V_b3.other W5 (Ne.symm ne_oa_b3)
  have K5 : Keep h0 h5 [oa] := K3.wr W5 (Or.inl (List.mem_of_getElem? (i := 0) rfl))
  have Z5 := Nat.le_trans Z3 (Keep.of_wr W5).1
  obtain ⟨lc5, X5, N5⟩ : ∃ lc, Stand p l e ({ frames := 2, cells := 1, slots := 2, locals := 35 } : Room) s m #[(.ref oa), (.ref ca), (.int (0 : Int32)), (.int (2 : Int32)), .null] below meth c T5 lc 1 2 ∧ Fr n0 lc := ⟨_, X5, N5⟩
  refine Go.of st5 ?_
  show Go p e below Φ T5 (mkF m 51 #[.val (.ref oa), .val (.ref ca), .val (.int (0 : Int32)), .val (.int (2 : Int32)), .val .null, .val (.ref b3)] [])
  refine Go.of (fun t k => XS.aloadN X5.here hx rfl (hb hby own_d4_51) rfl rfl  k) ?_
  show Go p e below Φ T5 (mkF m 52 #[.val (.ref oa), .val (.ref ca), .val (.int (0 : Int32)), .val (.int (2 : Int32)), .val .null, .val (.ref b3)] [(.ref oa)])
  refine Go.of (fun t k => XS.aload X5.here hx rfl (hb hby own_d4_52) rfl rfl  k) ?_
  show Go p e below Φ T5 (mkF m 54 #[.val (.ref oa), .val (.ref ca), .val (.int (0 : Int32)), .val (.int (2 : Int32)), .val .null, .val (.ref b3)] [(.ref b3), (.ref oa)])
  obtain ⟨T6, h6, X6, e6, W6, st6⟩ := putF X5 hx hZ hown (host := "") (Or.inl (hw _ (List.mem_of_getElem? (i := 28) rfl))) Via.refl e5 F_oa_value E_oa (Or.inr ⟨(hw _ (List.mem_of_getElem? (i := 24) rfl)), rfl, hnm⟩) (hw _ (List.mem_of_getElem? (i := 9) rfl)) (ty := (.array .byte)) (by decide) rfl rfl (g := (mkF m 54 #[.val (.ref oa), .val (.ref ca), .val (.int (0 : Int32)), .val (.int (2 : Int32)), .val .null, .val (.ref b3)] [(.ref b3), (.ref oa)])) rfl rfl (hb hby own_d4_54)
  have N6 := Fr.snoc X6 N5 g_oa
  have F_oa_value := F_oa_value.same W6
  have F_oa_coder := F_oa_coder.other W6 (Or.inr (slot_ne (Or.inr (hw _ (List.mem_of_getElem? (i := 25) rfl))) (Or.inr (hw _ (List.mem_of_getElem? (i := 24) rfl))) (by decide) (t := .byte) (t' := (.array .byte)) (by decide) (by decide)))
  have E_oa := E_oa.wr W6
  have V_ca := V_ca.other W6 ne_ca_oa
  have V_b3 := V_b3.other W6 (Ne.symm ne_oa_b3)
  have K6 : Keep h0 h6 [oa] := K5.wr W6 (Or.inl (List.mem_of_getElem? (i := 0) rfl))
  have Z6 := Nat.le_trans Z5 (Keep.of_wr W6).1
  obtain ⟨lc6, X6, N6⟩ : ∃ lc, Stand p l e ({ frames := 2, cells := 1, slots := 2, locals := 35 } : Room) s m #[(.ref oa), (.ref ca), (.int (0 : Int32)), (.int (2 : Int32)), .null] below meth c T6 lc 1 2 ∧ Fr n0 lc := ⟨_, X6, N6⟩
  refine Go.of st6 ?_
  show Go p e below Φ T6 (mkF m 57 #[.val (.ref oa), .val (.ref ca), .val (.int (0 : Int32)), .val (.int (2 : Int32)), .val .null, .val (.ref b3)] [])
  rw [hΦ]
  refine Go.retV X6 hx Bd.notSynchronized Bd.returns (hb hby own_d4_57) (by decide) (by decide) ?_
  rw [e6]
  exact ⟨rfl, N6, K6⟩
theorem own_ef4a (m : MethodId) (oa : Addr) (ca : Addr) : entryFrame m #[(.ref oa), (.ref ca), (.int (0 : Int32)), (.int (0 : Int32)), .null] 6 = mkF m 0 #[.val (.ref oa), .val (.ref ca), .val (.int (0 : Int32)), .val (.int (0 : Int32)), .val .null, .unset] [] := by first | (simp [entryFrame, mkF, argsToLocals, Value.category]; done) | rfl
def Q4a (Z : State) (oa : Addr) (ca : Addr) (wc : Int32) (h0 : Heap) (n0 : Nat) (vr : Option Value) (hr : Heap) (Lr : List Loc) : Prop := vr = none ∧ Fr n0 Lr ∧ Keep h0 hr [oa]
set_option maxRecDepth 65536 in
set_option maxHeartbeats 40000000 in
theorem rm4a (l : Launch) (Z : State) (a0 : Array Value) (hw : ∀ d ∈ tables_1, d.before a0 Z = true) (ws : List Jvm.Cond) (oa : Addr) (ca : Addr) (wc : Int32) (h0 : Heap) (n0 : Nat) (Z0 : n0 ≤ h0.size) (F_oa_value : Fld Z h0 oa "java/lang/String" "value" "[B" .null) (F_oa_coder : Fld Z h0 oa "java/lang/String" "coder" "B" (.int wc)) (E_oa : Exa Z h0 oa "java/lang/String") (g_oa : n0 ≤ oa) :
    MetFree l (⟨"java/lang/String", "<init>", "([CIILjava/lang/Void;)V"⟩ : MethodName) (head1 (Jvm.Cond.code (⟨"java/lang/String", "<init>", "([CIILjava/lang/Void;)V"⟩ : MethodName) jdk_42_method_149_code 6 none :: ws) ({ frames := 1, cells := 4, slots := 8, locals := 12 } : Room)) (fun aQ UQ => aQ = #[(.ref oa), (.ref ca), (.int (0 : Int32)), (.int (0 : Int32)), .null] ∧ Z.Warmed39 UQ.vm ∧ UQ.heap = h0 ∧ CHv Z [("java/lang/String", 7)] UQ.vm h0) (fun _ _ _ _ _ => True) (fun _ UQ oQ VQ => ∃ vQ LQ, oQ = .returned vQ ∧ Q4a Z oa ca wc h0 n0 vQ VQ.heap LQ ∧ CHr Z [("java/lang/String", 7)] UQ.vm UQ.heap VQ.vm VQ.heap ∧ ReturnedEndW UQ oQ VQ LQ ({ frames := 1, cells := 4, slots := 8, locals := 12 } : Room).cells ({ frames := 1, cells := 4, slots := 8, locals := 12 } : Room).slots) := by
  refine MetFree.of_bodySF (plainFor_of_name own_pn1) hisR ?_
  intro p e s m args below meth c s₁ Bd hml0 hP hK
  obtain ⟨rfl, hZ, hh, hCH⟩ := hP
  have hEL := own_EL hw
  have hS0 := own_since s
  have hk0 : s.heap.size ≤ h0.size := Nat.le_of_eq (by rw [hh])
  have hR0 := CHr.refl hCH
  have Sf_oa : Safe Z [("java/lang/String", 7)] s.vm h0 oa := own_safe hZ.alike E_oa F_oa_value
  have hx := Bd.exec
  have hby := Bd.bytes
  have hml : c.maxLocals = 6 := hml0
  have hown : s.vm.findClass "java/lang/String" = some m.cls := findClass_of_methodNamed Bd.named
  have hnm := (name_of_methodNamed Bd.named Bd.method).1
  have X0 : Stand p l e ({ frames := 1, cells := 4, slots := 8, locals := 12 } : Room) (s.setVm s.vm) m #[(.ref oa), (.ref ca), (.int (0 : Int32)), (.int (0 : Int32)), .null] below meth c s₁ [] 0 0 := Stand.of_body Bd
  have e0 : s₁.heap = h0 := by rw [← hh, Bd.state]; rfl
  have N0 := Fr.nil n0
  show Go p e below (EndW Z [("java/lang/String", 7)] s below (Q4a Z oa ca wc h0 n0) ({ frames := 1, cells := 4, slots := 8, locals := 12 } : Room).cells ({ frames := 1, cells := 4, slots := 8, locals := 12 } : Room).slots) s₁ (entryFrame m #[(.ref oa), (.ref ca), (.int (0 : Int32)), (.int (0 : Int32)), .null] 6)
  obtain ⟨Φ, hΦ⟩ : ∃ Φ, Φ = EndW Z [("java/lang/String", 7)] s below (Q4a Z oa ca wc h0 n0) ({ frames := 1, cells := 4, slots := 8, locals := 12 } : Room).cells ({ frames := 1, cells := 4, slots := 8, locals := 12 } : Room).slots := ⟨_, rfl⟩
  rw [← hΦ, own_ef4a]
  show Go p e below Φ s₁ (mkF m 0 #[.val (.ref oa), .val (.ref ca), .val (.int (0 : Int32)), .val (.int (0 : Int32)), .val .null, .unset] [])
  refine Go.of (fun t k => XS.aloadN X0.here hx rfl (hb hby own_d4_0) rfl rfl  k) ?_
  show Go p e below Φ s₁ (mkF m 1 #[.val (.ref oa), .val (.ref ca), .val (.int (0 : Int32)), .val (.int (0 : Int32)), .val .null, .unset] [(.ref oa)])
  obtain ⟨T1, X1, e1, st1⟩ := initO X0 hx hZ hown (hw _ (List.mem_of_getElem? (i := 19) rfl)) (hw _ (List.mem_of_getElem? (i := 20) rfl)) (hw _ (List.mem_of_getElem? (i := 21) rfl)) e0 (g := (mkF m 1 #[.val (.ref oa), .val (.ref ca), .val (.int (0 : Int32)), .val (.int (0 : Int32)), .val .null, .unset] [(.ref oa)])) rfl (by rw [hml]; rfl) rfl (hb hby own_d4_1) (by decide) (W := 0) (by show 2 * 0 + _ ≤ _; exact Nat.le_of_eq rfl) (by decide)
  refine Go.of st1 ?_
  show Go p e below Φ T1 (mkF m 4 #[.val (.ref oa), .val (.ref ca), .val (.int (0 : Int32)), .val (.int (0 : Int32)), .val .null, .unset] [])
  refine Go.of (fun t k => XS.iloadN X1.here hx rfl (hb hby own_d4_4) rfl  k) ?_
  show Go p e below Φ T1 (mkF m 5 #[.val (.ref oa), .val (.ref ca), .val (.int (0 : Int32)), .val (.int (0 : Int32)), .val .null, .unset] [(.int (0 : Int32))])
  refine Go.of (fun t k => XS.ifNo X1.here hx rfl (hb hby own_d4_5) rfl (XT.i0_ne_f rfl) k) ?_
  show Go p e below Φ T1 (mkF m 8 #[.val (.ref oa), .val (.ref ca), .val (.int (0 : Int32)), .val (.int (0 : Int32)), .val .null, .unset] [])
  refine Go.of (fun t k => XS.aloadN X1.here hx rfl (hb hby own_d4_8) rfl rfl  k) ?_
  show Go p e below Φ T1 (mkF m 9 #[.val (.ref oa), .val (.ref ca), .val (.int (0 : Int32)), .val (.int (0 : Int32)), .val .null, .unset] [(.ref oa)])
  obtain ⟨b2, T2, h2, k2, c2, d2, X2, e2, E2, hS2, hk2, hZ2, ho2, Ex2, Fc2, Fv2, Av2, la2, lb2, A2, -, hsn2, st2⟩ := ldcCH X1 hx hZ hown (hw _ (List.mem_of_getElem? (i := 22) rfl)) (own_wS hw) e1 hS0 hk0 hEL (List.mem_of_getElem? (i := 0) rfl) hR0.1 (vs := []) (z := (0 : Int32)) ⟨nofun, rfl⟩ (by decide) rfl (g := (mkF m 9 #[.val (.ref oa), .val (.ref ca), .val (.int (0 : Int32)), .val (.int (0 : Int32)), .val .null, .unset] [(.ref oa)])) rfl (hb hby own_d4_9) (n := 0) (by decide) (by decide) (by decide) (by decide)
  have hZ := hZ2
  have hown := ho2
  have Sf_oa := CHr.safe A2 F_oa_value.lt Sf_oa
  have hR2 := hR0.trans A2
  have F_oa_value := F_oa_value.ext E2
  have F_oa_coder := F_oa_coder.ext E2
  have E_oa := E_oa.ext E2
  have K2 := (Keep.refl h0 [oa]).ext E2
  have Z2 := Nat.le_trans Z0 E2.1
  have ne_oa_b2 : oa ≠ b2 := (hsn2 _ Sf_oa).1
  refine Go.of st2 ?_
  show Go p e below Φ T2 (mkF m 11 #[.val (.ref oa), .val (.ref ca), .val (.int (0 : Int32)), .val (.int (0 : Int32)), .val .null, .unset] [(.ref b2), (.ref oa)])
  obtain ⟨T3, X3, e3, st3⟩ := getF X2 hx hZ hown (host := "") (Or.inl (hw _ (List.mem_of_getElem? (i := 28) rfl))) Via.refl e2 Fv2 (g := (mkF m 11 #[.val (.ref oa), .val (.ref ca), .val (.int (0 : Int32)), .val (.int (0 : Int32)), .val .null, .unset] [(.ref b2), (.ref oa)])) rfl rfl (hb hby own_d4_11)
  refine Go.of st3 ?_
  show Go p e below Φ T3 (mkF m 14 #[.val (.ref oa), .val (.ref ca), .val (.int (0 : Int32)), .val (.int (0 : Int32)), .val .null, .unset] [(.ref c2), (.ref oa)])
  obtain ⟨T4, h4, X4, e4, W4, st4⟩ := putF X3 hx hZ hown (host := "") (Or.inl (hw _ (List.mem_of_getElem? (i := 28) rfl))) Via.refl e3 F_oa_value E_oa (Or.inr ⟨(hw _ (List.mem_of_getElem? (i := 24) rfl)), rfl, hnm⟩) (hw _ (List.mem_of_getElem? (i := 9) rfl)) (ty := (.array .byte)) (by decide) rfl rfl (g := (mkF m 14 #[.val (.ref oa), .val (.ref ca), .val (.int (0 : Int32)), .val (.int (0 : Int32)), .val .null, .unset] [(.ref c2), (.ref oa)])) rfl rfl (hb hby own_d4_14)
  have N4 := Fr.snoc X4 N0 g_oa
  have F_oa_value := F_oa_value.same W4
  have F_oa_coder := F_oa_coder.other W4 (Or.inr (slot_ne (Or.inr (hw _ (List.mem_of_getElem? (i := 25) rfl))) (Or.inr (hw _ (List.mem_of_getElem? (i := 24) rfl))) (by decide) (t := .byte) (t' := (.array .byte)) (by decide) (by decide)))
  have E_oa := E_oa.wr W4
  have Ex2 := Ex2.wr W4
  have Fc2 := Fc2.other W4 (Or.inl (Ne.symm ne_oa_b2))
  have Fv2 := Fv2.other W4 (Or.inl (Ne.symm ne_oa_b2))
  have K4 : Keep h0 h4 [oa] := K2.wr W4 (Or.inl (List.mem_of_getElem? (i := 0) rfl))
  have Z4 := Nat.le_trans Z2 (Keep.of_wr W4).1
  have hs4 := Sf_oa
  have Sf_oa := Safe.wr W4 hs4 hR2.1 Sf_oa
  have hR4 := hR2.trans (CHr.wr W4 hs4 hR2.1)
  have hk4 := Nat.le_trans hk2 (Keep.of_wr W4).1
  obtain ⟨lc4, X4, N4⟩ : ∃ lc, Stand p l e ({ frames := 1, cells := 4, slots := 8, locals := 12 } : Room) (s.setVm T2.vm) m #[(.ref oa), (.ref ca), (.int (0 : Int32)), (.int (0 : Int32)), .null] below meth c T4 lc 2 4 ∧ Fr n0 lc := ⟨_, X4, N4⟩
  refine Go.of st4 ?_
  show Go p e below Φ T4 (mkF m 17 #[.val (.ref oa), .val (.ref ca), .val (.int (0 : Int32)), .val (.int (0 : Int32)), .val .null, .unset] [])
  refine Go.of (fun t k => XS.aloadN X4.here hx rfl (hb hby own_d4_17) rfl rfl  k) ?_
  show Go p e below Φ T4 (mkF m 18 #[.val (.ref oa), .val (.ref ca), .val (.int (0 : Int32)), .val (.int (0 : Int32)), .val .null, .unset] [(.ref oa)])
  obtain ⟨b5, T5, h5, k5, c5, d5, X5, e5, E5, hS5, hk5, hZ5, ho5, Ex5, Fc5, Fv5, Av5, la5, lb5, A5, -, hsn5, st5⟩ := ldcCH X4 hx hZ hown (hw _ (List.mem_of_getElem? (i := 22) rfl)) (own_wS hw) e4 hS2 hk4 hEL (List.mem_of_getElem? (i := 0) rfl) hR4.1 (vs := []) (z := (0 : Int32)) ⟨nofun, rfl⟩ (by decide) rfl (g := (mkF m 18 #[.val (.ref oa), .val (.ref ca), .val (.int (0 : Int32)), .val (.int (0 : Int32)), .val .null, .unset] [(.ref oa)])) rfl (hb hby own_d4_18) (n := 0) (by decide) (by decide) (by decide) (by decide)
  have hZ := hZ5
  have hown := ho5
  have Sf_oa := CHr.safe A5 F_oa_value.lt Sf_oa
  have hR5 := hR4.trans A5
  have F_oa_value := F_oa_value.ext E5
  have F_oa_coder := F_oa_coder.ext E5
  have E_oa := E_oa.ext E5
  have Ex2 := Ex2.ext E5
  have Fc2 := Fc2.ext E5
  have Fv2 := Fv2.ext E5
  have K5 := K4.ext E5
  have Z5 := Nat.le_trans Z4 E5.1
  have ne_oa_b5 : oa ≠ b5 := (hsn5 _ Sf_oa).1
  refine Go.of st5 ?_
  show Go p e below Φ T5 (mkF m 20 #[.val (.ref oa), .val (.ref ca), .val (.int (0 : Int32)), .val (.int (0 : Int32)), .val .null, .unset] [(.ref b5), (.ref oa)])
  obtain ⟨T6, X6, e6, st6⟩ := getF X5 hx hZ hown (host := "") (Or.inl (hw _ (List.mem_of_getElem? (i := 29) rfl))) Via.refl e5 Fc5 (g := (mkF m 20 #[.val (.ref oa), .val (.ref ca), .val (.int (0 : Int32)), .val (.int (0 : Int32)), .val .null, .unset] [(.ref b5), (.ref oa)])) rfl rfl (hb hby own_d4_20)
  refine Go.of st6 ?_
  show Go p e below Φ T6 (mkF m 23 #[.val (.ref oa), .val (.ref ca), .val (.int (0 : Int32)), .val (.int (0 : Int32)), .val .null, .unset] [(.int (0 : Int32)), (.ref oa)])
  obtain ⟨T7, h7, X7, e7, W7, st7⟩ := putFN X6 hx hZ hown (hw _ (List.mem_of_getElem? (i := 29) rfl)) Via.refl e6 F_oa_coder E_oa (Or.inr ⟨(hw _ (List.mem_of_getElem? (i := 25) rfl)), rfl, hnm⟩) (hw _ (List.mem_of_getElem? (i := 9) rfl)) (ty := .byte) (v' := (.int (nar .byte (0 : Int32)))) (by decide) rfl (fits_nar_byte _) (g := (mkF m 23 #[.val (.ref oa), .val (.ref ca), .val (.int (0 : Int32)), .val (.int (0 : Int32)), .val .null, .unset] [(.int (0 : Int32)), (.ref oa)])) rfl rfl (hb hby own_d4_23)
  have N7 := Fr.snoc X7 N4 g_oa
  have F_oa_coder := F_oa_coder.same W7
  have F_oa_value := F_oa_value.other W7 (Or.inr (slot_ne (Or.inr (hw _ (List.mem_of_getElem? (i := 24) rfl))) (Or.inr (hw _ (List.mem_of_getElem? (i := 25) rfl))) (by decide) (t := (.array .byte)) (t' := .byte) (by decide) (by decide)))
  have E_oa := E_oa.wr W7
  have Ex2 := Ex2.wr W7
  have Fc2 := Fc2.other W7 (Or.inl (Ne.symm ne_oa_b2))
  have Fv2 := Fv2.other W7 (Or.inl (Ne.symm ne_oa_b2))
  have Ex5 := Ex5.wr W7
  have Fc5 := Fc5.other W7 (Or.inl (Ne.symm ne_oa_b5))
  have Fv5 := Fv5.other W7 (Or.inl (Ne.symm ne_oa_b5))
  have K7 : Keep h0 h7 [oa] := K5.wr W7 (Or.inl (List.mem_of_getElem? (i := 0) rfl))
  have Z7 := Nat.le_trans Z5 (Keep.of_wr W7).1
  have hs7 := Sf_oa
  have Sf_oa := Safe.wr W7 hs7 hR5.1 Sf_oa
  have hR7 := hR5.trans (CHr.wr W7 hs7 hR5.1)
  have hk7 := Nat.le_trans hk5 (Keep.of_wr W7).1
  obtain ⟨lc7, X7, N7⟩ : ∃ lc, Stand p l e ({ frames := 1, cells := 4, slots := 8, locals := 12 } : Room) (s.setVm T5.vm) m #[(.ref oa), (.ref ca), (.int (0 : Int32)), (.int (0 : Int32)), .null] below meth c T7 lc 4 8 ∧ Fr n0 lc := ⟨_, X7, N7⟩
  refine Go.of st7 ?_
  show Go p e below Φ T7 (mkF m 26 #[.val (.ref oa), .val (.ref ca), .val (.int (0 : Int32)), .val (.int (0 : Int32)), .val .null, .unset] [])
  rw [hΦ]
  refine Go.retVW X7 hx Bd.notSynchronized hS5 (own_kk e7 hk7) hZ hEL (own_rr hh e7 hR7) Bd.returns (hb hby own_d4_26) (by decide) (by decide) ?_
  rw [e7]
  exact ⟨rfl, N7, K7⟩
theorem own_ef3b (m : MethodId) (oa : Addr) (ca : Addr) : entryFrame m #[(.ref oa), (.ref ca)] 2 = mkF m 0 #[.val (.ref oa), .val (.ref ca)] [] := by first | (simp [entryFrame, mkF, argsToLocals, Value.category]; done) | rfl
def Q3b (Z : State) (oa : Addr) (ca : Addr) (kc : ClassId) (x0 : Int32) (x1 : Int32) (w : Int32) (u : Value) (wc : Int32) (h0 : Heap) (n0 : Nat) (vr : Option Value) (hr : Heap) (Lr : List Loc) : Prop := vr = none ∧ Fr n0 Lr ∧ Keep h0 hr [oa]
set_option maxRecDepth 65536 in
set_option maxHeartbeats 40000000 in
theorem rm3b (l : Launch) (Z : State) (a0 : Array Value) (hw : ∀ d ∈ tables_1, d.before a0 Z = true) (ws : List Jvm.Cond) (oa : Addr) (ca : Addr) (kc : ClassId) (x0 : Int32) (x1 : Int32) (w : Int32) (u : Value) (wc : Int32) (h0 : Heap) (n0 : Nat) (Z0 : n0 ≤ h0.size) (F_oa_value : Fld Z h0 oa "java/lang/String" "value" "[B" u) (F_oa_coder : Fld Z h0 oa "java/lang/String" "coder" "B" (.int wc)) (E_oa : Exa Z h0 oa "java/lang/String") (g_oa : n0 ≤ oa) (V_ca : Arv Z h0 ca kc .char (2 : Int32) [(.int x0), (.int x1)] (.int (0 : Int32))) (ne_ca_oa : ca ≠ oa) (S_COMPACT_STRINGS : Sta Z h0 "java/lang/String" "COMPACT_STRINGS" "Z" (.int w)) (hw0 : ¬ (w = (0 : Int32))) (hx0 : ¬ ((255 : Int32) < x0)) (hx1 : ¬ ((255 : Int32) < x1)) :
    MetFree l (⟨"java/lang/String", "<init>", "([C)V"⟩ : MethodName) (head1 (Jvm.Cond.code (⟨"java/lang/String", "<init>", "([C)V"⟩ : MethodName) jdk_42_method_3_code 2 none :: ws) ({ frames := 3, cells := 1, slots := 2, locals := 52 } : Room)) (fun aQ UQ => aQ = #[(.ref oa), (.ref ca)] ∧ Z.Warmed39 UQ.vm ∧ UQ.heap = h0) (fun _ _ _ _ _ => True) (fun _ UQ oQ VQ => ∃ vQ LQ, oQ = .returned vQ ∧ Q3b Z oa ca kc x0 x1 w u wc h0 n0 vQ VQ.heap LQ ∧ FrameEnd UQ oQ VQ LQ ({ frames := 3, cells := 1, slots := 2, locals := 52 } : Room).cells ({ frames := 3, cells := 1, slots := 2, locals := 52 } : Room).slots) := by
  refine MetFree.of_bodySF (plainFor_of_name own_pn1) hisR ?_
  intro p e s m args below meth c s₁ Bd hml0 hP hK
  obtain ⟨rfl, hZ, hh⟩ := hP
  have hx := Bd.exec
  have hby := Bd.bytes
  have hml : c.maxLocals = 2 := hml0
  have hown : s.vm.findClass "java/lang/String" = some m.cls := findClass_of_methodNamed Bd.named
  have hnm := (name_of_methodNamed Bd.named Bd.method).1
  have X0 : Stand p l e ({ frames := 3, cells := 1, slots := 2, locals := 52 } : Room) s m #[(.ref oa), (.ref ca)] below meth c s₁ [] 0 0 := Stand.of_body Bd
  have e0 : s₁.heap = h0 := by rw [← hh, Bd.state]; rfl
  have N0 := Fr.nil n0
  show Go p e below (EndQ s below (Q3b Z oa ca kc x0 x1 w u wc h0 n0) ({ frames := 3, cells := 1, slots := 2, locals := 52 } : Room).cells ({ frames := 3, cells := 1, slots := 2, locals := 52 } : Room).slots) s₁ (entryFrame m #[(.ref oa), (.ref ca)] 2)
  obtain ⟨Φ, hΦ⟩ : ∃ Φ, Φ = EndQ s below (Q3b Z oa ca kc x0 x1 w u wc h0 n0) ({ frames := 3, cells := 1, slots := 2, locals := 52 } : Room).cells ({ frames := 3, cells := 1, slots := 2, locals := 52 } : Room).slots := ⟨_, rfl⟩
  rw [← hΦ, own_ef3b]
  show Go p e below Φ s₁ (mkF m 0 #[.val (.ref oa), .val (.ref ca)] [])
  refine Go.of (fun t k => XS.aloadN X0.here hx rfl (hb hby own_d3_0) rfl rfl  k) ?_
  show Go p e below Φ s₁ (mkF m 1 #[.val (.ref oa), .val (.ref ca)] [(.ref oa)])
  refine Go.of (fun t k => XS.aloadN X0.here hx rfl (hb hby own_d3_1) rfl rfl  k) ?_
  show Go p e below Φ s₁ (mkF m 2 #[.val (.ref oa), .val (.ref ca)] [(.ref ca), (.ref oa)])
  refine Go.of (fun t k => XS.iconst X0.here hx rfl (hb hby own_d3_2) k) ?_
  show Go p e below Φ s₁ (mkF m 3 #[.val (.ref oa), .val (.ref ca)] [(.int (0 : Int32)), (.ref ca), (.ref oa)])
  refine Go.of (fun t k => XS.aloadN X0.here hx rfl (hb hby own_d3_3) rfl rfl  k) ?_
  show Go p e below Φ s₁ (mkF m 4 #[.val (.ref oa), .val (.ref ca)] [(.ref ca), (.int (0 : Int32)), (.ref ca), (.ref oa)])
  obtain ⟨cl4, Ar4, q4, S4, N4, H4, G4⟩ := id V_ca
  refine Go.of (fun t k => X0.arraylength hx (own_at_ e0 Ar4.1) (State.isArrayOf_alike hZ.alike Ar4.2.1) (g := (mkF m 4 #[.val (.ref oa), .val (.ref ca)] [(.ref ca), (.int (0 : Int32)), (.ref ca), (.ref oa)])) rfl rfl (hb hby own_d3_4) t k) ?_
  rw [len_of S4 N4]
  show Go p e below Φ s₁ (mkF m 5 #[.val (.ref oa), .val (.ref ca)] [(.int (2 : Int32)), (.int (0 : Int32)), (.ref ca), (.ref oa)])
  refine Go.of (fun t k => XS.aconstNull X0.here hx rfl (hb hby own_d3_5) k) ?_
  show Go p e below Φ s₁ (mkF m 6 #[.val (.ref oa), .val (.ref ca)] [.null, (.int (2 : Int32)), (.int (0 : Int32)), (.ref ca), (.ref oa)])
  obtain ⟨_, _, ⟨T1, L1, k1, n1⟩, -, X1, ⟨Lc1, hQ1, l1, y1, z1⟩, st1⟩ := X0.specialBack hx (y := (⟨"java/lang/String", "<init>", "([CIILjava/lang/Void;)V"⟩ : MethodName)) rfl hown (mvT hZ (hw _ (List.mem_of_getElem? (i := 15) rfl))) (mvT hZ (hw _ (List.mem_of_getElem? (i := 16) rfl))) (mvT hZ (hw _ (List.mem_of_getElem? (i := 18) rfl))) (by decide) (backOf (W := 0) (rm4b l Z a0 hw [] oa ca kc x0 x1 w u wc h0 n0 Z0 F_oa_value F_oa_coder E_oa g_oa V_ca ne_ca_oa S_COMPACT_STRINGS hw0 hx0 hx1) hZ (hw _ (List.mem_of_getElem? (i := 18) rfl)) (hw _ (List.mem_of_getElem? (i := 10) rfl)) (by decide) (by decide)) (g := (mkF m 6 #[.val (.ref oa), .val (.ref ca)] [.null, (.int (2 : Int32)), (.int (0 : Int32)), (.ref ca), (.ref oa)])) rfl (by rw [hml]; rfl) (Steps.refl _) (a := oa) (argsL := [(.ref ca), (.int (0 : Int32)), (.int (2 : Int32)), .null]) (rest := []) (lenOf own_pd6 rfl) rfl (by show 2 * 0 + _ ≤ _; exact Nat.le_of_eq rfl) (hb hby own_d3_6) (fun _ _ => ⟨rfl, e0, (by decide : 0 + 1 ≤ _), (by decide : 0 + 2 ≤ _)⟩)
  dsimp only [Pt.U, Pt.locs, Pt.cells, Pt.slots] at X1 l1 y1 z1 st1 hQ1
  subst l1 y1 z1
  obtain ⟨rfl, N1q, K1q⟩ := hQ1
  have N1 := Fr.app N0 N1q
  obtain ⟨lc1, X1, N1⟩ : ∃ lc, Stand p l e ({ frames := 3, cells := 1, slots := 2, locals := 52 } : Room) s m #[(.ref oa), (.ref ca)] below meth c T1 lc 1 2 ∧ Fr n0 lc := ⟨_, X1, N1⟩
  have E_oa := E_oa.keep K1q
  have V_ca := V_ca.keep K1q (ninS ne_ca_oa nin0)
  have K1 := (Keep.refl h0 [oa]).trans K1q (allS (Or.inl (List.mem_of_getElem? (i := 0) rfl)) all0)
  have Z1 := Nat.le_trans Z0 K1q.1
  refine Go.tr st1 ?_
  show Go p e below Φ T1 (mkF m 9 #[.val (.ref oa), .val (.ref ca)] [])
  rw [hΦ]
  refine Go.retV X1 hx Bd.notSynchronized Bd.returns (hb hby own_d3_9) (by decide) (by decide) ?_
  exact ⟨rfl, N1, K1⟩
theorem own_ef3a (m : MethodId) (oa : Addr) (ca : Addr) : entryFrame m #[(.ref oa), (.ref ca)] 2 = mkF m 0 #[.val (.ref oa), .val (.ref ca)] [] := by first | (simp [entryFrame, mkF, argsToLocals, Value.category]; done) | rfl
def Q3a (Z : State) (oa : Addr) (ca : Addr) (kc : ClassId) (wc : Int32) (h0 : Heap) (n0 : Nat) (vr : Option Value) (hr : Heap) (Lr : List Loc) : Prop := vr = none ∧ Fr n0 Lr ∧ Keep h0 hr [oa]
set_option maxRecDepth 65536 in
set_option maxHeartbeats 40000000 in
theorem rm3a (l : Launch) (Z : State) (a0 : Array Value) (hw : ∀ d ∈ tables_1, d.before a0 Z = true) (ws : List Jvm.Cond) (oa : Addr) (ca : Addr) (kc : ClassId) (wc : Int32) (h0 : Heap) (n0 : Nat) (Z0 : n0 ≤ h0.size) (F_oa_value : Fld Z h0 oa "java/lang/String" "value" "[B" .null) (F_oa_coder : Fld Z h0 oa "java/lang/String" "coder" "B" (.int wc)) (E_oa : Exa Z h0 oa "java/lang/String") (g_oa : n0 ≤ oa) (V_ca : Arv Z h0 ca kc .char (0 : Int32) [] (.int (0 : Int32))) (ne_ca_oa : ca ≠ oa) :
    MetFree l (⟨"java/lang/String", "<init>", "([C)V"⟩ : MethodName) (head1 (Jvm.Cond.code (⟨"java/lang/String", "<init>", "([C)V"⟩ : MethodName) jdk_42_method_3_code 2 none :: ws) ({ frames := 2, cells := 4, slots := 8, locals := 29 } : Room)) (fun aQ UQ => aQ = #[(.ref oa), (.ref ca)] ∧ Z.Warmed39 UQ.vm ∧ UQ.heap = h0 ∧ CHv Z [("java/lang/String", 7)] UQ.vm h0) (fun _ _ _ _ _ => True) (fun _ UQ oQ VQ => ∃ vQ LQ, oQ = .returned vQ ∧ Q3a Z oa ca kc wc h0 n0 vQ VQ.heap LQ ∧ CHr Z [("java/lang/String", 7)] UQ.vm UQ.heap VQ.vm VQ.heap ∧ ReturnedEndW UQ oQ VQ LQ ({ frames := 2, cells := 4, slots := 8, locals := 29 } : Room).cells ({ frames := 2, cells := 4, slots := 8, locals := 29 } : Room).slots) := by
  refine MetFree.of_bodySF (plainFor_of_name own_pn1) hisR ?_
  intro p e s m args below meth c s₁ Bd hml0 hP hK
  obtain ⟨rfl, hZ, hh, hCH⟩ := hP
  have hEL := own_EL hw
  have hS0 := own_since s
  have hk0 : s.heap.size ≤ h0.size := Nat.le_of_eq (by rw [hh])
  have hR0 := CHr.refl hCH
  have Sf_oa : Safe Z [("java/lang/String", 7)] s.vm h0 oa := own_safe hZ.alike E_oa F_oa_value
  have hx := Bd.exec
  have hby := Bd.bytes
  have hml : c.maxLocals = 2 := hml0
  have hown : s.vm.findClass "java/lang/String" = some m.cls := findClass_of_methodNamed Bd.named
  have hnm := (name_of_methodNamed Bd.named Bd.method).1
  have X0 : Stand p l e ({ frames := 2, cells := 4, slots := 8, locals := 29 } : Room) (s.setVm s.vm) m #[(.ref oa), (.ref ca)] below meth c s₁ [] 0 0 := Stand.of_body Bd
  have e0 : s₁.heap = h0 := by rw [← hh, Bd.state]; rfl
  have N0 := Fr.nil n0
  show Go p e below (EndW Z [("java/lang/String", 7)] s below (Q3a Z oa ca kc wc h0 n0) ({ frames := 2, cells := 4, slots := 8, locals := 29 } : Room).cells ({ frames := 2, cells := 4, slots := 8, locals := 29 } : Room).slots) s₁ (entryFrame m #[(.ref oa), (.ref ca)] 2)
  obtain ⟨Φ, hΦ⟩ : ∃ Φ, Φ = EndW Z [("java/lang/String", 7)] s below (Q3a Z oa ca kc wc h0 n0) ({ frames := 2, cells := 4, slots := 8, locals := 29 } : Room).cells ({ frames := 2, cells := 4, slots := 8, locals := 29 } : Room).slots := ⟨_, rfl⟩
  rw [← hΦ, own_ef3a]
  show Go p e below Φ s₁ (mkF m 0 #[.val (.ref oa), .val (.ref ca)] [])
  refine Go.of (fun t k => XS.aloadN X0.here hx rfl (hb hby own_d3_0) rfl rfl  k) ?_
  show Go p e below Φ s₁ (mkF m 1 #[.val (.ref oa), .val (.ref ca)] [(.ref oa)])
  refine Go.of (fun t k => XS.aloadN X0.here hx rfl (hb hby own_d3_1) rfl rfl  k) ?_
  show Go p e below Φ s₁ (mkF m 2 #[.val (.ref oa), .val (.ref ca)] [(.ref ca), (.ref oa)])
  refine Go.of (fun t k => XS.iconst X0.here hx rfl (hb hby own_d3_2) k) ?_
  show Go p e below Φ s₁ (mkF m 3 #[.val (.ref oa), .val (.ref ca)] [(.int (0 : Int32)), (.ref ca), (.ref oa)])
  refine Go.of (fun t k => XS.aloadN X0.here hx rfl (hb hby own_d3_3) rfl rfl  k) ?_
  show Go p e below Φ s₁ (mkF m 4 #[.val (.ref oa), .val (.ref ca)] [(.ref ca), (.int (0 : Int32)), (.ref ca), (.ref oa)])
  obtain ⟨cl4, Ar4, q4, S4, N4, H4, G4⟩ := id V_ca
  refine Go.of (fun t k => X0.arraylength hx (own_at_ e0 Ar4.1) (State.isArrayOf_alike hZ.alike Ar4.2.1) (g := (mkF m 4 #[.val (.ref oa), .val (.ref ca)] [(.ref ca), (.int (0 : Int32)), (.ref ca), (.ref oa)])) rfl rfl (hb hby own_d3_4) t k) ?_
  rw [len_of S4 N4]
  show Go p e below Φ s₁ (mkF m 5 #[.val (.ref oa), .val (.ref ca)] [(.int (0 : Int32)), (.int (0 : Int32)), (.ref ca), (.ref oa)])
  refine Go.of (fun t k => XS.aconstNull X0.here hx rfl (hb hby own_d3_5) k) ?_
  show Go p e below Φ s₁ (mkF m 6 #[.val (.ref oa), .val (.ref ca)] [.null, (.int (0 : Int32)), (.int (0 : Int32)), (.ref ca), (.ref oa)])
  obtain ⟨_, _, ⟨T1, L1, k1, n1⟩, -, X1, hS1, hg1, ⟨Lc1, hQ1, l1, y1, z1, A1⟩, st1⟩ := X0.specialBackS hx (y := (⟨"java/lang/String", "<init>", "([CIILjava/lang/Void;)V"⟩ : MethodName)) rfl hown (mvT hZ (hw _ (List.mem_of_getElem? (i := 15) rfl))) (mvT hZ (hw _ (List.mem_of_getElem? (i := 16) rfl))) (mvT hZ (hw _ (List.mem_of_getElem? (i := 18) rfl))) (by decide) (backOfSH (W := 0) (rm4a l Z a0 hw [] oa ca wc h0 n0 Z0 F_oa_value F_oa_coder E_oa g_oa) hZ (hw _ (List.mem_of_getElem? (i := 18) rfl)) (hw _ (List.mem_of_getElem? (i := 10) rfl)) (by decide) (by decide) hEL hR0.1) (g := (mkF m 6 #[.val (.ref oa), .val (.ref ca)] [.null, (.int (0 : Int32)), (.int (0 : Int32)), (.ref ca), (.ref oa)])) rfl (by rw [hml]; rfl) (Steps.refl _) (a := oa) (argsL := [(.ref ca), (.int (0 : Int32)), (.int (0 : Int32)), .null]) (rest := []) (lenOf own_pd6 rfl) rfl (by show 2 * 0 + _ ≤ _; exact Nat.le_of_eq rfl) (hb hby own_d3_6) (fun _ _ => ⟨rfl, e0, (by decide : 0 + 4 ≤ _), (by decide : 0 + 8 ≤ _)⟩)
  dsimp only [Pt.U, Pt.locs, Pt.cells, Pt.slots] at X1 l1 y1 z1 st1 hQ1 A1 hS1 hg1
  subst l1 y1 z1
  obtain ⟨rfl, N1q, K1q⟩ := hQ1
  have N1 := Fr.app N0 N1q
  have hZ := State.Warmed39.trans (t := s.setVm s.vm) hZ hS1.1
  have hown := own_fc hS1.1 hown
  have hSn1 := State.Since.trans hS0 hS1 (own_le e0 hk0 hg1)
  have hk1 := Nat.le_refl T1.heap.size
  have Sf_oa := CHr.safe A1 F_oa_value.lt Sf_oa
  have hR1 := hR0.trans A1
  obtain ⟨lc1, X1, N1⟩ : ∃ lc, Stand p l e ({ frames := 2, cells := 4, slots := 8, locals := 29 } : Room) (s.setVm T1.vm) m #[(.ref oa), (.ref ca)] below meth c T1 lc 4 8 ∧ Fr n0 lc := ⟨_, X1, N1⟩
  have E_oa := E_oa.keep K1q
  have V_ca := V_ca.keep K1q (ninS ne_ca_oa nin0)
  have K1 := (Keep.refl h0 [oa]).trans K1q (allS (Or.inl (List.mem_of_getElem? (i := 0) rfl)) all0)
  have Z1 := Nat.le_trans Z0 K1q.1
  refine Go.tr st1 ?_
  show Go p e below Φ T1 (mkF m 9 #[.val (.ref oa), .val (.ref ca)] [])
  rw [hΦ]
  refine Go.retVW X1 hx Bd.notSynchronized hSn1 (own_kk rfl hk1) hZ hEL (own_rr hh rfl hR1) Bd.returns (hb hby own_d3_9) (by decide) (by decide) ?_
  exact ⟨rfl, N1, K1⟩
theorem own_ef2 (m : MethodId) (nn : Int32) (c0 : Int32) (c1 : Int32) : entryFrame m #[(.int nn), (.int c0), (.int c1)] 5 = mkF m 0 #[.val (.int nn), .val (.int c0), .val (.int c1), .unset, .unset] [] := by first | (simp [entryFrame, mkF, argsToLocals, Value.category]; done) | rfl
def Q2 (Z : State) (nn : Int32) (c0 : Int32) (c1 : Int32) (w : Int32) (h0 : Heap) (n0 : Nat) (vr : Option Value) (hr : Heap) (Lr : List Loc) : Prop := ∃ br : Addr, vr = some (.ref br) ∧ Fr n0 Lr ∧ Keep h0 hr [] ∧ h0.size ≤ br
set_option maxRecDepth 65536 in
set_option maxHeartbeats 40000000 in
theorem rm2 (l : Launch) (Z : State) (a0 : Array Value) (hw : ∀ d ∈ tables_1, d.before a0 Z = true) (ws : List Jvm.Cond) (nn : Int32) (c0 : Int32) (c1 : Int32) (w : Int32) (h0 : Heap) (n0 : Nat) (Z0 : n0 ≤ h0.size) (S_COMPACT_STRINGS : Sta Z h0 "java/lang/String" "COMPACT_STRINGS" "Z" (.int w)) (hw0 : ¬ (w = (0 : Int32))) :
    MetFree l (⟨"com/example/signalbox/signalbox/tramlines/CardIsConductorPinLaw", "str", "(III)Ljava/lang/String;"⟩ : MethodName) (head1 (Jvm.Cond.code (⟨"com/example/signalbox/signalbox/tramlines/CardIsConductorPinLaw", "str", "(III)Ljava/lang/String;"⟩ : MethodName) method_2_code 5 (some (.object "java/lang/String")) :: ws) ({ frames := 4, cells := 6, slots := 12, locals := 66 } : Room)) (fun aQ UQ => aQ = #[(.int nn), (.int c0), (.int c1)] ∧ Z.Warmed39 UQ.vm ∧ UQ.heap = h0 ∧ CHv Z [("java/lang/String", 7)] UQ.vm h0) (fun _ _ _ _ _ => True) (fun _ UQ oQ VQ => ∃ vQ LQ, oQ = .returned vQ ∧ Q2 Z nn c0 c1 w h0 n0 vQ VQ.heap LQ ∧ CHr Z [("java/lang/String", 7)] UQ.vm UQ.heap VQ.vm VQ.heap ∧ ReturnedEndW UQ oQ VQ LQ ({ frames := 4, cells := 6, slots := 12, locals := 66 } : Room).cells ({ frames := 4, cells := 6, slots := 12, locals := 66 } : Room).slots) := by
  refine MetFree.of_bodySF (plainFor_of_name own_pn3) hisR ?_
  intro p e s m args below meth c s₁ Bd hml0 hP hK
  obtain ⟨rfl, hZ, hh, hCH⟩ := hP
  have hEL := own_EL hw
  have hS0 := own_since s
  have hk0 : s.heap.size ≤ h0.size := Nat.le_of_eq (by rw [hh])
  have hR0 := CHr.refl hCH
  have hx := Bd.exec
  have hby := Bd.bytes
  have hml : c.maxLocals = 5 := hml0
  have hown : s.vm.findClass "com/example/signalbox/signalbox/tramlines/CardIsConductorPinLaw" = some m.cls := findClass_of_methodNamed Bd.named
  have hnm := (name_of_methodNamed Bd.named Bd.method).1
  have X0 : Stand p l e ({ frames := 4, cells := 6, slots := 12, locals := 66 } : Room) (s.setVm s.vm) m #[(.int nn), (.int c0), (.int c1)] below meth c s₁ [] 0 0 := Stand.of_body Bd
  have e0 : s₁.heap = h0 := by rw [← hh, Bd.state]; rfl
  have N0 := Fr.nil n0
  show Go p e below (EndW Z [("java/lang/String", 7)] s below (Q2 Z nn c0 c1 w h0 n0) ({ frames := 4, cells := 6, slots := 12, locals := 66 } : Room).cells ({ frames := 4, cells := 6, slots := 12, locals := 66 } : Room).slots) s₁ (entryFrame m #[(.int nn), (.int c0), (.int c1)] 5)
  obtain ⟨Φ, hΦ⟩ : ∃ Φ, Φ = EndW Z [("java/lang/String", 7)] s below (Q2 Z nn c0 c1 w h0 n0) ({ frames := 4, cells := 6, slots := 12, locals := 66 } : Room).cells ({ frames := 4, cells := 6, slots := 12, locals := 66 } : Room).slots := ⟨_, rfl⟩
  rw [← hΦ, own_ef2]
  show Go p e below Φ s₁ (mkF m 0 #[.val (.int nn), .val (.int c0), .val (.int c1), .unset, .unset] [])
  refine Go.of (fun t k => XS.iloadN X0.here hx rfl (hb hby own_d2_0) rfl  k) ?_
  show Go p e below Φ s₁ (mkF m 1 #[.val (.int nn), .val (.int c0), .val (.int c1), .unset, .unset] [(.int c0)])
  refine Go.of (fun t k => XS.sipush X0.here hx rfl (hb hby own_d2_1) k) ?_
  show Go p e below Φ s₁ (mkF m 4 #[.val (.int nn), .val (.int c0), .val (.int c1), .unset, .unset] [(.int (255 : Int32)), (.int c0)])
  refine Go.of (fun t k => XS.iand X0.here hx rfl (hb hby own_d2_4) rfl k) ?_
  show Go p e below Φ s₁ (mkF m 5 #[.val (.int nn), .val (.int c0), .val (.int c1), .unset, .unset] [(.int (c0 &&& (255 : Int32)))])
  refine Go.of (fun t k => XS.i2c X0.here hx rfl (hb hby own_d2_5) rfl k) ?_
  show Go p e below Φ s₁ (mkF m 6 #[.val (.int nn), .val (.int c0), .val (.int c1), .unset, .unset] [(.int ((c0 &&& (255 : Int32)).toUInt32.toUInt16.toUInt32.toInt32))])
  refine Go.of (fun t k => XS.istoreN X0.here hx rfl (hb hby own_d2_6) rfl (l' := #[.val (.int nn), .val (.int c0), .val (.int c1), .val (.int ((c0 &&& (255 : Int32)).toUInt32.toUInt16.toUInt32.toInt32)), .unset]) rfl k) ?_
  show Go p e below Φ s₁ (mkF m 7 #[.val (.int nn), .val (.int c0), .val (.int c1), .val (.int ((c0 &&& (255 : Int32)).toUInt32.toUInt16.toUInt32.toInt32)), .unset] [])
  refine Go.of (fun t k => XS.iloadN X0.here hx rfl (hb hby own_d2_7) rfl  k) ?_
  show Go p e below Φ s₁ (mkF m 8 #[.val (.int nn), .val (.int c0), .val (.int c1), .val (.int ((c0 &&& (255 : Int32)).toUInt32.toUInt16.toUInt32.toInt32)), .unset] [(.int c1)])
  refine Go.of (fun t k => XS.sipush X0.here hx rfl (hb hby own_d2_8) k) ?_
  show Go p e below Φ s₁ (mkF m 11 #[.val (.int nn), .val (.int c0), .val (.int c1), .val (.int ((c0 &&& (255 : Int32)).toUInt32.toUInt16.toUInt32.toInt32)), .unset] [(.int (255 : Int32)), (.int c1)])
  refine Go.of (fun t k => XS.iand X0.here hx rfl (hb hby own_d2_11) rfl k) ?_
  show Go p e below Φ s₁ (mkF m 12 #[.val (.int nn), .val (.int c0), .val (.int c1), .val (.int ((c0 &&& (255 : Int32)).toUInt32.toUInt16.toUInt32.toInt32)), .unset] [(.int (c1 &&& (255 : Int32)))])
  refine Go.of (fun t k => XS.i2c X0.here hx rfl (hb hby own_d2_12) rfl k) ?_
  show Go p e below Φ s₁ (mkF m 13 #[.val (.int nn), .val (.int c0), .val (.int c1), .val (.int ((c0 &&& (255 : Int32)).toUInt32.toUInt16.toUInt32.toInt32)), .unset] [(.int ((c1 &&& (255 : Int32)).toUInt32.toUInt16.toUInt32.toInt32))])
  refine Go.of (fun t k => XS.istore X0.here hx rfl (hb hby own_d2_13) rfl (l' := #[.val (.int nn), .val (.int c0), .val (.int c1), .val (.int ((c0 &&& (255 : Int32)).toUInt32.toUInt16.toUInt32.toInt32)), .val (.int ((c1 &&& (255 : Int32)).toUInt32.toUInt16.toUInt32.toInt32))]) rfl k) ?_
  show Go p e below Φ s₁ (mkF m 15 #[.val (.int nn), .val (.int c0), .val (.int c1), .val (.int ((c0 &&& (255 : Int32)).toUInt32.toUInt16.toUInt32.toInt32)), .val (.int ((c1 &&& (255 : Int32)).toUInt32.toUInt16.toUInt32.toInt32))] [])
  refine Go.of (fun t k => XS.iloadN X0.here hx rfl (hb hby own_d2_15) rfl  k) ?_
  show Go p e below Φ s₁ (mkF m 16 #[.val (.int nn), .val (.int c0), .val (.int c1), .val (.int ((c0 &&& (255 : Int32)).toUInt32.toUInt16.toUInt32.toInt32)), .val (.int ((c1 &&& (255 : Int32)).toUInt32.toUInt16.toUInt32.toInt32))] [(.int nn)])
  by_cases hc16 : nn = (0 : Int32)
  · refine Go.of (fun t k => XS.ifNo X0.here hx rfl (hb hby own_d2_16) rfl (XT.i0_ne_f hc16) k) ?_
    show Go p e below Φ s₁ (mkF m 19 #[.val (.int nn), .val (.int c0), .val (.int c1), .val (.int ((c0 &&& (255 : Int32)).toUInt32.toUInt16.toUInt32.toInt32)), .val (.int ((c1 &&& (255 : Int32)).toUInt32.toUInt16.toUInt32.toInt32))] [])
    obtain ⟨T1, h1, X1, e1, E1, A1, D1, -, st1⟩ := newO X0 hx hZ hown (hw _ (List.mem_of_getElem? (i := 8) rfl)) (hw _ (List.mem_of_getElem? (i := 9) rfl)) (hw _ (List.mem_of_getElem? (i := 10) rfl)) e0 (g := (mkF m 19 #[.val (.int nn), .val (.int c0), .val (.int c1), .val (.int ((c0 &&& (255 : Int32)).toUInt32.toUInt16.toUInt32.toInt32)), .val (.int ((c1 &&& (255 : Int32)).toUInt32.toUInt16.toUInt32.toInt32))] [])) rfl (hb hby own_d2_19) (by decide) (by decide)
    obtain ⟨b1, g1⟩ : ∃ z, z = h0.size := ⟨_, rfl⟩
    rw [← g1] at A1 D1 st1
    have g_b1 : n0 ≤ b1 := Nat.le_trans Z0 (Nat.le_of_eq g1.symm)
    have sz_b1 : h0.size ≤ b1 := Nat.le_trans (Keep.refl h0 []).1 (Nat.le_of_eq g1.symm)
    have K1 := (Keep.refl h0 []).ext E1
    have Z1 := Nat.le_trans Z0 E1.1
    have Sf_b1 := Safe.ext E1 hR0.1 (Safe.new (Nat.le_of_eq g1.symm))
    have hR1 := hR0.trans (CHr.ext E1 hR0.1)
    have hk1 := Nat.le_trans hk0 E1.1
    have S_COMPACT_STRINGS := S_COMPACT_STRINGS.ext E1
    have E_b1 := A1
    have F_b1_value : Fld Z h1 b1 "java/lang/String" "value" "[B" .null := D1 (Or.inr (hw _ (List.mem_of_getElem? (i := 24) rfl))) (ty := (.array .byte)) (by decide)
    have F_b1_coder : Fld Z h1 b1 "java/lang/String" "coder" "B" (.int (0 : Int32)) := D1 (Or.inr (hw _ (List.mem_of_getElem? (i := 25) rfl))) (ty := .byte) (by decide)
    refine Go.of st1 ?_
    show Go p e below Φ T1 (mkF m 22 #[.val (.int nn), .val (.int c0), .val (.int c1), .val (.int ((c0 &&& (255 : Int32)).toUInt32.toUInt16.toUInt32.toInt32)), .val (.int ((c1 &&& (255 : Int32)).toUInt32.toUInt16.toUInt32.toInt32))] [(.ref b1)])
    refine Go.of (fun t k => XS.dup X1.here hx rfl (hb hby own_d2_22) rfl rfl k) ?_
    show Go p e below Φ T1 (mkF m 23 #[.val (.int nn), .val (.int c0), .val (.int c1), .val (.int ((c0 &&& (255 : Int32)).toUInt32.toUInt16.toUInt32.toInt32)), .val (.int ((c1 &&& (255 : Int32)).toUInt32.toUInt16.toUInt32.toInt32))] [(.ref b1), (.ref b1)])
    refine Go.of (fun t k => XS.iconst X1.here hx rfl (hb hby own_d2_23) k) ?_
    show Go p e below Φ T1 (mkF m 24 #[.val (.int nn), .val (.int c0), .val (.int c1), .val (.int ((c0 &&& (255 : Int32)).toUInt32.toUInt16.toUInt32.toInt32)), .val (.int ((c1 &&& (255 : Int32)).toUInt32.toUInt16.toUInt32.toInt32))] [(.int (0 : Int32)), (.ref b1), (.ref b1)])
    obtain ⟨T2, h2, k2, X2, e2, E2, A2, st2⟩ := newP X1 hx hZ (hw _ (List.mem_of_getElem? (i := 11) rfl)) e1 (g := (mkF m 24 #[.val (.int nn), .val (.int c0), .val (.int c1), .val (.int ((c0 &&& (255 : Int32)).toUInt32.toUInt16.toUInt32.toInt32)), .val (.int ((c1 &&& (255 : Int32)).toUInt32.toUInt16.toUInt32.toInt32))] [(.int (0 : Int32)), (.ref b1), (.ref b1)])) rfl (hb hby own_d2_24) rfl (by decide) (cap := 0) (by decide) (by decide) (by decide) (by decide)
    obtain ⟨b2, g2⟩ : ∃ z, z = h1.size := ⟨_, rfl⟩
    rw [← g2] at A2 st2
    have ne_b1_b2 : b1 ≠ b2 := Nat.ne_of_lt (Nat.lt_of_lt_of_le E_b1.lt (Nat.le_of_eq g2.symm))
    have g_b2 : n0 ≤ b2 := Nat.le_trans Z1 (Nat.le_of_eq g2.symm)
    have sz_b2 : h0.size ≤ b2 := Nat.le_trans K1.1 (Nat.le_of_eq g2.symm)
    have K2 := K1.ext E2
    have Z2 := Nat.le_trans Z1 E2.1
    have Sf_b2 := Safe.ext E2 hR1.1 (Safe.new (Nat.le_of_eq g2.symm))
    have Sf_b1 := Safe.ext E2 hR1.1 Sf_b1
    have hR2 := hR1.trans (CHr.ext E2 hR1.1)
    have hk2 := Nat.le_trans hk1 E2.1
    have S_COMPACT_STRINGS := S_COMPACT_STRINGS.ext E2
    have E_b1 := E_b1.ext E2
    have F_b1_value := F_b1_value.ext E2
    have F_b1_coder := F_b1_coder.ext E2
    have V_b2 : Arv Z h2 b2 k2 .char (0 : Int32) [] (.int (0 : Int32)) := Arv.new A2 (by decide)
    refine Go.of st2 ?_
    show Go p e below Φ T2 (mkF m 26 #[.val (.int nn), .val (.int c0), .val (.int c1), .val (.int ((c0 &&& (255 : Int32)).toUInt32.toUInt16.toUInt32.toInt32)), .val (.int ((c1 &&& (255 : Int32)).toUInt32.toUInt16.toUInt32.toInt32))] [(.ref b2), (.ref b1), (.ref b1)])
    obtain ⟨_, _, ⟨T3, L3, k3, n3⟩, -, X3, hS3, hg3, ⟨Lc3, hQ3, l3, y3, z3, A3⟩, st3⟩ := X2.specialBackS hx (y := (⟨"java/lang/String", "<init>", "([C)V"⟩ : MethodName)) rfl hown (mvT hZ (hw _ (List.mem_of_getElem? (i := 12) rfl))) (mvT hZ (hw _ (List.mem_of_getElem? (i := 13) rfl))) (mvT hZ (hw _ (List.mem_of_getElem? (i := 14) rfl))) (by decide) (backOfSH (W := 1) (rm3a l Z a0 hw [] b1 b2 k2 (0 : Int32) h2 n0 Z2 F_b1_value F_b1_coder E_b1 g_b1 V_b2 (Ne.symm ne_b1_b2)) hZ (hw _ (List.mem_of_getElem? (i := 14) rfl)) (hw _ (List.mem_of_getElem? (i := 10) rfl)) (by decide) (by decide) hEL hR2.1) (g := (mkF m 26 #[.val (.int nn), .val (.int c0), .val (.int c1), .val (.int ((c0 &&& (255 : Int32)).toUInt32.toUInt16.toUInt32.toInt32)), .val (.int ((c1 &&& (255 : Int32)).toUInt32.toUInt16.toUInt32.toInt32))] [(.ref b2), (.ref b1), (.ref b1)])) rfl (by rw [hml]; rfl) (Steps.refl _) (a := b1) (argsL := [(.ref b2)]) (rest := [(.ref b1)]) (lenOf own_pd7 rfl) rfl (by show 2 * 0 + _ ≤ _; exact Nat.le_of_eq rfl) (hb hby own_d2_26) (fun _ _ => ⟨rfl, e2, (by decide : 2 + 4 ≤ _), (by decide : 4 + 8 ≤ _)⟩)
    dsimp only [Pt.U, Pt.locs, Pt.cells, Pt.slots] at X3 l3 y3 z3 st3 hQ3 A3 hS3 hg3
    subst l3 y3 z3
    obtain ⟨rfl, N3q, K3q⟩ := hQ3
    have N3 := Fr.app N0 N3q
    have hZ := State.Warmed39.trans (t := s.setVm s.vm) hZ hS3.1
    have hown := own_fc hS3.1 hown
    have hSn3 := State.Since.trans hS0 hS3 (own_le e2 hk2 hg3)
    have hk3 := Nat.le_refl T3.heap.size
    have Sf_b1 := CHr.safe A3 E_b1.lt Sf_b1
    have Sf_b2 := CHr.safe A3 V_b2.lt Sf_b2
    have hR3 := hR2.trans A3
    obtain ⟨lc3, X3, N3⟩ : ∃ lc, Stand p l e ({ frames := 4, cells := 6, slots := 12, locals := 66 } : Room) (s.setVm T3.vm) m #[(.int nn), (.int c0), (.int c1)] below meth c T3 lc 6 12 ∧ Fr n0 lc := ⟨_, X3, N3⟩
    have E_b1 := E_b1.keep K3q
    have V_b2 := V_b2.keep K3q (ninS (Ne.symm ne_b1_b2) nin0)
    have K3 := K2.trans K3q (allS (Or.inr sz_b1) all0)
    have Z3 := Nat.le_trans Z2 K3q.1
    refine Go.tr st3 ?_
    show Go p e below Φ T3 (mkF m 29 #[.val (.int nn), .val (.int c0), .val (.int c1), .val (.int ((c0 &&& (255 : Int32)).toUInt32.toUInt16.toUInt32.toInt32)), .val (.int ((c1 &&& (255 : Int32)).toUInt32.toUInt16.toUInt32.toInt32))] [(.ref b1)])
    rw [hΦ]
    refine Go.retW X3 hx Bd.notSynchronized hSn3 (own_kk rfl hk3) hZ hEL (own_rr hh rfl hR3) Bd.returns rfl (Or.inr (Or.inr (Or.inr (Or.inr ⟨rfl, rfl, rfl⟩)))) (hb hby own_d2_29) (by decide) (by decide) ?_
    exact ⟨b1, rfl, N3, K3, sz_b1⟩
  · refine Go.of (fun t k => XS.ifYes X0.here hx rfl (pc0 := 16) (pc' := 30) rfl (hb hby own_d2_16) rfl (XT.i0_ne_t hc16) (by decide) (by decide) k) ?_
    show Go p e below Φ s₁ (mkF m 30 #[.val (.int nn), .val (.int c0), .val (.int c1), .val (.int ((c0 &&& (255 : Int32)).toUInt32.toUInt16.toUInt32.toInt32)), .val (.int ((c1 &&& (255 : Int32)).toUInt32.toUInt16.toUInt32.toInt32))] [])
    refine Go.of (fun t k => XS.iloadN X0.here hx rfl (hb hby own_d2_30) rfl  k) ?_
    show Go p e below Φ s₁ (mkF m 31 #[.val (.int nn), .val (.int c0), .val (.int c1), .val (.int ((c0 &&& (255 : Int32)).toUInt32.toUInt16.toUInt32.toInt32)), .val (.int ((c1 &&& (255 : Int32)).toUInt32.toUInt16.toUInt32.toInt32))] [(.int nn)])
    refine Go.of (fun t k => XS.iconst X0.here hx rfl (hb hby own_d2_31) k) ?_
    show Go p e below Φ s₁ (mkF m 32 #[.val (.int nn), .val (.int c0), .val (.int c1), .val (.int ((c0 &&& (255 : Int32)).toUInt32.toUInt16.toUInt32.toInt32)), .val (.int ((c1 &&& (255 : Int32)).toUInt32.toUInt16.toUInt32.toInt32))] [(.int (1 : Int32)), (.int nn)])
    by_cases hc32 : nn = (1 : Int32)
    · refine Go.of (fun t k => XS.icmpNo X0.here hx rfl (hb hby own_d2_32) rfl (XT.ii_ne_f hc32) k) ?_
      show Go p e below Φ s₁ (mkF m 35 #[.val (.int nn), .val (.int c0), .val (.int c1), .val (.int ((c0 &&& (255 : Int32)).toUInt32.toUInt16.toUInt32.toInt32)), .val (.int ((c1 &&& (255 : Int32)).toUInt32.toUInt16.toUInt32.toInt32))] [])
      refine Go.of (fun t k => XS.iloadN X0.here hx rfl (hb hby own_d2_35) rfl  k) ?_
      show Go p e below Φ s₁ (mkF m 36 #[.val (.int nn), .val (.int c0), .val (.int c1), .val (.int ((c0 &&& (255 : Int32)).toUInt32.toUInt16.toUInt32.toInt32)), .val (.int ((c1 &&& (255 : Int32)).toUInt32.toUInt16.toUInt32.toInt32))] [(.int ((c0 &&& (255 : Int32)).toUInt32.toUInt16.toUInt32.toInt32))])
      obtain ⟨_, _, ⟨T4, L4, k4, n4⟩, -, X4, ⟨Lc4, hQ4, l4, y4, z4⟩, st4⟩ := Jvm.LawKit.callS X0 hx (y := (⟨"java/lang/String", "valueOf", "(C)Ljava/lang/String;"⟩ : MethodName)) hown (mvT hZ (hw _ (List.mem_of_getElem? (i := 69) rfl))) (mvT hZ (hw _ (List.mem_of_getElem? (i := 70) rfl))) (mvT hZ (hw _ (List.mem_of_getElem? (i := 10) rfl))) (mvT hZ (hw _ (List.mem_of_getElem? (i := 71) rfl))) (by decide) (backOf (W := 0) (rm12 l Z a0 hw [] ((c0 &&& (255 : Int32)).toUInt32.toUInt16.toUInt32.toInt32) w h0 n0 Z0 S_COMPACT_STRINGS hw0 (own_c255 _)) hZ (hw _ (List.mem_of_getElem? (i := 71) rfl)) (hw _ (List.mem_of_getElem? (i := 10) rfl)) (by decide) (by decide)) (g := (mkF m 36 #[.val (.int nn), .val (.int c0), .val (.int c1), .val (.int ((c0 &&& (255 : Int32)).toUInt32.toUInt16.toUInt32.toInt32)), .val (.int ((c1 &&& (255 : Int32)).toUInt32.toUInt16.toUInt32.toInt32))] [(.int ((c0 &&& (255 : Int32)).toUInt32.toUInt16.toUInt32.toInt32))])) rfl (by rw [hml]; rfl) (argsL := [(.int ((c0 &&& (255 : Int32)).toUInt32.toUInt16.toUInt32.toInt32))]) (rest := []) (lenOf own_pd8 rfl) rfl (by show 2 * 0 + _ ≤ _; exact Nat.le_of_eq rfl) (hb hby own_d2_36) (fun _ _ => ⟨rfl, e0, (by decide : 0 + 2 ≤ _), (by decide : 0 + 5 ≤ _)⟩)
      dsimp only [Pt.U, Pt.locs, Pt.cells, Pt.slots] at X4 l4 y4 z4 st4 hQ4
      subst l4 y4 z4
      obtain ⟨b4, rfl, N4q, K4q, s4q⟩ := hQ4
      have N4 := Fr.app N0 N4q
      obtain ⟨lc4, X4, N4⟩ : ∃ lc, Stand p l e ({ frames := 4, cells := 6, slots := 12, locals := 66 } : Room) (s.setVm s.vm) m #[(.int nn), (.int c0), (.int c1)] below meth c T4 lc 2 5 ∧ Fr n0 lc := ⟨_, X4, N4⟩
      have g_b4 : n0 ≤ b4 := Nat.le_trans Z0 s4q
      have sz_b4 : h0.size ≤ b4 := Nat.le_trans (Keep.refl h0 []).1 s4q
      have hR4 := hR0.trans (CHr.keep K4q (fun _ hx => nomatch hx) hR0.1)
      have hk4 := Nat.le_trans hk0 K4q.1
      have K4 := (Keep.refl h0 []).trans K4q all0
      have Z4 := Nat.le_trans Z0 K4q.1
      refine Go.of st4 ?_
      show Go p e below Φ T4 (mkF m 39 #[.val (.int nn), .val (.int c0), .val (.int c1), .val (.int ((c0 &&& (255 : Int32)).toUInt32.toUInt16.toUInt32.toInt32)), .val (.int ((c1 &&& (255 : Int32)).toUInt32.toUInt16.toUInt32.toInt32))] [(.ref b4)])
      rw [hΦ]
      refine Go.retW X4 hx Bd.notSynchronized hS0 (own_kk rfl hk4) hZ hEL (own_rr hh rfl hR4) Bd.returns rfl (Or.inr (Or.inr (Or.inr (Or.inr ⟨rfl, rfl, rfl⟩)))) (hb hby own_d2_39) (by decide) (by decide) ?_
      exact ⟨b4, rfl, N4, K4, sz_b4⟩
    · refine Go.of (fun t k => XS.icmpYes X0.here hx rfl (pc0 := 32) (pc' := 40) rfl (hb hby own_d2_32) rfl (XT.ii_ne_t hc32) (by decide) (by decide) k) ?_
      show Go p e below Φ s₁ (mkF m 40 #[.val (.int nn), .val (.int c0), .val (.int c1), .val (.int ((c0 &&& (255 : Int32)).toUInt32.toUInt16.toUInt32.toInt32)), .val (.int ((c1 &&& (255 : Int32)).toUInt32.toUInt16.toUInt32.toInt32))] [])
      obtain ⟨T5, h5, X5, e5, E5, A5, D5, -, st5⟩ := newO X0 hx hZ hown (hw _ (List.mem_of_getElem? (i := 8) rfl)) (hw _ (List.mem_of_getElem? (i := 9) rfl)) (hw _ (List.mem_of_getElem? (i := 10) rfl)) e0 (g := (mkF m 40 #[.val (.int nn), .val (.int c0), .val (.int c1), .val (.int ((c0 &&& (255 : Int32)).toUInt32.toUInt16.toUInt32.toInt32)), .val (.int ((c1 &&& (255 : Int32)).toUInt32.toUInt16.toUInt32.toInt32))] [])) rfl (hb hby own_d2_40) (by decide) (by decide)
      obtain ⟨b5, g5⟩ : ∃ z, z = h0.size := ⟨_, rfl⟩
      rw [← g5] at A5 D5 st5
      have g_b5 : n0 ≤ b5 := Nat.le_trans Z0 (Nat.le_of_eq g5.symm)
      have sz_b5 : h0.size ≤ b5 := Nat.le_trans (Keep.refl h0 []).1 (Nat.le_of_eq g5.symm)
      have K5 := (Keep.refl h0 []).ext E5
      have Z5 := Nat.le_trans Z0 E5.1
      have Sf_b5 := Safe.ext E5 hR0.1 (Safe.new (Nat.le_of_eq g5.symm))
      have hR5 := hR0.trans (CHr.ext E5 hR0.1)
      have hk5 := Nat.le_trans hk0 E5.1
      have S_COMPACT_STRINGS := S_COMPACT_STRINGS.ext E5
      have E_b5 := A5
      have F_b5_value : Fld Z h5 b5 "java/lang/String" "value" "[B" .null := D5 (Or.inr (hw _ (List.mem_of_getElem? (i := 24) rfl))) (ty := (.array .byte)) (by decide)
      have F_b5_coder : Fld Z h5 b5 "java/lang/String" "coder" "B" (.int (0 : Int32)) := D5 (Or.inr (hw _ (List.mem_of_getElem? (i := 25) rfl))) (ty := .byte) (by decide)
      refine Go.of st5 ?_
      show Go p e below Φ T5 (mkF m 43 #[.val (.int nn), .val (.int c0), .val (.int c1), .val (.int ((c0 &&& (255 : Int32)).toUInt32.toUInt16.toUInt32.toInt32)), .val (.int ((c1 &&& (255 : Int32)).toUInt32.toUInt16.toUInt32.toInt32))] [(.ref b5)])
      refine Go.of (fun t k => XS.dup X5.here hx rfl (hb hby own_d2_43) rfl rfl k) ?_
      show Go p e below Φ T5 (mkF m 44 #[.val (.int nn), .val (.int c0), .val (.int c1), .val (.int ((c0 &&& (255 : Int32)).toUInt32.toUInt16.toUInt32.toInt32)), .val (.int ((c1 &&& (255 : Int32)).toUInt32.toUInt16.toUInt32.toInt32))] [(.ref b5), (.ref b5)])
      refine Go.of (fun t k => XS.iconst X5.here hx rfl (hb hby own_d2_44) k) ?_
      show Go p e below Φ T5 (mkF m 45 #[.val (.int nn), .val (.int c0), .val (.int c1), .val (.int ((c0 &&& (255 : Int32)).toUInt32.toUInt16.toUInt32.toInt32)), .val (.int ((c1 &&& (255 : Int32)).toUInt32.toUInt16.toUInt32.toInt32))] [(.int (2 : Int32)), (.ref b5), (.ref b5)])
      obtain ⟨T6, h6, k6, X6, e6, E6, A6, st6⟩ := newP X5 hx hZ (hw _ (List.mem_of_getElem? (i := 11) rfl)) e5 (g := (mkF m 45 #[.val (.int nn), .val (.int c0), .val (.int c1), .val (.int ((c0 &&& (255 : Int32)).toUInt32.toUInt16.toUInt32.toInt32)), .val (.int ((c1 &&& (255 : Int32)).toUInt32.toUInt16.toUInt32.toInt32))] [(.int (2 : Int32)), (.ref b5), (.ref b5)])) rfl (hb hby own_d2_45) rfl (by decide) (cap := 2) (by decide) (by decide) (by decide) (by decide)
      obtain ⟨b6, g6⟩ : ∃ z, z = h5.size := ⟨_, rfl⟩
      rw [← g6] at A6 st6
      have ne_b5_b6 : b5 ≠ b6 := Nat.ne_of_lt (Nat.lt_of_lt_of_le E_b5.lt (Nat.le_of_eq g6.symm))
      have g_b6 : n0 ≤ b6 := Nat.le_trans Z5 (Nat.le_of_eq g6.symm)
      have sz_b6 : h0.size ≤ b6 := Nat.le_trans K5.1 (Nat.le_of_eq g6.symm)
      have K6 := K5.ext E6
      have Z6 := Nat.le_trans Z5 E6.1
      have Sf_b6 := Safe.ext E6 hR5.1 (Safe.new (Nat.le_of_eq g6.symm))
      have Sf_b5 := Safe.ext E6 hR5.1 Sf_b5
      have hR6 := hR5.trans (CHr.ext E6 hR5.1)
      have hk6 := Nat.le_trans hk5 E6.1
      have S_COMPACT_STRINGS := S_COMPACT_STRINGS.ext E6
      have E_b5 := E_b5.ext E6
      have F_b5_value := F_b5_value.ext E6
      have F_b5_coder := F_b5_coder.ext E6
      have V_b6 : Arv Z h6 b6 k6 .char (2 : Int32) [(.int (0 : Int32)), (.int (0 : Int32))] (.int (0 : Int32)) := (Arv.new A6 (by decide)).pad (pad_rep [] (.int (0 : Int32)) 2)
      refine Go.of st6 ?_
      show Go p e below Φ T6 (mkF m 47 #[.val (.int nn), .val (.int c0), .val (.int c1), .val (.int ((c0 &&& (255 : Int32)).toUInt32.toUInt16.toUInt32.toInt32)), .val (.int ((c1 &&& (255 : Int32)).toUInt32.toUInt16.toUInt32.toInt32))] [(.ref b6), (.ref b5), (.ref b5)])
      refine Go.of (fun t k => XS.dup X6.here hx rfl (hb hby own_d2_47) rfl rfl k) ?_
      show Go p e below Φ T6 (mkF m 48 #[.val (.int nn), .val (.int c0), .val (.int c1), .val (.int ((c0 &&& (255 : Int32)).toUInt32.toUInt16.toUInt32.toInt32)), .val (.int ((c1 &&& (255 : Int32)).toUInt32.toUInt16.toUInt32.toInt32))] [(.ref b6), (.ref b6), (.ref b5), (.ref b5)])
      refine Go.of (fun t k => XS.iconst X6.here hx rfl (hb hby own_d2_48) k) ?_
      show Go p e below Φ T6 (mkF m 49 #[.val (.int nn), .val (.int c0), .val (.int c1), .val (.int ((c0 &&& (255 : Int32)).toUInt32.toUInt16.toUInt32.toInt32)), .val (.int ((c1 &&& (255 : Int32)).toUInt32.toUInt16.toUInt32.toInt32))] [(.int (0 : Int32)), (.ref b6), (.ref b6), (.ref b5), (.ref b5)])
      refine Go.of (fun t k => XS.iloadN X6.here hx rfl (hb hby own_d2_49) rfl  k) ?_
      show Go p e below Φ T6 (mkF m 50 #[.val (.int nn), .val (.int c0), .val (.int c1), .val (.int ((c0 &&& (255 : Int32)).toUInt32.toUInt16.toUInt32.toInt32)), .val (.int ((c1 &&& (255 : Int32)).toUInt32.toUInt16.toUInt32.toInt32))] [(.int ((c0 &&& (255 : Int32)).toUInt32.toUInt16.toUInt32.toInt32)), (.int (0 : Int32)), (.ref b6), (.ref b6), (.ref b5), (.ref b5)])
      obtain ⟨cl50, Ar50, q50, S50, N50, H50, G50⟩ := id V_b6
      have hin50 : ¬ ((0 : Int32) < 0 ∨ cl50.slots.size ≤ ((0 : Int32)).toNatClampNeg) := inb_of S50 ⟨by decide, by decide⟩
      obtain ⟨T7, h7, X7, e7, W7, st7⟩ := stC X6 hx hZ e6 Ar50 (j := (0 : Int32)) hin50 (g := (mkF m 50 #[.val (.int nn), .val (.int c0), .val (.int c1), .val (.int ((c0 &&& (255 : Int32)).toUInt32.toUInt16.toUInt32.toInt32)), .val (.int ((c1 &&& (255 : Int32)).toUInt32.toUInt16.toUInt32.toInt32))] [(.int ((c0 &&& (255 : Int32)).toUInt32.toUInt16.toUInt32.toInt32)), (.int (0 : Int32)), (.ref b6), (.ref b6), (.ref b5), (.ref b5)])) rfl rfl (hb hby own_d2_50)
      have V_b6 : Arv Z h7 b6 k6 .char (2 : Int32) [(.int (nar .char ((c0 &&& (255 : Int32)).toUInt32.toUInt16.toUInt32.toInt32))), (.int (0 : Int32))] (.int (0 : Int32)) := Arv.set Ar50 q50 S50 N50 H50 G50 (fits_nar_char _) W7 0 rfl (Nat.le_of_ble_eq_true rfl)
      have S_COMPACT_STRINGS := S_COMPACT_STRINGS.wr W7
      have E_b5 := E_b5.wr W7
      have F_b5_value := F_b5_value.other W7 (Or.inl ne_b5_b6)
      have F_b5_coder := F_b5_coder.other W7 (Or.inl ne_b5_b6)
      have N7 := Fr.snoc X7 N0 g_b6
      have K7 : Keep h0 h7 [] := K6.wr W7 (Or.inr sz_b6)
      have Z7 := Nat.le_trans Z6 (Keep.of_wr W7).1
      have hs7 := Sf_b6
      have Sf_b5 := Safe.wr W7 hs7 hR6.1 Sf_b5
      have Sf_b6 := Safe.wr W7 hs7 hR6.1 Sf_b6
      have hR7 := hR6.trans (CHr.wr W7 hs7 hR6.1)
      have hk7 := Nat.le_trans hk6 (Keep.of_wr W7).1
      obtain ⟨lc7, X7, N7⟩ : ∃ lc, Stand p l e ({ frames := 4, cells := 6, slots := 12, locals := 66 } : Room) (s.setVm s.vm) m #[(.int nn), (.int c0), (.int c1)] below meth c T7 lc 2 6 ∧ Fr n0 lc := ⟨_, X7, N7⟩
      refine Go.of st7 ?_
      show Go p e below Φ T7 (mkF m 51 #[.val (.int nn), .val (.int c0), .val (.int c1), .val (.int ((c0 &&& (255 : Int32)).toUInt32.toUInt16.toUInt32.toInt32)), .val (.int ((c1 &&& (255 : Int32)).toUInt32.toUInt16.toUInt32.toInt32))] [(.ref b6), (.ref b5), (.ref b5)])
      refine Go.of (fun t k => XS.dup X7.here hx rfl (hb hby own_d2_51) rfl rfl k) ?_
      show Go p e below Φ T7 (mkF m 52 #[.val (.int nn), .val (.int c0), .val (.int c1), .val (.int ((c0 &&& (255 : Int32)).toUInt32.toUInt16.toUInt32.toInt32)), .val (.int ((c1 &&& (255 : Int32)).toUInt32.toUInt16.toUInt32.toInt32))] [(.ref b6), (.ref b6), (.ref b5), (.ref b5)])
      refine Go.of (fun t k => XS.iconst X7.here hx rfl (hb hby own_d2_52) k) ?_
      show Go p e below Φ T7 (mkF m 53 #[.val (.int nn), .val (.int c0), .val (.int c1), .val (.int ((c0 &&& (255 : Int32)).toUInt32.toUInt16.toUInt32.toInt32)), .val (.int ((c1 &&& (255 : Int32)).toUInt32.toUInt16.toUInt32.toInt32))] [(.int (1 : Int32)), (.ref b6), (.ref b6), (.ref b5), (.ref b5)])
      refine Go.of (fun t k => XS.iload X7.here hx rfl (hb hby own_d2_53) rfl  k) ?_
      show Go p e below Φ T7 (mkF m 55 #[.val (.int nn), .val (.int c0), .val (.int c1), .val (.int ((c0 &&& (255 : Int32)).toUInt32.toUInt16.toUInt32.toInt32)), .val (.int ((c1 &&& (255 : Int32)).toUInt32.toUInt16.toUInt32.toInt32))] [(.int ((c1 &&& (255 : Int32)).toUInt32.toUInt16.toUInt32.toInt32)), (.int (1 : Int32)), (.ref b6), (.ref b6), (.ref b5), (.ref b5)])
      obtain ⟨cl55, Ar55, q55, S55, N55, H55, G55⟩ := id V_b6
      have hin55 : ¬ ((1 : Int32) < 0 ∨ cl55.slots.size ≤ ((1 : Int32)).toNatClampNeg) := inb_of S55 ⟨by decide, by decide⟩
      obtain ⟨T8, h8, X8, e8, W8, st8⟩ := stC X7 hx hZ e7 Ar55 (j := (1 : Int32)) hin55 (g := (mkF m 55 #[.val (.int nn), .val (.int c0), .val (.int c1), .val (.int ((c0 &&& (255 : Int32)).toUInt32.toUInt16.toUInt32.toInt32)), .val (.int ((c1 &&& (255 : Int32)).toUInt32.toUInt16.toUInt32.toInt32))] [(.int ((c1 &&& (255 : Int32)).toUInt32.toUInt16.toUInt32.toInt32)), (.int (1 : Int32)), (.ref b6), (.ref b6), (.ref b5), (.ref b5)])) rfl rfl (hb hby own_d2_55)
      have V_b6 : Arv Z h8 b6 k6 .char (2 : Int32) [(.int (nar .char ((c0 &&& (255 : Int32)).toUInt32.toUInt16.toUInt32.toInt32))), (.int (nar .char ((c1 &&& (255 : Int32)).toUInt32.toUInt16.toUInt32.toInt32)))] (.int (0 : Int32)) := Arv.set Ar55 q55 S55 N55 H55 G55 (fits_nar_char _) W8 1 rfl (Nat.le_of_ble_eq_true rfl)
      have S_COMPACT_STRINGS := S_COMPACT_STRINGS.wr W8
      have E_b5 := E_b5.wr W8
      have F_b5_value := F_b5_value.other W8 (Or.inl ne_b5_b6)
      have F_b5_coder := F_b5_coder.other W8 (Or.inl ne_b5_b6)
      have N8 := Fr.snoc X8 N7 g_b6
      have K8 : Keep h0 h8 [] := K7.wr W8 (Or.inr sz_b6)
      have Z8 := Nat.le_trans Z7 (Keep.of_wr W8).1
      have hs8 := Sf_b6
      have Sf_b5 := Safe.wr W8 hs8 hR7.1 Sf_b5
      have Sf_b6 := Safe.wr W8 hs8 hR7.1 Sf_b6
      have hR8 := hR7.trans (CHr.wr W8 hs8 hR7.1)
      have hk8 := Nat.le_trans hk7 (Keep.of_wr W8).1
      obtain ⟨lc8, X8, N8⟩ : ∃ lc, Stand p l e ({ frames := 4, cells := 6, slots := 12, locals := 66 } : Room) (s.setVm s.vm) m #[(.int nn), (.int c0), (.int c1)] below meth c T8 lc 2 6 ∧ Fr n0 lc := ⟨_, X8, N8⟩
      refine Go.of st8 ?_
      show Go p e below Φ T8 (mkF m 56 #[.val (.int nn), .val (.int c0), .val (.int c1), .val (.int ((c0 &&& (255 : Int32)).toUInt32.toUInt16.toUInt32.toInt32)), .val (.int ((c1 &&& (255 : Int32)).toUInt32.toUInt16.toUInt32.toInt32))] [(.ref b6), (.ref b5), (.ref b5)])
      obtain ⟨_, _, ⟨T9, L9, k9, n9⟩, -, X9, ⟨Lc9, hQ9, l9, y9, z9⟩, st9⟩ := X8.specialBack hx (y := (⟨"java/lang/String", "<init>", "([C)V"⟩ : MethodName)) rfl hown (mvT hZ (hw _ (List.mem_of_getElem? (i := 12) rfl))) (mvT hZ (hw _ (List.mem_of_getElem? (i := 13) rfl))) (mvT hZ (hw _ (List.mem_of_getElem? (i := 14) rfl))) (by decide) (backOf (W := 1) (rm3b l Z a0 hw [] b5 b6 k6 (nar .char ((c0 &&& (255 : Int32)).toUInt32.toUInt16.toUInt32.toInt32)) (nar .char ((c1 &&& (255 : Int32)).toUInt32.toUInt16.toUInt32.toInt32)) w .null (0 : Int32) h8 n0 Z8 F_b5_value F_b5_coder E_b5 g_b5 V_b6 (Ne.symm ne_b5_b6) S_COMPACT_STRINGS hw0 (own_n255 _) (own_n255 _)) hZ (hw _ (List.mem_of_getElem? (i := 14) rfl)) (hw _ (List.mem_of_getElem? (i := 10) rfl)) (by decide) (by decide)) (g := (mkF m 56 #[.val (.int nn), .val (.int c0), .val (.int c1), .val (.int ((c0 &&& (255 : Int32)).toUInt32.toUInt16.toUInt32.toInt32)), .val (.int ((c1 &&& (255 : Int32)).toUInt32.toUInt16.toUInt32.toInt32))] [(.ref b6), (.ref b5), (.ref b5)])) rfl (by rw [hml]; rfl) (Steps.refl _) (a := b5) (argsL := [(.ref b6)]) (rest := [(.ref b5)]) (lenOf own_pd7 rfl) rfl (by show 2 * 0 + _ ≤ _; exact Nat.le_of_eq rfl) (hb hby own_d2_56) (fun _ _ => ⟨rfl, e8, (by decide : 2 + 1 ≤ _), (by decide : 6 + 2 ≤ _)⟩)
      dsimp only [Pt.U, Pt.locs, Pt.cells, Pt.slots] at X9 l9 y9 z9 st9 hQ9
      subst l9 y9 z9
      obtain ⟨rfl, N9q, K9q⟩ := hQ9
      have N9 := Fr.app N8 N9q
      obtain ⟨lc9, X9, N9⟩ : ∃ lc, Stand p l e ({ frames := 4, cells := 6, slots := 12, locals := 66 } : Room) (s.setVm s.vm) m #[(.int nn), (.int c0), (.int c1)] below meth c T9 lc 3 8 ∧ Fr n0 lc := ⟨_, X9, N9⟩
      have E_b5 := E_b5.keep K9q
      have V_b6 := V_b6.keep K9q (ninS (Ne.symm ne_b5_b6) nin0)
      have hs9 := Sf_b5
      have Sf_b5 := Safe.keep K9q (fun x hx => by cases List.mem_singleton.mp hx; exact hs9) hR8.1 Sf_b5
      have Sf_b6 := Safe.keep K9q (fun x hx => by cases List.mem_singleton.mp hx; exact hs9) hR8.1 Sf_b6
      have hR9 := hR8.trans (CHr.keep K9q (fun x hx => by cases List.mem_singleton.mp hx; exact hs9) hR8.1)
      have hk9 := Nat.le_trans hk8 K9q.1
      have K9 := K8.trans K9q (allS (Or.inr sz_b5) all0)
      have Z9 := Nat.le_trans Z8 K9q.1
      refine Go.tr st9 ?_
      show Go p e below Φ T9 (mkF m 59 #[.val (.int nn), .val (.int c0), .val (.int c1), .val (.int ((c0 &&& (255 : Int32)).toUInt32.toUInt16.toUInt32.toInt32)), .val (.int ((c1 &&& (255 : Int32)).toUInt32.toUInt16.toUInt32.toInt32))] [(.ref b5)])
      rw [hΦ]
      refine Go.retW X9 hx Bd.notSynchronized hS0 (own_kk rfl hk9) hZ hEL (own_rr hh rfl hR9) Bd.returns rfl (Or.inr (Or.inr (Or.inr (Or.inr ⟨rfl, rfl, rfl⟩)))) (hb hby own_d2_59) (by decide) (by decide) ?_
      exact ⟨b5, rfl, N9, K9, sz_b5⟩
theorem own_ef7 (m : MethodId) (oa : Addr) : entryFrame m #[(.ref oa)] 1 = mkF m 0 #[.val (.ref oa)] [] := by first | (simp [entryFrame, mkF, argsToLocals, Value.category]; done) | rfl
def Q7 (Z : State) (oa : Addr) (h0 : Heap) (n0 : Nat) (vr : Option Value) (hr : Heap) (Lr : List Loc) : Prop := vr = none ∧ Fr n0 Lr ∧ hr = h0
set_option maxRecDepth 65536 in
set_option maxHeartbeats 40000000 in
theorem rm7 (l : Launch) (Z : State) (a0 : Array Value) (hw : ∀ d ∈ tables_1, d.before a0 Z = true) (ws : List Jvm.Cond) (oa : Addr) (h0 : Heap) (n0 : Nat) (Z0 : n0 ≤ h0.size) :
    MetFree l (⟨"java/lang/Record", "<init>", "()V"⟩ : MethodName) (head1 (Jvm.Cond.code (⟨"java/lang/Record", "<init>", "()V"⟩ : MethodName) jdk_30_method_1_code 1 none :: ws) ({ frames := 1, cells := 0, slots := 0, locals := 12 } : Room)) (fun aQ UQ => aQ = #[(.ref oa)] ∧ Z.Warmed39 UQ.vm ∧ UQ.heap = h0) (fun _ _ _ _ _ => True) (fun _ UQ oQ VQ => ∃ vQ LQ, oQ = .returned vQ ∧ Q7 Z oa h0 n0 vQ VQ.heap LQ ∧ FrameEnd UQ oQ VQ LQ ({ frames := 1, cells := 0, slots := 0, locals := 12 } : Room).cells ({ frames := 1, cells := 0, slots := 0, locals := 12 } : Room).slots) := by
  refine MetFree.of_bodySF (plainFor_of_name own_pn4) hisR ?_
  intro p e s m args below meth c s₁ Bd hml0 hP hK
  obtain ⟨rfl, hZ, hh⟩ := hP
  have hx := Bd.exec
  have hby := Bd.bytes
  have hml : c.maxLocals = 1 := hml0
  have hown : s.vm.findClass "java/lang/Record" = some m.cls := findClass_of_methodNamed Bd.named
  have hnm := (name_of_methodNamed Bd.named Bd.method).1
  have X0 : Stand p l e ({ frames := 1, cells := 0, slots := 0, locals := 12 } : Room) s m #[(.ref oa)] below meth c s₁ [] 0 0 := Stand.of_body Bd
  have e0 : s₁.heap = h0 := by rw [← hh, Bd.state]; rfl
  have N0 := Fr.nil n0
  show Go p e below (EndQ s below (Q7 Z oa h0 n0) ({ frames := 1, cells := 0, slots := 0, locals := 12 } : Room).cells ({ frames := 1, cells := 0, slots := 0, locals := 12 } : Room).slots) s₁ (entryFrame m #[(.ref oa)] 1)
  obtain ⟨Φ, hΦ⟩ : ∃ Φ, Φ = EndQ s below (Q7 Z oa h0 n0) ({ frames := 1, cells := 0, slots := 0, locals := 12 } : Room).cells ({ frames := 1, cells := 0, slots := 0, locals := 12 } : Room).slots := ⟨_, rfl⟩
  rw [← hΦ, own_ef7]
  show Go p e below Φ s₁ (mkF m 0 #[.val (.ref oa)] [])
  refine Go.of (fun t k => XS.aloadN X0.here hx rfl (hb hby own_d7_0) rfl rfl  k) ?_
  show Go p e below Φ s₁ (mkF m 1 #[.val (.ref oa)] [(.ref oa)])
  obtain ⟨T1, X1, e1, st1⟩ := initO X0 hx hZ hown (hw _ (List.mem_of_getElem? (i := 41) rfl)) (hw _ (List.mem_of_getElem? (i := 20) rfl)) (hw _ (List.mem_of_getElem? (i := 21) rfl)) e0 (g := (mkF m 1 #[.val (.ref oa)] [(.ref oa)])) rfl (by rw [hml]; rfl) rfl (hb hby own_d7_1) (by decide) (W := 0) (by show 2 * 0 + _ ≤ _; exact Nat.le_of_eq rfl) (by decide)
  refine Go.of st1 ?_
  show Go p e below Φ T1 (mkF m 4 #[.val (.ref oa)] [])
  rw [hΦ]
  refine Go.retV X1 hx Bd.notSynchronized Bd.returns (hb hby own_d7_4) (by decide) (by decide) ?_
  rw [e1]
  exact ⟨rfl, N0, rfl⟩
theorem own_ef6n (m : MethodId) (oa : Addr) (vid : Addr) (cn : Int32) (vv : Int32) (vp : Int32) : entryFrame m #[(.ref oa), (.ref vid), (.int cn), .null, (.int vv), (.int vp)] 6 = mkF m 0 #[.val (.ref oa), .val (.ref vid), .val (.int cn), .val .null, .val (.int vv), .val (.int vp)] [] := by first | (simp [entryFrame, mkF, argsToLocals, Value.category]; done) | rfl
def Q6n (Z : State) (oa : Addr) (vid : Addr) (cn : Int32) (vv : Int32) (vp : Int32) (u1 : Int32) (u3 : Int32) (u4 : Int32) (h0 : Heap) (n0 : Nat) (vr : Option Value) (hr : Heap) (Lr : List Loc) : Prop := vr = none ∧ Fr n0 Lr ∧ Keep h0 hr [oa] ∧ Fld Z hr oa "com/example/signalbox/signalbox/tramlines/Card" "line" "Ljava/lang/String;" .null
set_option maxRecDepth 65536 in
set_option maxHeartbeats 40000000 in
theorem rm6n (l : Launch) (Z : State) (a0 : Array Value) (hw : ∀ d ∈ tables_1, d.before a0 Z = true) (ws : List Jvm.Cond) (oa : Addr) (vid : Addr) (cn : Int32) (vv : Int32) (vp : Int32) (u1 : Int32) (u3 : Int32) (u4 : Int32) (h0 : Heap) (n0 : Nat) (Z0 : n0 ≤ h0.size) (F_oa_id : Fld Z h0 oa "com/example/signalbox/signalbox/tramlines/Card" "id" "Ljava/lang/String;" .null) (F_oa_count : Fld Z h0 oa "com/example/signalbox/signalbox/tramlines/Card" "count" "I" (.int u1)) (F_oa_line : Fld Z h0 oa "com/example/signalbox/signalbox/tramlines/Card" "line" "Ljava/lang/String;" .null) (F_oa_value : Fld Z h0 oa "com/example/signalbox/signalbox/tramlines/Card" "value" "I" (.int u3)) (F_oa_points : Fld Z h0 oa "com/example/signalbox/signalbox/tramlines/Card" "points" "I" (.int u4)) (E_oa : Exa Z h0 oa "com/example/signalbox/signalbox/tramlines/Card") (g_oa : n0 ≤ oa) :
    MetFree l (⟨"com/example/signalbox/signalbox/tramlines/Card", "<init>", "(Ljava/lang/String;ILjava/lang/String;II)V"⟩ : MethodName) (head1 (Jvm.Cond.code (⟨"com/example/signalbox/signalbox/tramlines/Card", "<init>", "(Ljava/lang/String;ILjava/lang/String;II)V"⟩ : MethodName) prog_28_method_1_code 6 none :: ws) ({ frames := 2, cells := 0, slots := 0, locals := 24 } : Room)) (fun aQ UQ => aQ = #[(.ref oa), (.ref vid), (.int cn), .null, (.int vv), (.int vp)] ∧ Z.Warmed39 UQ.vm ∧ UQ.heap = h0) (fun _ _ _ _ _ => True) (fun _ UQ oQ VQ => ∃ vQ LQ, oQ = .returned vQ ∧ Q6n Z oa vid cn vv vp u1 u3 u4 h0 n0 vQ VQ.heap LQ ∧ FrameEnd UQ oQ VQ LQ ({ frames := 2, cells := 0, slots := 0, locals := 24 } : Room).cells ({ frames := 2, cells := 0, slots := 0, locals := 24 } : Room).slots) := by
  refine MetFree.of_bodySF (plainFor_of_name own_pn5) hisR ?_
  intro p e s m args below meth c s₁ Bd hml0 hP hK
  obtain ⟨rfl, hZ, hh⟩ := hP
  have hx := Bd.exec
  have hby := Bd.bytes
  have hml : c.maxLocals = 6 := hml0
  have hown : s.vm.findClass "com/example/signalbox/signalbox/tramlines/Card" = some m.cls := findClass_of_methodNamed Bd.named
  have hnm := (name_of_methodNamed Bd.named Bd.method).1
  have X0 : Stand p l e ({ frames := 2, cells := 0, slots := 0, locals := 24 } : Room) s m #[(.ref oa), (.ref vid), (.int cn), .null, (.int vv), (.int vp)] below meth c s₁ [] 0 0 := Stand.of_body Bd
  have e0 : s₁.heap = h0 := by rw [← hh, Bd.state]; rfl
  have N0 := Fr.nil n0
  show Go p e below (EndQ s below (Q6n Z oa vid cn vv vp u1 u3 u4 h0 n0) ({ frames := 2, cells := 0, slots := 0, locals := 24 } : Room).cells ({ frames := 2, cells := 0, slots := 0, locals := 24 } : Room).slots) s₁ (entryFrame m #[(.ref oa), (.ref vid), (.int cn), .null, (.int vv), (.int vp)] 6)
  obtain ⟨Φ, hΦ⟩ : ∃ Φ, Φ = EndQ s below (Q6n Z oa vid cn vv vp u1 u3 u4 h0 n0) ({ frames := 2, cells := 0, slots := 0, locals := 24 } : Room).cells ({ frames := 2, cells := 0, slots := 0, locals := 24 } : Room).slots := ⟨_, rfl⟩
  rw [← hΦ, own_ef6n]
  show Go p e below Φ s₁ (mkF m 0 #[.val (.ref oa), .val (.ref vid), .val (.int cn), .val .null, .val (.int vv), .val (.int vp)] [])
  refine Go.of (fun t k => XS.aloadN X0.here hx rfl (hb hby own_d6_0) rfl rfl  k) ?_
  show Go p e below Φ s₁ (mkF m 1 #[.val (.ref oa), .val (.ref vid), .val (.int cn), .val .null, .val (.int vv), .val (.int vp)] [(.ref oa)])
  obtain ⟨_, _, ⟨T1, L1, k1, n1⟩, -, X1, ⟨Lc1, hQ1, l1, y1, z1⟩, st1⟩ := X0.specialBack hx (y := (⟨"java/lang/Record", "<init>", "()V"⟩ : MethodName)) rfl hown (mvT hZ (hw _ (List.mem_of_getElem? (i := 36) rfl))) (mvT hZ (hw _ (List.mem_of_getElem? (i := 37) rfl))) (mvT hZ (hw _ (List.mem_of_getElem? (i := 40) rfl))) (by decide) (backOf (W := 0) (rm7 l Z a0 hw [] oa h0 n0 Z0 ) hZ (hw _ (List.mem_of_getElem? (i := 40) rfl)) (hw _ (List.mem_of_getElem? (i := 39) rfl)) (by decide) (by decide)) (g := (mkF m 1 #[.val (.ref oa), .val (.ref vid), .val (.int cn), .val .null, .val (.int vv), .val (.int vp)] [(.ref oa)])) rfl (by rw [hml]; rfl) (Steps.refl _) (a := oa) (argsL := []) (rest := []) (lenOf own_pd9 rfl) rfl (by show 2 * 0 + _ ≤ _; exact Nat.le_of_eq rfl) (hb hby own_d6_1) (fun _ _ => ⟨rfl, e0, (by decide : 0 + 0 ≤ _), (by decide : 0 + 0 ≤ _)⟩)
  dsimp only [Pt.U, Pt.locs, Pt.cells, Pt.slots] at X1 l1 y1 z1 st1 hQ1
  subst l1 y1 z1
  obtain ⟨rfl, N1q, e1q⟩ := hQ1
  have N1 := Fr.app N0 N1q
  obtain ⟨lc1, X1, N1⟩ : ∃ lc, Stand p l e ({ frames := 2, cells := 0, slots := 0, locals := 24 } : Room) s m #[(.ref oa), (.ref vid), (.int cn), .null, (.int vv), (.int vp)] below meth c T1 lc 0 0 ∧ Fr n0 lc := ⟨_, X1, N1⟩
  refine Go.tr st1 ?_
  show Go p e below Φ T1 (mkF m 4 #[.val (.ref oa), .val (.ref vid), .val (.int cn), .val .null, .val (.int vv), .val (.int vp)] [])
  refine Go.of (fun t k => XS.aloadN X1.here hx rfl (hb hby own_d6_4) rfl rfl  k) ?_
  show Go p e below Φ T1 (mkF m 5 #[.val (.ref oa), .val (.ref vid), .val (.int cn), .val .null, .val (.int vv), .val (.int vp)] [(.ref oa)])
  refine Go.of (fun t k => XS.aloadN X1.here hx rfl (hb hby own_d6_5) rfl rfl  k) ?_
  show Go p e below Φ T1 (mkF m 6 #[.val (.ref oa), .val (.ref vid), .val (.int cn), .val .null, .val (.int vv), .val (.int vp)] [(.ref vid), (.ref oa)])
  obtain ⟨T2, h2, X2, e2, W2, st2⟩ := putF X1 hx hZ hown (host := "") (Or.inl (hw _ (List.mem_of_getElem? (i := 42) rfl))) Via.refl (e1q) F_oa_id E_oa (Or.inr ⟨(hw _ (List.mem_of_getElem? (i := 43) rfl)), rfl, hnm⟩) (hw _ (List.mem_of_getElem? (i := 31) rfl)) (ty := (.object "java/lang/String")) (by decide) rfl rfl (g := (mkF m 6 #[.val (.ref oa), .val (.ref vid), .val (.int cn), .val .null, .val (.int vv), .val (.int vp)] [(.ref vid), (.ref oa)])) rfl rfl (hb hby own_d6_6)
  have N2 := Fr.snoc X2 N1 g_oa
  have F_oa_id := F_oa_id.same W2
  have F_oa_count := F_oa_count.other W2 (Or.inr (slot_ne (Or.inr (hw _ (List.mem_of_getElem? (i := 45) rfl))) (Or.inr (hw _ (List.mem_of_getElem? (i := 43) rfl))) (by decide) (t := .int) (t' := (.object "java/lang/String")) (by decide) (by decide)))
  have F_oa_line := F_oa_line.other W2 (Or.inr (slot_ne (Or.inr (hw _ (List.mem_of_getElem? (i := 47) rfl))) (Or.inr (hw _ (List.mem_of_getElem? (i := 43) rfl))) (by decide) (t := (.object "java/lang/String")) (t' := (.object "java/lang/String")) (by decide) (by decide)))
  have F_oa_value := F_oa_value.other W2 (Or.inr (slot_ne (Or.inr (hw _ (List.mem_of_getElem? (i := 49) rfl))) (Or.inr (hw _ (List.mem_of_getElem? (i := 43) rfl))) (by decide) (t := .int) (t' := (.object "java/lang/String")) (by decide) (by decide)))
  have F_oa_points := F_oa_points.other W2 (Or.inr (slot_ne (Or.inr (hw _ (List.mem_of_getElem? (i := 51) rfl))) (Or.inr (hw _ (List.mem_of_getElem? (i := 43) rfl))) (by decide) (t := .int) (t' := (.object "java/lang/String")) (by decide) (by decide)))
  have E_oa := E_oa.wr W2
  have K2 : Keep h0 h2 [oa] := (Keep.refl h0 [oa]).wr W2 (Or.inl (List.mem_of_getElem? (i := 0) rfl))
  have Z2 := Nat.le_trans Z0 (Keep.of_wr W2).1
  obtain ⟨lc2, X2, N2⟩ : ∃ lc, Stand p l e ({ frames := 2, cells := 0, slots := 0, locals := 24 } : Room) s m #[(.ref oa), (.ref vid), (.int cn), .null, (.int vv), (.int vp)] below meth c T2 lc 0 0 ∧ Fr n0 lc := ⟨_, X2, N2⟩
  refine Go.of st2 ?_
  show Go p e below Φ T2 (mkF m 9 #[.val (.ref oa), .val (.ref vid), .val (.int cn), .val .null, .val (.int vv), .val (.int vp)] [])
  refine Go.of (fun t k => XS.aloadN X2.here hx rfl (hb hby own_d6_9) rfl rfl  k) ?_
  show Go p e below Φ T2 (mkF m 10 #[.val (.ref oa), .val (.ref vid), .val (.int cn), .val .null, .val (.int vv), .val (.int vp)] [(.ref oa)])
  refine Go.of (fun t k => XS.iloadN X2.here hx rfl (hb hby own_d6_10) rfl  k) ?_
  show Go p e below Φ T2 (mkF m 11 #[.val (.ref oa), .val (.ref vid), .val (.int cn), .val .null, .val (.int vv), .val (.int vp)] [(.int cn), (.ref oa)])
  obtain ⟨T3, h3, X3, e3, W3, st3⟩ := putF X2 hx hZ hown (host := "") (Or.inl (hw _ (List.mem_of_getElem? (i := 44) rfl))) Via.refl e2 F_oa_count E_oa (Or.inr ⟨(hw _ (List.mem_of_getElem? (i := 45) rfl)), rfl, hnm⟩) (hw _ (List.mem_of_getElem? (i := 31) rfl)) (ty := .int) (by decide) rfl rfl (g := (mkF m 11 #[.val (.ref oa), .val (.ref vid), .val (.int cn), .val .null, .val (.int vv), .val (.int vp)] [(.int cn), (.ref oa)])) rfl rfl (hb hby own_d6_11)
  have N3 := Fr.snoc X3 N2 g_oa
  have F_oa_count := F_oa_count.same W3
  have F_oa_id := F_oa_id.other W3 (Or.inr (slot_ne (Or.inr (hw _ (List.mem_of_getElem? (i := 43) rfl))) (Or.inr (hw _ (List.mem_of_getElem? (i := 45) rfl))) (by decide) (t := (.object "java/lang/String")) (t' := .int) (by decide) (by decide)))
  have F_oa_line := F_oa_line.other W3 (Or.inr (slot_ne (Or.inr (hw _ (List.mem_of_getElem? (i := 47) rfl))) (Or.inr (hw _ (List.mem_of_getElem? (i := 45) rfl))) (by decide) (t := (.object "java/lang/String")) (t' := .int) (by decide) (by decide)))
  have F_oa_value := F_oa_value.other W3 (Or.inr (slot_ne (Or.inr (hw _ (List.mem_of_getElem? (i := 49) rfl))) (Or.inr (hw _ (List.mem_of_getElem? (i := 45) rfl))) (by decide) (t := .int) (t' := .int) (by decide) (by decide)))
  have F_oa_points := F_oa_points.other W3 (Or.inr (slot_ne (Or.inr (hw _ (List.mem_of_getElem? (i := 51) rfl))) (Or.inr (hw _ (List.mem_of_getElem? (i := 45) rfl))) (by decide) (t := .int) (t' := .int) (by decide) (by decide)))
  have E_oa := E_oa.wr W3
  have K3 : Keep h0 h3 [oa] := K2.wr W3 (Or.inl (List.mem_of_getElem? (i := 0) rfl))
  have Z3 := Nat.le_trans Z2 (Keep.of_wr W3).1
  obtain ⟨lc3, X3, N3⟩ : ∃ lc, Stand p l e ({ frames := 2, cells := 0, slots := 0, locals := 24 } : Room) s m #[(.ref oa), (.ref vid), (.int cn), .null, (.int vv), (.int vp)] below meth c T3 lc 0 0 ∧ Fr n0 lc := ⟨_, X3, N3⟩
  refine Go.of st3 ?_
  show Go p e below Φ T3 (mkF m 14 #[.val (.ref oa), .val (.ref vid), .val (.int cn), .val .null, .val (.int vv), .val (.int vp)] [])
  refine Go.of (fun t k => XS.aloadN X3.here hx rfl (hb hby own_d6_14) rfl rfl  k) ?_
  show Go p e below Φ T3 (mkF m 15 #[.val (.ref oa), .val (.ref vid), .val (.int cn), .val .null, .val (.int vv), .val (.int vp)] [(.ref oa)])
  refine Go.of (fun t k => XS.aloadN X3.here hx rfl (hb hby own_d6_15) rfl rfl  k) ?_
  show Go p e below Φ T3 (mkF m 16 #[.val (.ref oa), .val (.ref vid), .val (.int cn), .val .null, .val (.int vv), .val (.int vp)] [.null, (.ref oa)])
  obtain ⟨T4, h4, X4, e4, W4, st4⟩ := putF X3 hx hZ hown (host := "") (Or.inl (hw _ (List.mem_of_getElem? (i := 46) rfl))) Via.refl e3 F_oa_line E_oa (Or.inr ⟨(hw _ (List.mem_of_getElem? (i := 47) rfl)), rfl, hnm⟩) (hw _ (List.mem_of_getElem? (i := 31) rfl)) (ty := (.object "java/lang/String")) (by decide) rfl rfl (g := (mkF m 16 #[.val (.ref oa), .val (.ref vid), .val (.int cn), .val .null, .val (.int vv), .val (.int vp)] [.null, (.ref oa)])) rfl rfl (hb hby own_d6_16)
  have N4 := Fr.snoc X4 N3 g_oa
  have F_oa_line := F_oa_line.same W4
  have F_oa_id := F_oa_id.other W4 (Or.inr (slot_ne (Or.inr (hw _ (List.mem_of_getElem? (i := 43) rfl))) (Or.inr (hw _ (List.mem_of_getElem? (i := 47) rfl))) (by decide) (t := (.object "java/lang/String")) (t' := (.object "java/lang/String")) (by decide) (by decide)))
  have F_oa_count := F_oa_count.other W4 (Or.inr (slot_ne (Or.inr (hw _ (List.mem_of_getElem? (i := 45) rfl))) (Or.inr (hw _ (List.mem_of_getElem? (i := 47) rfl))) (by decide) (t := .int) (t' := (.object "java/lang/String")) (by decide) (by decide)))
  have F_oa_value := F_oa_value.other W4 (Or.inr (slot_ne (Or.inr (hw _ (List.mem_of_getElem? (i := 49) rfl))) (Or.inr (hw _ (List.mem_of_getElem? (i := 47) rfl))) (by decide) (t := .int) (t' := (.object "java/lang/String")) (by decide) (by decide)))
  have F_oa_points := F_oa_points.other W4 (Or.inr (slot_ne (Or.inr (hw _ (List.mem_of_getElem? (i := 51) rfl))) (Or.inr (hw _ (List.mem_of_getElem? (i := 47) rfl))) (by decide) (t := .int) (t' := (.object "java/lang/String")) (by decide) (by decide)))
  have E_oa := E_oa.wr W4
  have K4 : Keep h0 h4 [oa] := K3.wr W4 (Or.inl (List.mem_of_getElem? (i := 0) rfl))
  have Z4 := Nat.le_trans Z3 (Keep.of_wr W4).1
  obtain ⟨lc4, X4, N4⟩ : ∃ lc, Stand p l e ({ frames := 2, cells := 0, slots := 0, locals := 24 } : Room) s m #[(.ref oa), (.ref vid), (.int cn), .null, (.int vv), (.int vp)] below meth c T4 lc 0 0 ∧ Fr n0 lc := ⟨_, X4, N4⟩
  refine Go.of st4 ?_
  show Go p e below Φ T4 (mkF m 19 #[.val (.ref oa), .val (.ref vid), .val (.int cn), .val .null, .val (.int vv), .val (.int vp)] [])
  refine Go.of (fun t k => XS.aloadN X4.here hx rfl (hb hby own_d6_19) rfl rfl  k) ?_
  show Go p e below Φ T4 (mkF m 20 #[.val (.ref oa), .val (.ref vid), .val (.int cn), .val .null, .val (.int vv), .val (.int vp)] [(.ref oa)])
  refine Go.of (fun t k => XS.iload X4.here hx rfl (hb hby own_d6_20) rfl  k) ?_
  show Go p e below Φ T4 (mkF m 22 #[.val (.ref oa), .val (.ref vid), .val (.int cn), .val .null, .val (.int vv), .val (.int vp)] [(.int vv), (.ref oa)])
  obtain ⟨T5, h5, X5, e5, W5, st5⟩ := putF X4 hx hZ hown (host := "") (Or.inl (hw _ (List.mem_of_getElem? (i := 48) rfl))) Via.refl e4 F_oa_value E_oa (Or.inr ⟨(hw _ (List.mem_of_getElem? (i := 49) rfl)), rfl, hnm⟩) (hw _ (List.mem_of_getElem? (i := 31) rfl)) (ty := .int) (by decide) rfl rfl (g := (mkF m 22 #[.val (.ref oa), .val (.ref vid), .val (.int cn), .val .null, .val (.int vv), .val (.int vp)] [(.int vv), (.ref oa)])) rfl rfl (hb hby own_d6_22)
  have N5 := Fr.snoc X5 N4 g_oa
  have F_oa_value := F_oa_value.same W5
  have F_oa_id := F_oa_id.other W5 (Or.inr (slot_ne (Or.inr (hw _ (List.mem_of_getElem? (i := 43) rfl))) (Or.inr (hw _ (List.mem_of_getElem? (i := 49) rfl))) (by decide) (t := (.object "java/lang/String")) (t' := .int) (by decide) (by decide)))
  have F_oa_count := F_oa_count.other W5 (Or.inr (slot_ne (Or.inr (hw _ (List.mem_of_getElem? (i := 45) rfl))) (Or.inr (hw _ (List.mem_of_getElem? (i := 49) rfl))) (by decide) (t := .int) (t' := .int) (by decide) (by decide)))
  have F_oa_line := F_oa_line.other W5 (Or.inr (slot_ne (Or.inr (hw _ (List.mem_of_getElem? (i := 47) rfl))) (Or.inr (hw _ (List.mem_of_getElem? (i := 49) rfl))) (by decide) (t := (.object "java/lang/String")) (t' := .int) (by decide) (by decide)))
  have F_oa_points := F_oa_points.other W5 (Or.inr (slot_ne (Or.inr (hw _ (List.mem_of_getElem? (i := 51) rfl))) (Or.inr (hw _ (List.mem_of_getElem? (i := 49) rfl))) (by decide) (t := .int) (t' := .int) (by decide) (by decide)))
  have E_oa := E_oa.wr W5
  have K5 : Keep h0 h5 [oa] := K4.wr W5 (Or.inl (List.mem_of_getElem? (i := 0) rfl))
  have Z5 := Nat.le_trans Z4 (Keep.of_wr W5).1
  obtain ⟨lc5, X5, N5⟩ : ∃ lc, Stand p l e ({ frames := 2, cells := 0, slots := 0, locals := 24 } : Room) s m #[(.ref oa), (.ref vid), (.int cn), .null, (.int vv), (.int vp)] below meth c T5 lc 0 0 ∧ Fr n0 lc := ⟨_, X5, N5⟩
  refine Go.of st5 ?_
  show Go p e below Φ T5 (mkF m 25 #[.val (.ref oa), .val (.ref vid), .val (.int cn), .val .null, .val (.int vv), .val (.int vp)] [])
  refine Go.of (fun t k => XS.aloadN X5.here hx rfl (hb hby own_d6_25) rfl rfl  k) ?_
  show Go p e below Φ T5 (mkF m 26 #[.val (.ref oa), .val (.ref vid), .val (.int cn), .val .null, .val (.int vv), .val (.int vp)] [(.ref oa)])
  refine Go.of (fun t k => XS.iload X5.here hx rfl (hb hby own_d6_26) rfl  k) ?_
  show Go p e below Φ T5 (mkF m 28 #[.val (.ref oa), .val (.ref vid), .val (.int cn), .val .null, .val (.int vv), .val (.int vp)] [(.int vp), (.ref oa)])
  obtain ⟨T6, h6, X6, e6, W6, st6⟩ := putF X5 hx hZ hown (host := "") (Or.inl (hw _ (List.mem_of_getElem? (i := 50) rfl))) Via.refl e5 F_oa_points E_oa (Or.inr ⟨(hw _ (List.mem_of_getElem? (i := 51) rfl)), rfl, hnm⟩) (hw _ (List.mem_of_getElem? (i := 31) rfl)) (ty := .int) (by decide) rfl rfl (g := (mkF m 28 #[.val (.ref oa), .val (.ref vid), .val (.int cn), .val .null, .val (.int vv), .val (.int vp)] [(.int vp), (.ref oa)])) rfl rfl (hb hby own_d6_28)
  have N6 := Fr.snoc X6 N5 g_oa
  have F_oa_points := F_oa_points.same W6
  have F_oa_id := F_oa_id.other W6 (Or.inr (slot_ne (Or.inr (hw _ (List.mem_of_getElem? (i := 43) rfl))) (Or.inr (hw _ (List.mem_of_getElem? (i := 51) rfl))) (by decide) (t := (.object "java/lang/String")) (t' := .int) (by decide) (by decide)))
  have F_oa_count := F_oa_count.other W6 (Or.inr (slot_ne (Or.inr (hw _ (List.mem_of_getElem? (i := 45) rfl))) (Or.inr (hw _ (List.mem_of_getElem? (i := 51) rfl))) (by decide) (t := .int) (t' := .int) (by decide) (by decide)))
  have F_oa_line := F_oa_line.other W6 (Or.inr (slot_ne (Or.inr (hw _ (List.mem_of_getElem? (i := 47) rfl))) (Or.inr (hw _ (List.mem_of_getElem? (i := 51) rfl))) (by decide) (t := (.object "java/lang/String")) (t' := .int) (by decide) (by decide)))
  have F_oa_value := F_oa_value.other W6 (Or.inr (slot_ne (Or.inr (hw _ (List.mem_of_getElem? (i := 49) rfl))) (Or.inr (hw _ (List.mem_of_getElem? (i := 51) rfl))) (by decide) (t := .int) (t' := .int) (by decide) (by decide)))
  have E_oa := E_oa.wr W6
  have K6 : Keep h0 h6 [oa] := K5.wr W6 (Or.inl (List.mem_of_getElem? (i := 0) rfl))
  have Z6 := Nat.le_trans Z5 (Keep.of_wr W6).1
  obtain ⟨lc6, X6, N6⟩ : ∃ lc, Stand p l e ({ frames := 2, cells := 0, slots := 0, locals := 24 } : Room) s m #[(.ref oa), (.ref vid), (.int cn), .null, (.int vv), (.int vp)] below meth c T6 lc 0 0 ∧ Fr n0 lc := ⟨_, X6, N6⟩
  refine Go.of st6 ?_
  show Go p e below Φ T6 (mkF m 31 #[.val (.ref oa), .val (.ref vid), .val (.int cn), .val .null, .val (.int vv), .val (.int vp)] [])
  rw [hΦ]
  refine Go.retV X6 hx Bd.notSynchronized Bd.returns (hb hby own_d6_31) (by decide) (by decide) ?_
  rw [e6]
  exact ⟨rfl, N6, K6, F_oa_line⟩
theorem own_ef6r (m : MethodId) (oa : Addr) (vid : Addr) (cn : Int32) (la : Addr) (vv : Int32) (vp : Int32) : entryFrame m #[(.ref oa), (.ref vid), (.int cn), (.ref la), (.int vv), (.int vp)] 6 = mkF m 0 #[.val (.ref oa), .val (.ref vid), .val (.int cn), .val (.ref la), .val (.int vv), .val (.int vp)] [] := by first | (simp [entryFrame, mkF, argsToLocals, Value.category]; done) | rfl
def Q6r (Z : State) (oa : Addr) (vid : Addr) (cn : Int32) (la : Addr) (vv : Int32) (vp : Int32) (u1 : Int32) (u3 : Int32) (u4 : Int32) (h0 : Heap) (n0 : Nat) (vr : Option Value) (hr : Heap) (Lr : List Loc) : Prop := vr = none ∧ Fr n0 Lr ∧ Keep h0 hr [oa] ∧ Fld Z hr oa "com/example/signalbox/signalbox/tramlines/Card" "line" "Ljava/lang/String;" (.ref la)
set_option maxRecDepth 65536 in
set_option maxHeartbeats 40000000 in
theorem rm6r (l : Launch) (Z : State) (a0 : Array Value) (hw : ∀ d ∈ tables_1, d.before a0 Z = true) (ws : List Jvm.Cond) (oa : Addr) (vid : Addr) (cn : Int32) (la : Addr) (vv : Int32) (vp : Int32) (u1 : Int32) (u3 : Int32) (u4 : Int32) (h0 : Heap) (n0 : Nat) (Z0 : n0 ≤ h0.size) (F_oa_id : Fld Z h0 oa "com/example/signalbox/signalbox/tramlines/Card" "id" "Ljava/lang/String;" .null) (F_oa_count : Fld Z h0 oa "com/example/signalbox/signalbox/tramlines/Card" "count" "I" (.int u1)) (F_oa_line : Fld Z h0 oa "com/example/signalbox/signalbox/tramlines/Card" "line" "Ljava/lang/String;" .null) (F_oa_value : Fld Z h0 oa "com/example/signalbox/signalbox/tramlines/Card" "value" "I" (.int u3)) (F_oa_points : Fld Z h0 oa "com/example/signalbox/signalbox/tramlines/Card" "points" "I" (.int u4)) (E_oa : Exa Z h0 oa "com/example/signalbox/signalbox/tramlines/Card") (g_oa : n0 ≤ oa) :
    MetFree l (⟨"com/example/signalbox/signalbox/tramlines/Card", "<init>", "(Ljava/lang/String;ILjava/lang/String;II)V"⟩ : MethodName) (head1 (Jvm.Cond.code (⟨"com/example/signalbox/signalbox/tramlines/Card", "<init>", "(Ljava/lang/String;ILjava/lang/String;II)V"⟩ : MethodName) prog_28_method_1_code 6 none :: ws) ({ frames := 2, cells := 0, slots := 0, locals := 24 } : Room)) (fun aQ UQ => aQ = #[(.ref oa), (.ref vid), (.int cn), (.ref la), (.int vv), (.int vp)] ∧ Z.Warmed39 UQ.vm ∧ UQ.heap = h0) (fun _ _ _ _ _ => True) (fun _ UQ oQ VQ => ∃ vQ LQ, oQ = .returned vQ ∧ Q6r Z oa vid cn la vv vp u1 u3 u4 h0 n0 vQ VQ.heap LQ ∧ FrameEnd UQ oQ VQ LQ ({ frames := 2, cells := 0, slots := 0, locals := 24 } : Room).cells ({ frames := 2, cells := 0, slots := 0, locals := 24 } : Room).slots) := by
  refine MetFree.of_bodySF (plainFor_of_name own_pn5) hisR ?_
  intro p e s m args below meth c s₁ Bd hml0 hP hK
  obtain ⟨rfl, hZ, hh⟩ := hP
  have hx := Bd.exec
  have hby := Bd.bytes
  have hml : c.maxLocals = 6 := hml0
  have hown : s.vm.findClass "com/example/signalbox/signalbox/tramlines/Card" = some m.cls := findClass_of_methodNamed Bd.named
  have hnm := (name_of_methodNamed Bd.named Bd.method).1
  have X0 : Stand p l e ({ frames := 2, cells := 0, slots := 0, locals := 24 } : Room) s m #[(.ref oa), (.ref vid), (.int cn), (.ref la), (.int vv), (.int vp)] below meth c s₁ [] 0 0 := Stand.of_body Bd
  have e0 : s₁.heap = h0 := by rw [← hh, Bd.state]; rfl
  have N0 := Fr.nil n0
  show Go p e below (EndQ s below (Q6r Z oa vid cn la vv vp u1 u3 u4 h0 n0) ({ frames := 2, cells := 0, slots := 0, locals := 24 } : Room).cells ({ frames := 2, cells := 0, slots := 0, locals := 24 } : Room).slots) s₁ (entryFrame m #[(.ref oa), (.ref vid), (.int cn), (.ref la), (.int vv), (.int vp)] 6)
  obtain ⟨Φ, hΦ⟩ : ∃ Φ, Φ = EndQ s below (Q6r Z oa vid cn la vv vp u1 u3 u4 h0 n0) ({ frames := 2, cells := 0, slots := 0, locals := 24 } : Room).cells ({ frames := 2, cells := 0, slots := 0, locals := 24 } : Room).slots := ⟨_, rfl⟩
  rw [← hΦ, own_ef6r]
  show Go p e below Φ s₁ (mkF m 0 #[.val (.ref oa), .val (.ref vid), .val (.int cn), .val (.ref la), .val (.int vv), .val (.int vp)] [])
  refine Go.of (fun t k => XS.aloadN X0.here hx rfl (hb hby own_d6_0) rfl rfl  k) ?_
  show Go p e below Φ s₁ (mkF m 1 #[.val (.ref oa), .val (.ref vid), .val (.int cn), .val (.ref la), .val (.int vv), .val (.int vp)] [(.ref oa)])
  obtain ⟨_, _, ⟨T1, L1, k1, n1⟩, -, X1, ⟨Lc1, hQ1, l1, y1, z1⟩, st1⟩ := X0.specialBack hx (y := (⟨"java/lang/Record", "<init>", "()V"⟩ : MethodName)) rfl hown (mvT hZ (hw _ (List.mem_of_getElem? (i := 36) rfl))) (mvT hZ (hw _ (List.mem_of_getElem? (i := 37) rfl))) (mvT hZ (hw _ (List.mem_of_getElem? (i := 40) rfl))) (by decide) (backOf (W := 0) (rm7 l Z a0 hw [] oa h0 n0 Z0 ) hZ (hw _ (List.mem_of_getElem? (i := 40) rfl)) (hw _ (List.mem_of_getElem? (i := 39) rfl)) (by decide) (by decide)) (g := (mkF m 1 #[.val (.ref oa), .val (.ref vid), .val (.int cn), .val (.ref la), .val (.int vv), .val (.int vp)] [(.ref oa)])) rfl (by rw [hml]; rfl) (Steps.refl _) (a := oa) (argsL := []) (rest := []) (lenOf own_pd9 rfl) rfl (by show 2 * 0 + _ ≤ _; exact Nat.le_of_eq rfl) (hb hby own_d6_1) (fun _ _ => ⟨rfl, e0, (by decide : 0 + 0 ≤ _), (by decide : 0 + 0 ≤ _)⟩)
  dsimp only [Pt.U, Pt.locs, Pt.cells, Pt.slots] at X1 l1 y1 z1 st1 hQ1
  subst l1 y1 z1
  obtain ⟨rfl, N1q, e1q⟩ := hQ1
  have N1 := Fr.app N0 N1q
  obtain ⟨lc1, X1, N1⟩ : ∃ lc, Stand p l e ({ frames := 2, cells := 0, slots := 0, locals := 24 } : Room) s m #[(.ref oa), (.ref vid), (.int cn), (.ref la), (.int vv), (.int vp)] below meth c T1 lc 0 0 ∧ Fr n0 lc := ⟨_, X1, N1⟩
  refine Go.tr st1 ?_
  show Go p e below Φ T1 (mkF m 4 #[.val (.ref oa), .val (.ref vid), .val (.int cn), .val (.ref la), .val (.int vv), .val (.int vp)] [])
  refine Go.of (fun t k => XS.aloadN X1.here hx rfl (hb hby own_d6_4) rfl rfl  k) ?_
  show Go p e below Φ T1 (mkF m 5 #[.val (.ref oa), .val (.ref vid), .val (.int cn), .val (.ref la), .val (.int vv), .val (.int vp)] [(.ref oa)])
  refine Go.of (fun t k => XS.aloadN X1.here hx rfl (hb hby own_d6_5) rfl rfl  k) ?_
  show Go p e below Φ T1 (mkF m 6 #[.val (.ref oa), .val (.ref vid), .val (.int cn), .val (.ref la), .val (.int vv), .val (.int vp)] [(.ref vid), (.ref oa)])
  obtain ⟨T2, h2, X2, e2, W2, st2⟩ := putF X1 hx hZ hown (host := "") (Or.inl (hw _ (List.mem_of_getElem? (i := 42) rfl))) Via.refl (e1q) F_oa_id E_oa (Or.inr ⟨(hw _ (List.mem_of_getElem? (i := 43) rfl)), rfl, hnm⟩) (hw _ (List.mem_of_getElem? (i := 31) rfl)) (ty := (.object "java/lang/String")) (by decide) rfl rfl (g := (mkF m 6 #[.val (.ref oa), .val (.ref vid), .val (.int cn), .val (.ref la), .val (.int vv), .val (.int vp)] [(.ref vid), (.ref oa)])) rfl rfl (hb hby own_d6_6)
  have N2 := Fr.snoc X2 N1 g_oa
  have F_oa_id := F_oa_id.same W2
  have F_oa_count := F_oa_count.other W2 (Or.inr (slot_ne (Or.inr (hw _ (List.mem_of_getElem? (i := 45) rfl))) (Or.inr (hw _ (List.mem_of_getElem? (i := 43) rfl))) (by decide) (t := .int) (t' := (.object "java/lang/String")) (by decide) (by decide)))
  have F_oa_line := F_oa_line.other W2 (Or.inr (slot_ne (Or.inr (hw _ (List.mem_of_getElem? (i := 47) rfl))) (Or.inr (hw _ (List.mem_of_getElem? (i := 43) rfl))) (by decide) (t := (.object "java/lang/String")) (t' := (.object "java/lang/String")) (by decide) (by decide)))
  have F_oa_value := F_oa_value.other W2 (Or.inr (slot_ne (Or.inr (hw _ (List.mem_of_getElem? (i := 49) rfl))) (Or.inr (hw _ (List.mem_of_getElem? (i := 43) rfl))) (by decide) (t := .int) (t' := (.object "java/lang/String")) (by decide) (by decide)))
  have F_oa_points := F_oa_points.other W2 (Or.inr (slot_ne (Or.inr (hw _ (List.mem_of_getElem? (i := 51) rfl))) (Or.inr (hw _ (List.mem_of_getElem? (i := 43) rfl))) (by decide) (t := .int) (t' := (.object "java/lang/String")) (by decide) (by decide)))
  have E_oa := E_oa.wr W2
  have K2 : Keep h0 h2 [oa] := (Keep.refl h0 [oa]).wr W2 (Or.inl (List.mem_of_getElem? (i := 0) rfl))
  have Z2 := Nat.le_trans Z0 (Keep.of_wr W2).1
  obtain ⟨lc2, X2, N2⟩ : ∃ lc, Stand p l e ({ frames := 2, cells := 0, slots := 0, locals := 24 } : Room) s m #[(.ref oa), (.ref vid), (.int cn), (.ref la), (.int vv), (.int vp)] below meth c T2 lc 0 0 ∧ Fr n0 lc := ⟨_, X2, N2⟩
  refine Go.of st2 ?_
  show Go p e below Φ T2 (mkF m 9 #[.val (.ref oa), .val (.ref vid), .val (.int cn), .val (.ref la), .val (.int vv), .val (.int vp)] [])
  refine Go.of (fun t k => XS.aloadN X2.here hx rfl (hb hby own_d6_9) rfl rfl  k) ?_
  show Go p e below Φ T2 (mkF m 10 #[.val (.ref oa), .val (.ref vid), .val (.int cn), .val (.ref la), .val (.int vv), .val (.int vp)] [(.ref oa)])
  refine Go.of (fun t k => XS.iloadN X2.here hx rfl (hb hby own_d6_10) rfl  k) ?_
  show Go p e below Φ T2 (mkF m 11 #[.val (.ref oa), .val (.ref vid), .val (.int cn), .val (.ref la), .val (.int vv), .val (.int vp)] [(.int cn), (.ref oa)])
  obtain ⟨T3, h3, X3, e3, W3, st3⟩ := putF X2 hx hZ hown (host := "") (Or.inl (hw _ (List.mem_of_getElem? (i := 44) rfl))) Via.refl e2 F_oa_count E_oa (Or.inr ⟨(hw _ (List.mem_of_getElem? (i := 45) rfl)), rfl, hnm⟩) (hw _ (List.mem_of_getElem? (i := 31) rfl)) (ty := .int) (by decide) rfl rfl (g := (mkF m 11 #[.val (.ref oa), .val (.ref vid), .val (.int cn), .val (.ref la), .val (.int vv), .val (.int vp)] [(.int cn), (.ref oa)])) rfl rfl (hb hby own_d6_11)
  have N3 := Fr.snoc X3 N2 g_oa
  have F_oa_count := F_oa_count.same W3
  have F_oa_id := F_oa_id.other W3 (Or.inr (slot_ne (Or.inr (hw _ (List.mem_of_getElem? (i := 43) rfl))) (Or.inr (hw _ (List.mem_of_getElem? (i := 45) rfl))) (by decide) (t := (.object "java/lang/String")) (t' := .int) (by decide) (by decide)))
  have F_oa_line := F_oa_line.other W3 (Or.inr (slot_ne (Or.inr (hw _ (List.mem_of_getElem? (i := 47) rfl))) (Or.inr (hw _ (List.mem_of_getElem? (i := 45) rfl))) (by decide) (t := (.object "java/lang/String")) (t' := .int) (by decide) (by decide)))
  have F_oa_value := F_oa_value.other W3 (Or.inr (slot_ne (Or.inr (hw _ (List.mem_of_getElem? (i := 49) rfl))) (Or.inr (hw _ (List.mem_of_getElem? (i := 45) rfl))) (by decide) (t := .int) (t' := .int) (by decide) (by decide)))
  have F_oa_points := F_oa_points.other W3 (Or.inr (slot_ne (Or.inr (hw _ (List.mem_of_getElem? (i := 51) rfl))) (Or.inr (hw _ (List.mem_of_getElem? (i := 45) rfl))) (by decide) (t := .int) (t' := .int) (by decide) (by decide)))
  have E_oa := E_oa.wr W3
  have K3 : Keep h0 h3 [oa] := K2.wr W3 (Or.inl (List.mem_of_getElem? (i := 0) rfl))
  have Z3 := Nat.le_trans Z2 (Keep.of_wr W3).1
  obtain ⟨lc3, X3, N3⟩ : ∃ lc, Stand p l e ({ frames := 2, cells := 0, slots := 0, locals := 24 } : Room) s m #[(.ref oa), (.ref vid), (.int cn), (.ref la), (.int vv), (.int vp)] below meth c T3 lc 0 0 ∧ Fr n0 lc := ⟨_, X3, N3⟩
  refine Go.of st3 ?_
  show Go p e below Φ T3 (mkF m 14 #[.val (.ref oa), .val (.ref vid), .val (.int cn), .val (.ref la), .val (.int vv), .val (.int vp)] [])
  refine Go.of (fun t k => XS.aloadN X3.here hx rfl (hb hby own_d6_14) rfl rfl  k) ?_
  show Go p e below Φ T3 (mkF m 15 #[.val (.ref oa), .val (.ref vid), .val (.int cn), .val (.ref la), .val (.int vv), .val (.int vp)] [(.ref oa)])
  refine Go.of (fun t k => XS.aloadN X3.here hx rfl (hb hby own_d6_15) rfl rfl  k) ?_
  show Go p e below Φ T3 (mkF m 16 #[.val (.ref oa), .val (.ref vid), .val (.int cn), .val (.ref la), .val (.int vv), .val (.int vp)] [(.ref la), (.ref oa)])
  obtain ⟨T4, h4, X4, e4, W4, st4⟩ := putF X3 hx hZ hown (host := "") (Or.inl (hw _ (List.mem_of_getElem? (i := 46) rfl))) Via.refl e3 F_oa_line E_oa (Or.inr ⟨(hw _ (List.mem_of_getElem? (i := 47) rfl)), rfl, hnm⟩) (hw _ (List.mem_of_getElem? (i := 31) rfl)) (ty := (.object "java/lang/String")) (by decide) rfl rfl (g := (mkF m 16 #[.val (.ref oa), .val (.ref vid), .val (.int cn), .val (.ref la), .val (.int vv), .val (.int vp)] [(.ref la), (.ref oa)])) rfl rfl (hb hby own_d6_16)
  have N4 := Fr.snoc X4 N3 g_oa
  have F_oa_line := F_oa_line.same W4
  have F_oa_id := F_oa_id.other W4 (Or.inr (slot_ne (Or.inr (hw _ (List.mem_of_getElem? (i := 43) rfl))) (Or.inr (hw _ (List.mem_of_getElem? (i := 47) rfl))) (by decide) (t := (.object "java/lang/String")) (t' := (.object "java/lang/String")) (by decide) (by decide)))
  have F_oa_count := F_oa_count.other W4 (Or.inr (slot_ne (Or.inr (hw _ (List.mem_of_getElem? (i := 45) rfl))) (Or.inr (hw _ (List.mem_of_getElem? (i := 47) rfl))) (by decide) (t := .int) (t' := (.object "java/lang/String")) (by decide) (by decide)))
  have F_oa_value := F_oa_value.other W4 (Or.inr (slot_ne (Or.inr (hw _ (List.mem_of_getElem? (i := 49) rfl))) (Or.inr (hw _ (List.mem_of_getElem? (i := 47) rfl))) (by decide) (t := .int) (t' := (.object "java/lang/String")) (by decide) (by decide)))
  have F_oa_points := F_oa_points.other W4 (Or.inr (slot_ne (Or.inr (hw _ (List.mem_of_getElem? (i := 51) rfl))) (Or.inr (hw _ (List.mem_of_getElem? (i := 47) rfl))) (by decide) (t := .int) (t' := (.object "java/lang/String")) (by decide) (by decide)))
  have E_oa := E_oa.wr W4
  have K4 : Keep h0 h4 [oa] := K3.wr W4 (Or.inl (List.mem_of_getElem? (i := 0) rfl))
  have Z4 := Nat.le_trans Z3 (Keep.of_wr W4).1
  obtain ⟨lc4, X4, N4⟩ : ∃ lc, Stand p l e ({ frames := 2, cells := 0, slots := 0, locals := 24 } : Room) s m #[(.ref oa), (.ref vid), (.int cn), (.ref la), (.int vv), (.int vp)] below meth c T4 lc 0 0 ∧ Fr n0 lc := ⟨_, X4, N4⟩
  refine Go.of st4 ?_
  show Go p e below Φ T4 (mkF m 19 #[.val (.ref oa), .val (.ref vid), .val (.int cn), .val (.ref la), .val (.int vv), .val (.int vp)] [])
  refine Go.of (fun t k => XS.aloadN X4.here hx rfl (hb hby own_d6_19) rfl rfl  k) ?_
  show Go p e below Φ T4 (mkF m 20 #[.val (.ref oa), .val (.ref vid), .val (.int cn), .val (.ref la), .val (.int vv), .val (.int vp)] [(.ref oa)])
  refine Go.of (fun t k => XS.iload X4.here hx rfl (hb hby own_d6_20) rfl  k) ?_
  show Go p e below Φ T4 (mkF m 22 #[.val (.ref oa), .val (.ref vid), .val (.int cn), .val (.ref la), .val (.int vv), .val (.int vp)] [(.int vv), (.ref oa)])
  obtain ⟨T5, h5, X5, e5, W5, st5⟩ := putF X4 hx hZ hown (host := "") (Or.inl (hw _ (List.mem_of_getElem? (i := 48) rfl))) Via.refl e4 F_oa_value E_oa (Or.inr ⟨(hw _ (List.mem_of_getElem? (i := 49) rfl)), rfl, hnm⟩) (hw _ (List.mem_of_getElem? (i := 31) rfl)) (ty := .int) (by decide) rfl rfl (g := (mkF m 22 #[.val (.ref oa), .val (.ref vid), .val (.int cn), .val (.ref la), .val (.int vv), .val (.int vp)] [(.int vv), (.ref oa)])) rfl rfl (hb hby own_d6_22)
  have N5 := Fr.snoc X5 N4 g_oa
  have F_oa_value := F_oa_value.same W5
  have F_oa_id := F_oa_id.other W5 (Or.inr (slot_ne (Or.inr (hw _ (List.mem_of_getElem? (i := 43) rfl))) (Or.inr (hw _ (List.mem_of_getElem? (i := 49) rfl))) (by decide) (t := (.object "java/lang/String")) (t' := .int) (by decide) (by decide)))
  have F_oa_count := F_oa_count.other W5 (Or.inr (slot_ne (Or.inr (hw _ (List.mem_of_getElem? (i := 45) rfl))) (Or.inr (hw _ (List.mem_of_getElem? (i := 49) rfl))) (by decide) (t := .int) (t' := .int) (by decide) (by decide)))
  have F_oa_line := F_oa_line.other W5 (Or.inr (slot_ne (Or.inr (hw _ (List.mem_of_getElem? (i := 47) rfl))) (Or.inr (hw _ (List.mem_of_getElem? (i := 49) rfl))) (by decide) (t := (.object "java/lang/String")) (t' := .int) (by decide) (by decide)))
  have F_oa_points := F_oa_points.other W5 (Or.inr (slot_ne (Or.inr (hw _ (List.mem_of_getElem? (i := 51) rfl))) (Or.inr (hw _ (List.mem_of_getElem? (i := 49) rfl))) (by decide) (t := .int) (t' := .int) (by decide) (by decide)))
  have E_oa := E_oa.wr W5
  have K5 : Keep h0 h5 [oa] := K4.wr W5 (Or.inl (List.mem_of_getElem? (i := 0) rfl))
  have Z5 := Nat.le_trans Z4 (Keep.of_wr W5).1
  obtain ⟨lc5, X5, N5⟩ : ∃ lc, Stand p l e ({ frames := 2, cells := 0, slots := 0, locals := 24 } : Room) s m #[(.ref oa), (.ref vid), (.int cn), (.ref la), (.int vv), (.int vp)] below meth c T5 lc 0 0 ∧ Fr n0 lc := ⟨_, X5, N5⟩
  refine Go.of st5 ?_
  show Go p e below Φ T5 (mkF m 25 #[.val (.ref oa), .val (.ref vid), .val (.int cn), .val (.ref la), .val (.int vv), .val (.int vp)] [])
  refine Go.of (fun t k => XS.aloadN X5.here hx rfl (hb hby own_d6_25) rfl rfl  k) ?_
  show Go p e below Φ T5 (mkF m 26 #[.val (.ref oa), .val (.ref vid), .val (.int cn), .val (.ref la), .val (.int vv), .val (.int vp)] [(.ref oa)])
  refine Go.of (fun t k => XS.iload X5.here hx rfl (hb hby own_d6_26) rfl  k) ?_
  show Go p e below Φ T5 (mkF m 28 #[.val (.ref oa), .val (.ref vid), .val (.int cn), .val (.ref la), .val (.int vv), .val (.int vp)] [(.int vp), (.ref oa)])
  obtain ⟨T6, h6, X6, e6, W6, st6⟩ := putF X5 hx hZ hown (host := "") (Or.inl (hw _ (List.mem_of_getElem? (i := 50) rfl))) Via.refl e5 F_oa_points E_oa (Or.inr ⟨(hw _ (List.mem_of_getElem? (i := 51) rfl)), rfl, hnm⟩) (hw _ (List.mem_of_getElem? (i := 31) rfl)) (ty := .int) (by decide) rfl rfl (g := (mkF m 28 #[.val (.ref oa), .val (.ref vid), .val (.int cn), .val (.ref la), .val (.int vv), .val (.int vp)] [(.int vp), (.ref oa)])) rfl rfl (hb hby own_d6_28)
  have N6 := Fr.snoc X6 N5 g_oa
  have F_oa_points := F_oa_points.same W6
  have F_oa_id := F_oa_id.other W6 (Or.inr (slot_ne (Or.inr (hw _ (List.mem_of_getElem? (i := 43) rfl))) (Or.inr (hw _ (List.mem_of_getElem? (i := 51) rfl))) (by decide) (t := (.object "java/lang/String")) (t' := .int) (by decide) (by decide)))
  have F_oa_count := F_oa_count.other W6 (Or.inr (slot_ne (Or.inr (hw _ (List.mem_of_getElem? (i := 45) rfl))) (Or.inr (hw _ (List.mem_of_getElem? (i := 51) rfl))) (by decide) (t := .int) (t' := .int) (by decide) (by decide)))
  have F_oa_line := F_oa_line.other W6 (Or.inr (slot_ne (Or.inr (hw _ (List.mem_of_getElem? (i := 47) rfl))) (Or.inr (hw _ (List.mem_of_getElem? (i := 51) rfl))) (by decide) (t := (.object "java/lang/String")) (t' := .int) (by decide) (by decide)))
  have F_oa_value := F_oa_value.other W6 (Or.inr (slot_ne (Or.inr (hw _ (List.mem_of_getElem? (i := 49) rfl))) (Or.inr (hw _ (List.mem_of_getElem? (i := 51) rfl))) (by decide) (t := .int) (t' := .int) (by decide) (by decide)))
  have E_oa := E_oa.wr W6
  have K6 : Keep h0 h6 [oa] := K5.wr W6 (Or.inl (List.mem_of_getElem? (i := 0) rfl))
  have Z6 := Nat.le_trans Z5 (Keep.of_wr W6).1
  obtain ⟨lc6, X6, N6⟩ : ∃ lc, Stand p l e ({ frames := 2, cells := 0, slots := 0, locals := 24 } : Room) s m #[(.ref oa), (.ref vid), (.int cn), (.ref la), (.int vv), (.int vp)] below meth c T6 lc 0 0 ∧ Fr n0 lc := ⟨_, X6, N6⟩
  refine Go.of st6 ?_
  show Go p e below Φ T6 (mkF m 31 #[.val (.ref oa), .val (.ref vid), .val (.int cn), .val (.ref la), .val (.int vv), .val (.int vp)] [])
  rw [hΦ]
  refine Go.retV X6 hx Bd.notSynchronized Bd.returns (hb hby own_d6_31) (by decide) (by decide) ?_
  rw [e6]
  exact ⟨rfl, N6, K6, F_oa_line⟩
theorem own_ef8n (m : MethodId) (oa : Addr) : entryFrame m #[(.ref oa)] 1 = mkF m 0 #[.val (.ref oa)] [] := by first | (simp [entryFrame, mkF, argsToLocals, Value.category]; done) | rfl
def Q8n (Z : State) (oa : Addr) (h0 : Heap) (n0 : Nat) (vr : Option Value) (hr : Heap) (Lr : List Loc) : Prop := vr = some (.int (1 : Int32)) ∧ Fr n0 Lr ∧ hr = h0
set_option maxRecDepth 65536 in
set_option maxHeartbeats 40000000 in
theorem rm8n (l : Launch) (Z : State) (a0 : Array Value) (hw : ∀ d ∈ tables_1, d.before a0 Z = true) (ws : List Jvm.Cond) (oa : Addr) (h0 : Heap) (n0 : Nat) (Z0 : n0 ≤ h0.size) (F_oa_line : Fld Z h0 oa "com/example/signalbox/signalbox/tramlines/Card" "line" "Ljava/lang/String;" .null) :
    MetFree l (⟨"com/example/signalbox/signalbox/tramlines/Card", "isConductor", "()Z"⟩ : MethodName) (head1 (Jvm.Cond.code (⟨"com/example/signalbox/signalbox/tramlines/Card", "isConductor", "()Z"⟩ : MethodName) prog_28_method_2_code 1 (some .boolean) :: ws) ({ frames := 0, cells := 0, slots := 0, locals := 0 } : Room)) (fun aQ UQ => aQ = #[(.ref oa)] ∧ Z.Warmed39 UQ.vm ∧ UQ.heap = h0) (fun _ _ _ _ _ => True) (fun _ UQ oQ VQ => ∃ vQ LQ, oQ = .returned vQ ∧ Q8n Z oa h0 n0 vQ VQ.heap LQ ∧ FrameEnd UQ oQ VQ LQ ({ frames := 0, cells := 0, slots := 0, locals := 0 } : Room).cells ({ frames := 0, cells := 0, slots := 0, locals := 0 } : Room).slots) := by
  refine MetFree.of_bodySF (plainFor_of_name own_pn5) hisR ?_
  intro p e s m args below meth c s₁ Bd hml0 hP hK
  obtain ⟨rfl, hZ, hh⟩ := hP
  have hx := Bd.exec
  have hby := Bd.bytes
  have hml : c.maxLocals = 1 := hml0
  have hown : s.vm.findClass "com/example/signalbox/signalbox/tramlines/Card" = some m.cls := findClass_of_methodNamed Bd.named
  have hnm := (name_of_methodNamed Bd.named Bd.method).1
  have X0 : Stand p l e ({ frames := 0, cells := 0, slots := 0, locals := 0 } : Room) s m #[(.ref oa)] below meth c s₁ [] 0 0 := Stand.of_body Bd
  have e0 : s₁.heap = h0 := by rw [← hh, Bd.state]; rfl
  have N0 := Fr.nil n0
  show Go p e below (EndQ s below (Q8n Z oa h0 n0) ({ frames := 0, cells := 0, slots := 0, locals := 0 } : Room).cells ({ frames := 0, cells := 0, slots := 0, locals := 0 } : Room).slots) s₁ (entryFrame m #[(.ref oa)] 1)
  obtain ⟨Φ, hΦ⟩ : ∃ Φ, Φ = EndQ s below (Q8n Z oa h0 n0) ({ frames := 0, cells := 0, slots := 0, locals := 0 } : Room).cells ({ frames := 0, cells := 0, slots := 0, locals := 0 } : Room).slots := ⟨_, rfl⟩
  rw [← hΦ, own_ef8n]
  show Go p e below Φ s₁ (mkF m 0 #[.val (.ref oa)] [])
  refine Go.of (fun t k => XS.aloadN X0.here hx rfl (hb hby own_d8_0) rfl rfl  k) ?_
  show Go p e below Φ s₁ (mkF m 1 #[.val (.ref oa)] [(.ref oa)])
  obtain ⟨T1, X1, e1, st1⟩ := getF X0 hx hZ hown (host := "") (Or.inl (hw _ (List.mem_of_getElem? (i := 46) rfl))) Via.refl e0 F_oa_line (g := (mkF m 1 #[.val (.ref oa)] [(.ref oa)])) rfl rfl (hb hby own_d8_1)
  refine Go.of st1 ?_
  show Go p e below Φ T1 (mkF m 4 #[.val (.ref oa)] [.null])
  refine Go.of (fun t k => XS.ifnonnullNo X1.here hx rfl (hb hby own_d8_4) rfl k) ?_
  show Go p e below Φ T1 (mkF m 7 #[.val (.ref oa)] [])
  refine Go.of (fun t k => XS.iconst X1.here hx rfl (hb hby own_d8_7) k) ?_
  show Go p e below Φ T1 (mkF m 8 #[.val (.ref oa)] [(.int (1 : Int32))])
  refine Go.of (fun t k => XS.goto X1.here hx rfl (pc0 := 8) (pc' := 12) rfl (hb hby own_d8_8) (by decide) (by decide) k) ?_
  show Go p e below Φ T1 (mkF m 12 #[.val (.ref oa)] [(.int (1 : Int32))])
  rw [hΦ]
  refine Go.ret X1 hx Bd.notSynchronized Bd.returns rfl (Or.inl ⟨rfl, Or.inr (Or.inl rfl), _, rfl⟩) (hb hby own_d8_12) (by decide) (by decide) ?_
  rw [e1]
  exact ⟨rfl, N0, rfl⟩
theorem own_ef8r (m : MethodId) (oa : Addr) : entryFrame m #[(.ref oa)] 1 = mkF m 0 #[.val (.ref oa)] [] := by first | (simp [entryFrame, mkF, argsToLocals, Value.category]; done) | rfl
def Q8r (Z : State) (oa : Addr) (la : Addr) (h0 : Heap) (n0 : Nat) (vr : Option Value) (hr : Heap) (Lr : List Loc) : Prop := vr = some (.int (0 : Int32)) ∧ Fr n0 Lr ∧ hr = h0
set_option maxRecDepth 65536 in
set_option maxHeartbeats 40000000 in
theorem rm8r (l : Launch) (Z : State) (a0 : Array Value) (hw : ∀ d ∈ tables_1, d.before a0 Z = true) (ws : List Jvm.Cond) (oa : Addr) (la : Addr) (h0 : Heap) (n0 : Nat) (Z0 : n0 ≤ h0.size) (F_oa_line : Fld Z h0 oa "com/example/signalbox/signalbox/tramlines/Card" "line" "Ljava/lang/String;" (.ref la)) :
    MetFree l (⟨"com/example/signalbox/signalbox/tramlines/Card", "isConductor", "()Z"⟩ : MethodName) (head1 (Jvm.Cond.code (⟨"com/example/signalbox/signalbox/tramlines/Card", "isConductor", "()Z"⟩ : MethodName) prog_28_method_2_code 1 (some .boolean) :: ws) ({ frames := 0, cells := 0, slots := 0, locals := 0 } : Room)) (fun aQ UQ => aQ = #[(.ref oa)] ∧ Z.Warmed39 UQ.vm ∧ UQ.heap = h0) (fun _ _ _ _ _ => True) (fun _ UQ oQ VQ => ∃ vQ LQ, oQ = .returned vQ ∧ Q8r Z oa la h0 n0 vQ VQ.heap LQ ∧ FrameEnd UQ oQ VQ LQ ({ frames := 0, cells := 0, slots := 0, locals := 0 } : Room).cells ({ frames := 0, cells := 0, slots := 0, locals := 0 } : Room).slots) := by
  refine MetFree.of_bodySF (plainFor_of_name own_pn5) hisR ?_
  intro p e s m args below meth c s₁ Bd hml0 hP hK
  obtain ⟨rfl, hZ, hh⟩ := hP
  have hx := Bd.exec
  have hby := Bd.bytes
  have hml : c.maxLocals = 1 := hml0
  have hown : s.vm.findClass "com/example/signalbox/signalbox/tramlines/Card" = some m.cls := findClass_of_methodNamed Bd.named
  have hnm := (name_of_methodNamed Bd.named Bd.method).1
  have X0 : Stand p l e ({ frames := 0, cells := 0, slots := 0, locals := 0 } : Room) s m #[(.ref oa)] below meth c s₁ [] 0 0 := Stand.of_body Bd
  have e0 : s₁.heap = h0 := by rw [← hh, Bd.state]; rfl
  have N0 := Fr.nil n0
  show Go p e below (EndQ s below (Q8r Z oa la h0 n0) ({ frames := 0, cells := 0, slots := 0, locals := 0 } : Room).cells ({ frames := 0, cells := 0, slots := 0, locals := 0 } : Room).slots) s₁ (entryFrame m #[(.ref oa)] 1)
  obtain ⟨Φ, hΦ⟩ : ∃ Φ, Φ = EndQ s below (Q8r Z oa la h0 n0) ({ frames := 0, cells := 0, slots := 0, locals := 0 } : Room).cells ({ frames := 0, cells := 0, slots := 0, locals := 0 } : Room).slots := ⟨_, rfl⟩
  rw [← hΦ, own_ef8r]
  show Go p e below Φ s₁ (mkF m 0 #[.val (.ref oa)] [])
  refine Go.of (fun t k => XS.aloadN X0.here hx rfl (hb hby own_d8_0) rfl rfl  k) ?_
  show Go p e below Φ s₁ (mkF m 1 #[.val (.ref oa)] [(.ref oa)])
  obtain ⟨T1, X1, e1, st1⟩ := getF X0 hx hZ hown (host := "") (Or.inl (hw _ (List.mem_of_getElem? (i := 46) rfl))) Via.refl e0 F_oa_line (g := (mkF m 1 #[.val (.ref oa)] [(.ref oa)])) rfl rfl (hb hby own_d8_1)
  refine Go.of st1 ?_
  show Go p e below Φ T1 (mkF m 4 #[.val (.ref oa)] [(.ref la)])
  refine Go.of (fun t k => XS.ifnonnullYes X1.here hx rfl (pc0 := 4) (pc' := 11) rfl (hb hby own_d8_4) rfl (by decide) (by decide) k) ?_
  show Go p e below Φ T1 (mkF m 11 #[.val (.ref oa)] [])
  refine Go.of (fun t k => XS.iconst X1.here hx rfl (hb hby own_d8_11) k) ?_
  show Go p e below Φ T1 (mkF m 12 #[.val (.ref oa)] [(.int (0 : Int32))])
  rw [hΦ]
  refine Go.ret X1 hx Bd.notSynchronized Bd.returns rfl (Or.inl ⟨rfl, Or.inr (Or.inl rfl), _, rfl⟩) (hb hby own_d8_12) (by decide) (by decide) ?_
  rw [e1]
  exact ⟨rfl, N0, rfl⟩
theorem own_ef0 (m : MethodId) (i0 : Int32) (i1 : Int32) (i2 : Int32) (i3 : Int32) (i4 : Int32) (i5 : Int32) : entryFrame m #[(.int i0), (.int i1), (.int i2), (.int i3), (.int i4), (.int i5)] maxLocals = mkF m 0 #[.val (.int i0), .val (.int i1), .val (.int i2), .val (.int i3), .val (.int i4), .val (.int i5), .unset, .unset, .unset, .unset, .unset, .unset] [] := by first | (simp [entryFrame, mkF, argsToLocals, Value.category, maxLocals]; done) | rfl
def Q0 (Z : State) (i0 : Int32) (i1 : Int32) (i2 : Int32) (i3 : Int32) (i4 : Int32) (i5 : Int32) (w : Int32) (h0 : Heap) (n0 : Nat) (vr : Option Value) (hr : Heap) (Lr : List Loc) : Prop := vr = some (.int 1) ∧ Fr n0 Lr
set_option maxRecDepth 65536 in
set_option maxHeartbeats 40000000 in
theorem rm0 (l : Launch) (Z : State) (a0 : Array Value) (hw : ∀ d ∈ tables_1, d.before a0 Z = true) (ws : List Jvm.Cond) (i0 : Int32) (i1 : Int32) (i2 : Int32) (i3 : Int32) (i4 : Int32) (i5 : Int32) (w : Int32) (h0 : Heap) (n0 : Nat) (Z0 : n0 ≤ h0.size) (O0 : Old Z n0 h0) (S_COMPACT_STRINGS : Sta Z Z.heap "java/lang/String" "COMPACT_STRINGS" "Z" (.int w)) (hw0 : ¬ (w = (0 : Int32))) :
    MetFree l x (head1 (Jvm.Cond.code x code maxLocals ret :: ws) room_1) (fun aQ UQ => aQ = #[(.int i0), (.int i1), (.int i2), (.int i3), (.int i4), (.int i5)] ∧ Z.Warmed39 UQ.vm ∧ UQ.heap = h0 ∧ CHv Z [("java/lang/String", 7)] UQ.vm h0) (fun _ _ _ _ _ => True) (fun _ UQ oQ VQ => ∃ vQ LQ, oQ = .returned vQ ∧ Q0 Z i0 i1 i2 i3 i4 i5 w h0 n0 vQ VQ.heap LQ ∧ CHr Z [("java/lang/String", 7)] UQ.vm UQ.heap VQ.vm VQ.heap ∧ ReturnedEndW UQ oQ VQ LQ 32 2176) := by
  refine MetFree.of_bodySF (plainFor_of_name own_pn3) hisR ?_
  intro p e s m args below meth c s₁ Bd hml0 hP hK
  obtain ⟨rfl, hZ, hh, hCH⟩ := hP
  have hEL := own_EL hw
  have hS0 := own_since s
  have hk0 : s.heap.size ≤ h0.size := Nat.le_of_eq (by rw [hh])
  have hR0 := CHr.refl hCH
  have hx := Bd.exec
  have hby := Bd.bytes
  have hml : c.maxLocals = 12 := hml0
  have hown : s.vm.findClass "com/example/signalbox/signalbox/tramlines/CardIsConductorPinLaw" = some m.cls := findClass_of_methodNamed Bd.named
  have hnm := (name_of_methodNamed Bd.named Bd.method).1
  have X0 : Stand p l e room_1 (s.setVm s.vm) m #[(.int i0), (.int i1), (.int i2), (.int i3), (.int i4), (.int i5)] below meth c s₁ [] 0 0 := Stand.of_body Bd
  have e0 : s₁.heap = h0 := by rw [← hh, Bd.state]; rfl
  have N0 := Fr.nil n0
  show Go p e below (EndW Z [("java/lang/String", 7)] s below (Q0 Z i0 i1 i2 i3 i4 i5 w h0 n0) 32 2176) s₁ (entryFrame m #[(.int i0), (.int i1), (.int i2), (.int i3), (.int i4), (.int i5)] maxLocals)
  obtain ⟨Φ, hΦ⟩ : ∃ Φ, Φ = EndW Z [("java/lang/String", 7)] s below (Q0 Z i0 i1 i2 i3 i4 i5 w h0 n0) 32 2176 := ⟨_, rfl⟩
  rw [← hΦ, own_ef0]
  show Go p e below Φ s₁ (mkF m 0 #[.val (.int i0), .val (.int i1), .val (.int i2), .val (.int i3), .val (.int i4), .val (.int i5), .unset, .unset, .unset, .unset, .unset, .unset] [])
  refine Go.of (fun t k => XS.iloadN X0.here hx rfl (hb hby at_0) rfl  k) ?_
  show Go p e below Φ s₁ (mkF m 1 #[.val (.int i0), .val (.int i1), .val (.int i2), .val (.int i3), .val (.int i4), .val (.int i5), .unset, .unset, .unset, .unset, .unset, .unset] [(.int i0)])
  refine Go.of (fun t k => XS.iconst X0.here hx rfl (hb hby at_1) k) ?_
  show Go p e below Φ s₁ (mkF m 2 #[.val (.int i0), .val (.int i1), .val (.int i2), .val (.int i3), .val (.int i4), .val (.int i5), .unset, .unset, .unset, .unset, .unset, .unset] [(.int (1 : Int32)), (.int i0)])
  refine Go.of (fun t k => XS.iand X0.here hx rfl (hb hby at_2) rfl k) ?_
  show Go p e below Φ s₁ (mkF m 3 #[.val (.int i0), .val (.int i1), .val (.int i2), .val (.int i3), .val (.int i4), .val (.int i5), .unset, .unset, .unset, .unset, .unset, .unset] [(.int (i0 &&& (1 : Int32)))])
  by_cases hc3 : (i0 &&& (1 : Int32)) = (0 : Int32)
  · refine Go.of (fun t k => XS.ifYes X0.here hx rfl (pc0 := 3) (pc' := 10) rfl (hb hby at_3) rfl (XT.i0_eq_t hc3) (by decide) (by decide) k) ?_
    show Go p e below Φ s₁ (mkF m 10 #[.val (.int i0), .val (.int i1), .val (.int i2), .val (.int i3), .val (.int i4), .val (.int i5), .unset, .unset, .unset, .unset, .unset, .unset] [])
    refine Go.of (fun t k => XS.iconst X0.here hx rfl (hb hby at_10) k) ?_
    show Go p e below Φ s₁ (mkF m 11 #[.val (.int i0), .val (.int i1), .val (.int i2), .val (.int i3), .val (.int i4), .val (.int i5), .unset, .unset, .unset, .unset, .unset, .unset] [(.int (0 : Int32))])
    refine Go.of (fun t k => XS.istore X0.here hx rfl (hb hby at_11) rfl (l' := #[.val (.int i0), .val (.int i1), .val (.int i2), .val (.int i3), .val (.int i4), .val (.int i5), .val (.int (0 : Int32)), .unset, .unset, .unset, .unset, .unset]) rfl k) ?_
    show Go p e below Φ s₁ (mkF m 13 #[.val (.int i0), .val (.int i1), .val (.int i2), .val (.int i3), .val (.int i4), .val (.int i5), .val (.int (0 : Int32)), .unset, .unset, .unset, .unset, .unset] [])
    refine Go.of (fun t k => XS.iloadN X0.here hx rfl (hb hby at_13) rfl  k) ?_
    show Go p e below Φ s₁ (mkF m 14 #[.val (.int i0), .val (.int i1), .val (.int i2), .val (.int i3), .val (.int i4), .val (.int i5), .val (.int (0 : Int32)), .unset, .unset, .unset, .unset, .unset] [(.int i0)])
    refine Go.of (fun t k => XS.iconst X0.here hx rfl (hb hby at_14) k) ?_
    show Go p e below Φ s₁ (mkF m 15 #[.val (.int i0), .val (.int i1), .val (.int i2), .val (.int i3), .val (.int i4), .val (.int i5), .val (.int (0 : Int32)), .unset, .unset, .unset, .unset, .unset] [(.int (1 : Int32)), (.int i0)])
    refine Go.of (fun t k => XS.iushr X0.here hx rfl (hb hby at_15) rfl k) ?_
    show Go p e below Φ s₁ (mkF m 16 #[.val (.int i0), .val (.int i1), .val (.int i2), .val (.int i3), .val (.int i4), .val (.int i5), .val (.int (0 : Int32)), .unset, .unset, .unset, .unset, .unset] [(.int (own_ushr i0 (1 : Int32)))])
    refine Go.of (fun t k => XS.iconst X0.here hx rfl (hb hby at_16) k) ?_
    show Go p e below Φ s₁ (mkF m 17 #[.val (.int i0), .val (.int i1), .val (.int i2), .val (.int i3), .val (.int i4), .val (.int i5), .val (.int (0 : Int32)), .unset, .unset, .unset, .unset, .unset] [(.int (3 : Int32)), (.int (own_ushr i0 (1 : Int32)))])
    refine Go.of (fun t k => XS.iand X0.here hx rfl (hb hby at_17) rfl k) ?_
    show Go p e below Φ s₁ (mkF m 18 #[.val (.int i0), .val (.int i1), .val (.int i2), .val (.int i3), .val (.int i4), .val (.int i5), .val (.int (0 : Int32)), .unset, .unset, .unset, .unset, .unset] [(.int ((own_ushr i0 (1 : Int32)) &&& (3 : Int32)))])
    refine Go.of (fun t k => XS.iconst X0.here hx rfl (hb hby at_18) k) ?_
    show Go p e below Φ s₁ (mkF m 19 #[.val (.int i0), .val (.int i1), .val (.int i2), .val (.int i3), .val (.int i4), .val (.int i5), .val (.int (0 : Int32)), .unset, .unset, .unset, .unset, .unset] [(.int (2 : Int32)), (.int ((own_ushr i0 (1 : Int32)) &&& (3 : Int32)))])
    obtain ⟨_, _, ⟨T1, L1, k1, n1⟩, -, X1, ⟨Lc1, hQ1, l1, y1, z1⟩, st1⟩ := Jvm.LawKit.callS X0 hx (y := (⟨"java/lang/Math", "min", "(II)I"⟩ : MethodName)) hown (mvT hZ (hw _ (List.mem_of_getElem? (i := 0) rfl))) (mvT hZ (hw _ (List.mem_of_getElem? (i := 1) rfl))) (mvT hZ (hw _ (List.mem_of_getElem? (i := 2) rfl))) (mvT hZ (hw _ (List.mem_of_getElem? (i := 3) rfl))) (by decide) (backOf (W := 0) (rm1 l Z a0 hw [] ((own_ushr i0 (1 : Int32)) &&& (3 : Int32)) (2 : Int32) h0 n0 Z0) hZ (hw _ (List.mem_of_getElem? (i := 3) rfl)) (hw _ (List.mem_of_getElem? (i := 2) rfl)) (by decide) (by decide)) (g := (mkF m 19 #[.val (.int i0), .val (.int i1), .val (.int i2), .val (.int i3), .val (.int i4), .val (.int i5), .val (.int (0 : Int32)), .unset, .unset, .unset, .unset, .unset] [(.int (2 : Int32)), (.int ((own_ushr i0 (1 : Int32)) &&& (3 : Int32)))])) rfl (by rw [hml]; rfl) (argsL := [(.int ((own_ushr i0 (1 : Int32)) &&& (3 : Int32))), (.int (2 : Int32))]) (rest := []) (lenOf own_pd10 rfl) rfl (by show 2 * 0 + _ ≤ _; exact Nat.le_of_eq rfl) (hb hby at_19) (fun _ _ => ⟨rfl, e0, (by decide : 0 + 0 ≤ _), (by decide : 0 + 0 ≤ _)⟩)
    dsimp only [Pt.U, Pt.locs, Pt.cells, Pt.slots] at X1 l1 y1 z1 st1 hQ1
    subst l1 y1 z1
    obtain ⟨rfl, N1q, e1q⟩ := hQ1
    have N1 := Fr.app N0 N1q
    obtain ⟨lc1, X1, N1⟩ : ∃ lc, Stand p l e room_1 (s.setVm s.vm) m #[(.int i0), (.int i1), (.int i2), (.int i3), (.int i4), (.int i5)] below meth c T1 lc 0 0 ∧ Fr n0 lc := ⟨_, X1, N1⟩
    refine Go.of st1 ?_
    show Go p e below Φ T1 (mkF m 22 #[.val (.int i0), .val (.int i1), .val (.int i2), .val (.int i3), .val (.int i4), .val (.int i5), .val (.int (0 : Int32)), .unset, .unset, .unset, .unset, .unset] [(.int (own_min ((own_ushr i0 (1 : Int32)) &&& (3 : Int32)) (2 : Int32)))])
    refine Go.of (fun t k => XS.istore X1.here hx rfl (hb hby at_22) rfl (l' := #[.val (.int i0), .val (.int i1), .val (.int i2), .val (.int i3), .val (.int i4), .val (.int i5), .val (.int (0 : Int32)), .val (.int (own_min ((own_ushr i0 (1 : Int32)) &&& (3 : Int32)) (2 : Int32))), .unset, .unset, .unset, .unset]) rfl k) ?_
    show Go p e below Φ T1 (mkF m 24 #[.val (.int i0), .val (.int i1), .val (.int i2), .val (.int i3), .val (.int i4), .val (.int i5), .val (.int (0 : Int32)), .val (.int (own_min ((own_ushr i0 (1 : Int32)) &&& (3 : Int32)) (2 : Int32))), .unset, .unset, .unset, .unset] [])
    refine Go.of (fun t k => XS.iloadN X1.here hx rfl (hb hby at_24) rfl  k) ?_
    show Go p e below Φ T1 (mkF m 25 #[.val (.int i0), .val (.int i1), .val (.int i2), .val (.int i3), .val (.int i4), .val (.int i5), .val (.int (0 : Int32)), .val (.int (own_min ((own_ushr i0 (1 : Int32)) &&& (3 : Int32)) (2 : Int32))), .unset, .unset, .unset, .unset] [(.int i0)])
    refine Go.of (fun t k => XS.iconst X1.here hx rfl (hb hby at_25) k) ?_
    show Go p e below Φ T1 (mkF m 26 #[.val (.int i0), .val (.int i1), .val (.int i2), .val (.int i3), .val (.int i4), .val (.int i5), .val (.int (0 : Int32)), .val (.int (own_min ((own_ushr i0 (1 : Int32)) &&& (3 : Int32)) (2 : Int32))), .unset, .unset, .unset, .unset] [(.int (4 : Int32)), (.int i0)])
    refine Go.of (fun t k => XS.iushr X1.here hx rfl (hb hby at_26) rfl k) ?_
    show Go p e below Φ T1 (mkF m 27 #[.val (.int i0), .val (.int i1), .val (.int i2), .val (.int i3), .val (.int i4), .val (.int i5), .val (.int (0 : Int32)), .val (.int (own_min ((own_ushr i0 (1 : Int32)) &&& (3 : Int32)) (2 : Int32))), .unset, .unset, .unset, .unset] [(.int (own_ushr i0 (4 : Int32)))])
    refine Go.of (fun t k => XS.iconst X1.here hx rfl (hb hby at_27) k) ?_
    show Go p e below Φ T1 (mkF m 28 #[.val (.int i0), .val (.int i1), .val (.int i2), .val (.int i3), .val (.int i4), .val (.int i5), .val (.int (0 : Int32)), .val (.int (own_min ((own_ushr i0 (1 : Int32)) &&& (3 : Int32)) (2 : Int32))), .unset, .unset, .unset, .unset] [(.int (3 : Int32)), (.int (own_ushr i0 (4 : Int32)))])
    refine Go.of (fun t k => XS.iand X1.here hx rfl (hb hby at_28) rfl k) ?_
    show Go p e below Φ T1 (mkF m 29 #[.val (.int i0), .val (.int i1), .val (.int i2), .val (.int i3), .val (.int i4), .val (.int i5), .val (.int (0 : Int32)), .val (.int (own_min ((own_ushr i0 (1 : Int32)) &&& (3 : Int32)) (2 : Int32))), .unset, .unset, .unset, .unset] [(.int ((own_ushr i0 (4 : Int32)) &&& (3 : Int32)))])
    refine Go.of (fun t k => XS.iconst X1.here hx rfl (hb hby at_29) k) ?_
    show Go p e below Φ T1 (mkF m 30 #[.val (.int i0), .val (.int i1), .val (.int i2), .val (.int i3), .val (.int i4), .val (.int i5), .val (.int (0 : Int32)), .val (.int (own_min ((own_ushr i0 (1 : Int32)) &&& (3 : Int32)) (2 : Int32))), .unset, .unset, .unset, .unset] [(.int (2 : Int32)), (.int ((own_ushr i0 (4 : Int32)) &&& (3 : Int32)))])
    obtain ⟨_, _, ⟨T2, L2, k2, n2⟩, -, X2, ⟨Lc2, hQ2, l2, y2, z2⟩, st2⟩ := Jvm.LawKit.callS X1 hx (y := (⟨"java/lang/Math", "min", "(II)I"⟩ : MethodName)) hown (mvT hZ (hw _ (List.mem_of_getElem? (i := 0) rfl))) (mvT hZ (hw _ (List.mem_of_getElem? (i := 1) rfl))) (mvT hZ (hw _ (List.mem_of_getElem? (i := 2) rfl))) (mvT hZ (hw _ (List.mem_of_getElem? (i := 3) rfl))) (by decide) (backOf (W := 0) (rm1 l Z a0 hw [] ((own_ushr i0 (4 : Int32)) &&& (3 : Int32)) (2 : Int32) h0 n0 Z0) hZ (hw _ (List.mem_of_getElem? (i := 3) rfl)) (hw _ (List.mem_of_getElem? (i := 2) rfl)) (by decide) (by decide)) (g := (mkF m 30 #[.val (.int i0), .val (.int i1), .val (.int i2), .val (.int i3), .val (.int i4), .val (.int i5), .val (.int (0 : Int32)), .val (.int (own_min ((own_ushr i0 (1 : Int32)) &&& (3 : Int32)) (2 : Int32))), .unset, .unset, .unset, .unset] [(.int (2 : Int32)), (.int ((own_ushr i0 (4 : Int32)) &&& (3 : Int32)))])) rfl (by rw [hml]; rfl) (argsL := [(.int ((own_ushr i0 (4 : Int32)) &&& (3 : Int32))), (.int (2 : Int32))]) (rest := []) (lenOf own_pd10 rfl) rfl (by show 2 * 0 + _ ≤ _; exact Nat.le_of_eq rfl) (hb hby at_30) (fun _ _ => ⟨rfl, (e1q), (by decide : 0 + 0 ≤ _), (by decide : 0 + 0 ≤ _)⟩)
    dsimp only [Pt.U, Pt.locs, Pt.cells, Pt.slots] at X2 l2 y2 z2 st2 hQ2
    subst l2 y2 z2
    obtain ⟨rfl, N2q, e2q⟩ := hQ2
    have N2 := Fr.app N1 N2q
    obtain ⟨lc2, X2, N2⟩ : ∃ lc, Stand p l e room_1 (s.setVm s.vm) m #[(.int i0), (.int i1), (.int i2), (.int i3), (.int i4), (.int i5)] below meth c T2 lc 0 0 ∧ Fr n0 lc := ⟨_, X2, N2⟩
    refine Go.of st2 ?_
    show Go p e below Φ T2 (mkF m 33 #[.val (.int i0), .val (.int i1), .val (.int i2), .val (.int i3), .val (.int i4), .val (.int i5), .val (.int (0 : Int32)), .val (.int (own_min ((own_ushr i0 (1 : Int32)) &&& (3 : Int32)) (2 : Int32))), .unset, .unset, .unset, .unset] [(.int (own_min ((own_ushr i0 (4 : Int32)) &&& (3 : Int32)) (2 : Int32)))])
    refine Go.of (fun t k => XS.istore X2.here hx rfl (hb hby at_33) rfl (l' := #[.val (.int i0), .val (.int i1), .val (.int i2), .val (.int i3), .val (.int i4), .val (.int i5), .val (.int (0 : Int32)), .val (.int (own_min ((own_ushr i0 (1 : Int32)) &&& (3 : Int32)) (2 : Int32))), .val (.int (own_min ((own_ushr i0 (4 : Int32)) &&& (3 : Int32)) (2 : Int32))), .unset, .unset, .unset]) rfl k) ?_
    show Go p e below Φ T2 (mkF m 35 #[.val (.int i0), .val (.int i1), .val (.int i2), .val (.int i3), .val (.int i4), .val (.int i5), .val (.int (0 : Int32)), .val (.int (own_min ((own_ushr i0 (1 : Int32)) &&& (3 : Int32)) (2 : Int32))), .val (.int (own_min ((own_ushr i0 (4 : Int32)) &&& (3 : Int32)) (2 : Int32))), .unset, .unset, .unset] [])
    refine Go.of (fun t k => XS.iload X2.here hx rfl (hb hby at_35) rfl  k) ?_
    show Go p e below Φ T2 (mkF m 37 #[.val (.int i0), .val (.int i1), .val (.int i2), .val (.int i3), .val (.int i4), .val (.int i5), .val (.int (0 : Int32)), .val (.int (own_min ((own_ushr i0 (1 : Int32)) &&& (3 : Int32)) (2 : Int32))), .val (.int (own_min ((own_ushr i0 (4 : Int32)) &&& (3 : Int32)) (2 : Int32))), .unset, .unset, .unset] [(.int (0 : Int32))])
    refine Go.of (fun t k => XS.ifYes X2.here hx rfl (pc0 := 37) (pc' := 44) rfl (hb hby at_37) rfl (XT.i0_eq_t rfl) (by decide) (by decide) k) ?_
    show Go p e below Φ T2 (mkF m 44 #[.val (.int i0), .val (.int i1), .val (.int i2), .val (.int i3), .val (.int i4), .val (.int i5), .val (.int (0 : Int32)), .val (.int (own_min ((own_ushr i0 (1 : Int32)) &&& (3 : Int32)) (2 : Int32))), .val (.int (own_min ((own_ushr i0 (4 : Int32)) &&& (3 : Int32)) (2 : Int32))), .unset, .unset, .unset] [])
    refine Go.of (fun t k => XS.iload X2.here hx rfl (hb hby at_44) rfl  k) ?_
    show Go p e below Φ T2 (mkF m 46 #[.val (.int i0), .val (.int i1), .val (.int i2), .val (.int i3), .val (.int i4), .val (.int i5), .val (.int (0 : Int32)), .val (.int (own_min ((own_ushr i0 (1 : Int32)) &&& (3 : Int32)) (2 : Int32))), .val (.int (own_min ((own_ushr i0 (4 : Int32)) &&& (3 : Int32)) (2 : Int32))), .unset, .unset, .unset] [(.int (own_min ((own_ushr i0 (1 : Int32)) &&& (3 : Int32)) (2 : Int32)))])
    refine Go.of (fun t k => XS.iloadN X2.here hx rfl (hb hby at_46) rfl  k) ?_
    show Go p e below Φ T2 (mkF m 47 #[.val (.int i0), .val (.int i1), .val (.int i2), .val (.int i3), .val (.int i4), .val (.int i5), .val (.int (0 : Int32)), .val (.int (own_min ((own_ushr i0 (1 : Int32)) &&& (3 : Int32)) (2 : Int32))), .val (.int (own_min ((own_ushr i0 (4 : Int32)) &&& (3 : Int32)) (2 : Int32))), .unset, .unset, .unset] [(.int i1), (.int (own_min ((own_ushr i0 (1 : Int32)) &&& (3 : Int32)) (2 : Int32)))])
    refine Go.of (fun t k => XS.iloadN X2.here hx rfl (hb hby at_47) rfl  k) ?_
    show Go p e below Φ T2 (mkF m 48 #[.val (.int i0), .val (.int i1), .val (.int i2), .val (.int i3), .val (.int i4), .val (.int i5), .val (.int (0 : Int32)), .val (.int (own_min ((own_ushr i0 (1 : Int32)) &&& (3 : Int32)) (2 : Int32))), .val (.int (own_min ((own_ushr i0 (4 : Int32)) &&& (3 : Int32)) (2 : Int32))), .unset, .unset, .unset] [(.int i2), (.int i1), (.int (own_min ((own_ushr i0 (1 : Int32)) &&& (3 : Int32)) (2 : Int32)))])
    obtain ⟨_, _, ⟨T3, L3, k3, n3⟩, -, X3, hS3, hg3, ⟨Lc3, hQ3, l3, y3, z3, A3⟩, st3⟩ := callSS X2 hx (y := (⟨"com/example/signalbox/signalbox/tramlines/CardIsConductorPinLaw", "str", "(III)Ljava/lang/String;"⟩ : MethodName)) hown (mvT hZ (hw _ (List.mem_of_getElem? (i := 4) rfl))) (mvT hZ (hw _ (List.mem_of_getElem? (i := 5) rfl))) (mvT hZ (hw _ (List.mem_of_getElem? (i := 6) rfl))) (mvT hZ (hw _ (List.mem_of_getElem? (i := 7) rfl))) (by decide) (backOfSH (W := 0) (rm2 l Z a0 hw [] (own_min ((own_ushr i0 (1 : Int32)) &&& (3 : Int32)) (2 : Int32)) i1 i2 w h0 n0 Z0 (S_COMPACT_STRINGS.ext O0.2) hw0) hZ (hw _ (List.mem_of_getElem? (i := 7) rfl)) (hw _ (List.mem_of_getElem? (i := 6) rfl)) (by decide) (by decide) hEL hR0.1) (g := (mkF m 48 #[.val (.int i0), .val (.int i1), .val (.int i2), .val (.int i3), .val (.int i4), .val (.int i5), .val (.int (0 : Int32)), .val (.int (own_min ((own_ushr i0 (1 : Int32)) &&& (3 : Int32)) (2 : Int32))), .val (.int (own_min ((own_ushr i0 (4 : Int32)) &&& (3 : Int32)) (2 : Int32))), .unset, .unset, .unset] [(.int i2), (.int i1), (.int (own_min ((own_ushr i0 (1 : Int32)) &&& (3 : Int32)) (2 : Int32)))])) rfl (by rw [hml]; rfl) (argsL := [(.int (own_min ((own_ushr i0 (1 : Int32)) &&& (3 : Int32)) (2 : Int32))), (.int i1), (.int i2)]) (rest := []) (lenOf own_pd11 rfl) rfl (by show 2 * 0 + _ ≤ _; exact Nat.le_of_eq rfl) (hb hby at_48) (fun _ _ => ⟨rfl, (e2q), (by decide : 0 + 6 ≤ _), (by decide : 0 + 12 ≤ _)⟩)
    dsimp only [Pt.U, Pt.locs, Pt.cells, Pt.slots] at X3 l3 y3 z3 st3 hQ3 A3 hS3 hg3
    subst l3 y3 z3
    obtain ⟨b3, rfl, N3q, K3q, s3q⟩ := hQ3
    have N3 := Fr.app N2 N3q
    have hZ := State.Warmed39.trans (t := s.setVm s.vm) hZ hS3.1
    have hown := own_fc hS3.1 hown
    have hSn3 := State.Since.trans hS0 hS3 (own_le (e2q) hk0 hg3)
    have hk3 := Nat.le_refl T3.heap.size
    have hR3 := hR0.trans A3
    obtain ⟨lc3, X3, N3⟩ : ∃ lc, Stand p l e room_1 (s.setVm T3.vm) m #[(.int i0), (.int i1), (.int i2), (.int i3), (.int i4), (.int i5)] below meth c T3 lc 6 12 ∧ Fr n0 lc := ⟨_, X3, N3⟩
    have g_b3 : n0 ≤ b3 := Nat.le_trans Z0 s3q
    have Z3 := Nat.le_trans Z0 K3q.1
    have O3 := O0.keep K3q all0
    refine Go.tr st3 ?_
    show Go p e below Φ T3 (mkF m 51 #[.val (.int i0), .val (.int i1), .val (.int i2), .val (.int i3), .val (.int i4), .val (.int i5), .val (.int (0 : Int32)), .val (.int (own_min ((own_ushr i0 (1 : Int32)) &&& (3 : Int32)) (2 : Int32))), .val (.int (own_min ((own_ushr i0 (4 : Int32)) &&& (3 : Int32)) (2 : Int32))), .unset, .unset, .unset] [(.ref b3)])
    refine Go.of (fun t k => XS.astore X3.here hx rfl (hb hby at_51) rfl rfl (l' := #[.val (.int i0), .val (.int i1), .val (.int i2), .val (.int i3), .val (.int i4), .val (.int i5), .val (.int (0 : Int32)), .val (.int (own_min ((own_ushr i0 (1 : Int32)) &&& (3 : Int32)) (2 : Int32))), .val (.int (own_min ((own_ushr i0 (4 : Int32)) &&& (3 : Int32)) (2 : Int32))), .val (.ref b3), .unset, .unset]) rfl k) ?_
    show Go p e below Φ T3 (mkF m 53 #[.val (.int i0), .val (.int i1), .val (.int i2), .val (.int i3), .val (.int i4), .val (.int i5), .val (.int (0 : Int32)), .val (.int (own_min ((own_ushr i0 (1 : Int32)) &&& (3 : Int32)) (2 : Int32))), .val (.int (own_min ((own_ushr i0 (4 : Int32)) &&& (3 : Int32)) (2 : Int32))), .val (.ref b3), .unset, .unset] [])
    refine Go.of (fun t k => XS.iloadN X3.here hx rfl (hb hby at_53) rfl  k) ?_
    show Go p e below Φ T3 (mkF m 54 #[.val (.int i0), .val (.int i1), .val (.int i2), .val (.int i3), .val (.int i4), .val (.int i5), .val (.int (0 : Int32)), .val (.int (own_min ((own_ushr i0 (1 : Int32)) &&& (3 : Int32)) (2 : Int32))), .val (.int (own_min ((own_ushr i0 (4 : Int32)) &&& (3 : Int32)) (2 : Int32))), .val (.ref b3), .unset, .unset] [(.int i0)])
    refine Go.of (fun t k => XS.bipush X3.here hx rfl (hb hby at_54) k) ?_
    show Go p e below Φ T3 (mkF m 56 #[.val (.int i0), .val (.int i1), .val (.int i2), .val (.int i3), .val (.int i4), .val (.int i5), .val (.int (0 : Int32)), .val (.int (own_min ((own_ushr i0 (1 : Int32)) &&& (3 : Int32)) (2 : Int32))), .val (.int (own_min ((own_ushr i0 (4 : Int32)) &&& (3 : Int32)) (2 : Int32))), .val (.ref b3), .unset, .unset] [(.int (8 : Int32)), (.int i0)])
    refine Go.of (fun t k => XS.iand X3.here hx rfl (hb hby at_56) rfl k) ?_
    show Go p e below Φ T3 (mkF m 57 #[.val (.int i0), .val (.int i1), .val (.int i2), .val (.int i3), .val (.int i4), .val (.int i5), .val (.int (0 : Int32)), .val (.int (own_min ((own_ushr i0 (1 : Int32)) &&& (3 : Int32)) (2 : Int32))), .val (.int (own_min ((own_ushr i0 (4 : Int32)) &&& (3 : Int32)) (2 : Int32))), .val (.ref b3), .unset, .unset] [(.int (i0 &&& (8 : Int32)))])
    by_cases hc57 : (i0 &&& (8 : Int32)) = (0 : Int32)
    · refine Go.of (fun t k => XS.ifYes X3.here hx rfl (pc0 := 57) (pc' := 65) rfl (hb hby at_57) rfl (XT.i0_eq_t hc57) (by decide) (by decide) k) ?_
      show Go p e below Φ T3 (mkF m 65 #[.val (.int i0), .val (.int i1), .val (.int i2), .val (.int i3), .val (.int i4), .val (.int i5), .val (.int (0 : Int32)), .val (.int (own_min ((own_ushr i0 (1 : Int32)) &&& (3 : Int32)) (2 : Int32))), .val (.int (own_min ((own_ushr i0 (4 : Int32)) &&& (3 : Int32)) (2 : Int32))), .val (.ref b3), .unset, .unset] [])
      refine Go.of (fun t k => XS.iload X3.here hx rfl (hb hby at_65) rfl  k) ?_
      show Go p e below Φ T3 (mkF m 67 #[.val (.int i0), .val (.int i1), .val (.int i2), .val (.int i3), .val (.int i4), .val (.int i5), .val (.int (0 : Int32)), .val (.int (own_min ((own_ushr i0 (1 : Int32)) &&& (3 : Int32)) (2 : Int32))), .val (.int (own_min ((own_ushr i0 (4 : Int32)) &&& (3 : Int32)) (2 : Int32))), .val (.ref b3), .unset, .unset] [(.int (own_min ((own_ushr i0 (4 : Int32)) &&& (3 : Int32)) (2 : Int32)))])
      refine Go.of (fun t k => XS.iloadN X3.here hx rfl (hb hby at_67) rfl  k) ?_
      show Go p e below Φ T3 (mkF m 68 #[.val (.int i0), .val (.int i1), .val (.int i2), .val (.int i3), .val (.int i4), .val (.int i5), .val (.int (0 : Int32)), .val (.int (own_min ((own_ushr i0 (1 : Int32)) &&& (3 : Int32)) (2 : Int32))), .val (.int (own_min ((own_ushr i0 (4 : Int32)) &&& (3 : Int32)) (2 : Int32))), .val (.ref b3), .unset, .unset] [(.int i2), (.int (own_min ((own_ushr i0 (4 : Int32)) &&& (3 : Int32)) (2 : Int32)))])
      refine Go.of (fun t k => XS.iloadN X3.here hx rfl (hb hby at_68) rfl  k) ?_
      show Go p e below Φ T3 (mkF m 69 #[.val (.int i0), .val (.int i1), .val (.int i2), .val (.int i3), .val (.int i4), .val (.int i5), .val (.int (0 : Int32)), .val (.int (own_min ((own_ushr i0 (1 : Int32)) &&& (3 : Int32)) (2 : Int32))), .val (.int (own_min ((own_ushr i0 (4 : Int32)) &&& (3 : Int32)) (2 : Int32))), .val (.ref b3), .unset, .unset] [(.int i1), (.int i2), (.int (own_min ((own_ushr i0 (4 : Int32)) &&& (3 : Int32)) (2 : Int32)))])
      obtain ⟨_, _, ⟨T4, L4, k4, n4⟩, -, X4, hS4, hg4, ⟨Lc4, hQ4, l4, y4, z4, A4⟩, st4⟩ := callSS X3 hx (y := (⟨"com/example/signalbox/signalbox/tramlines/CardIsConductorPinLaw", "str", "(III)Ljava/lang/String;"⟩ : MethodName)) hown (mvT hZ (hw _ (List.mem_of_getElem? (i := 4) rfl))) (mvT hZ (hw _ (List.mem_of_getElem? (i := 5) rfl))) (mvT hZ (hw _ (List.mem_of_getElem? (i := 6) rfl))) (mvT hZ (hw _ (List.mem_of_getElem? (i := 7) rfl))) (by decide) (backOfSH (W := 0) (rm2 l Z a0 hw [] (own_min ((own_ushr i0 (4 : Int32)) &&& (3 : Int32)) (2 : Int32)) i2 i1 w T3.heap n0 Z3 (S_COMPACT_STRINGS.ext O3.2) hw0) hZ (hw _ (List.mem_of_getElem? (i := 7) rfl)) (hw _ (List.mem_of_getElem? (i := 6) rfl)) (by decide) (by decide) hEL hR3.1) (g := (mkF m 69 #[.val (.int i0), .val (.int i1), .val (.int i2), .val (.int i3), .val (.int i4), .val (.int i5), .val (.int (0 : Int32)), .val (.int (own_min ((own_ushr i0 (1 : Int32)) &&& (3 : Int32)) (2 : Int32))), .val (.int (own_min ((own_ushr i0 (4 : Int32)) &&& (3 : Int32)) (2 : Int32))), .val (.ref b3), .unset, .unset] [(.int i1), (.int i2), (.int (own_min ((own_ushr i0 (4 : Int32)) &&& (3 : Int32)) (2 : Int32)))])) rfl (by rw [hml]; rfl) (argsL := [(.int (own_min ((own_ushr i0 (4 : Int32)) &&& (3 : Int32)) (2 : Int32))), (.int i2), (.int i1)]) (rest := []) (lenOf own_pd11 rfl) rfl (by show 2 * 0 + _ ≤ _; exact Nat.le_of_eq rfl) (hb hby at_69) (fun _ _ => ⟨rfl, rfl, (by decide : 6 + 6 ≤ _), (by decide : 12 + 12 ≤ _)⟩)
      dsimp only [Pt.U, Pt.locs, Pt.cells, Pt.slots] at X4 l4 y4 z4 st4 hQ4 A4 hS4 hg4
      subst l4 y4 z4
      obtain ⟨b4, rfl, N4q, K4q, s4q⟩ := hQ4
      have N4 := Fr.app N3 N4q
      have hZ := State.Warmed39.trans (t := s.setVm T3.vm) hZ hS4.1
      have hown := own_fc hS4.1 hown
      have hSn4 := State.Since.trans hSn3 hS4 (own_le rfl hk3 hg4)
      have hk4 := Nat.le_refl T4.heap.size
      have hR4 := hR3.trans A4
      obtain ⟨lc4, X4, N4⟩ : ∃ lc, Stand p l e room_1 (s.setVm T4.vm) m #[(.int i0), (.int i1), (.int i2), (.int i3), (.int i4), (.int i5)] below meth c T4 lc 12 24 ∧ Fr n0 lc := ⟨_, X4, N4⟩
      have g_b4 : n0 ≤ b4 := Nat.le_trans Z3 s4q
      have Z4 := Nat.le_trans Z3 K4q.1
      have O4 := O3.keep K4q all0
      refine Go.tr st4 ?_
      show Go p e below Φ T4 (mkF m 72 #[.val (.int i0), .val (.int i1), .val (.int i2), .val (.int i3), .val (.int i4), .val (.int i5), .val (.int (0 : Int32)), .val (.int (own_min ((own_ushr i0 (1 : Int32)) &&& (3 : Int32)) (2 : Int32))), .val (.int (own_min ((own_ushr i0 (4 : Int32)) &&& (3 : Int32)) (2 : Int32))), .val (.ref b3), .unset, .unset] [(.ref b4)])
      refine Go.of (fun t k => XS.astore X4.here hx rfl (hb hby at_72) rfl rfl (l' := #[.val (.int i0), .val (.int i1), .val (.int i2), .val (.int i3), .val (.int i4), .val (.int i5), .val (.int (0 : Int32)), .val (.int (own_min ((own_ushr i0 (1 : Int32)) &&& (3 : Int32)) (2 : Int32))), .val (.int (own_min ((own_ushr i0 (4 : Int32)) &&& (3 : Int32)) (2 : Int32))), .val (.ref b3), .val (.ref b4), .unset]) rfl k) ?_
      show Go p e below Φ T4 (mkF m 74 #[.val (.int i0), .val (.int i1), .val (.int i2), .val (.int i3), .val (.int i4), .val (.int i5), .val (.int (0 : Int32)), .val (.int (own_min ((own_ushr i0 (1 : Int32)) &&& (3 : Int32)) (2 : Int32))), .val (.int (own_min ((own_ushr i0 (4 : Int32)) &&& (3 : Int32)) (2 : Int32))), .val (.ref b3), .val (.ref b4), .unset] [])
      obtain ⟨T5, h5, X5, e5, E5, A5, D5, -, st5⟩ := newO X4 hx hZ hown (hw _ (List.mem_of_getElem? (i := 30) rfl)) (hw _ (List.mem_of_getElem? (i := 31) rfl)) (hw _ (List.mem_of_getElem? (i := 32) rfl)) rfl (g := (mkF m 74 #[.val (.int i0), .val (.int i1), .val (.int i2), .val (.int i3), .val (.int i4), .val (.int i5), .val (.int (0 : Int32)), .val (.int (own_min ((own_ushr i0 (1 : Int32)) &&& (3 : Int32)) (2 : Int32))), .val (.int (own_min ((own_ushr i0 (4 : Int32)) &&& (3 : Int32)) (2 : Int32))), .val (.ref b3), .val (.ref b4), .unset] [])) rfl (hb hby at_74) (by decide) (by decide)
      obtain ⟨b5, g5⟩ : ∃ z, z = T4.heap.size := ⟨_, rfl⟩
      rw [← g5] at A5 D5 st5
      have g_b5 : n0 ≤ b5 := Nat.le_trans Z4 (Nat.le_of_eq g5.symm)
      have Z5 := Nat.le_trans Z4 E5.1
      have O5 := O4.ext E5
      have Sf_b5 := Safe.ext E5 hR4.1 (Safe.new (Nat.le_of_eq g5.symm))
      have hR5 := hR4.trans (CHr.ext E5 hR4.1)
      have hk5 := Nat.le_trans hk4 E5.1
      have E_b5 := A5
      have F_b5_id : Fld Z h5 b5 "com/example/signalbox/signalbox/tramlines/Card" "id" "Ljava/lang/String;" .null := D5 (Or.inr (hw _ (List.mem_of_getElem? (i := 43) rfl))) (ty := (.object "java/lang/String")) (by decide)
      have F_b5_count : Fld Z h5 b5 "com/example/signalbox/signalbox/tramlines/Card" "count" "I" (.int (0 : Int32)) := D5 (Or.inr (hw _ (List.mem_of_getElem? (i := 45) rfl))) (ty := .int) (by decide)
      have F_b5_line : Fld Z h5 b5 "com/example/signalbox/signalbox/tramlines/Card" "line" "Ljava/lang/String;" .null := D5 (Or.inr (hw _ (List.mem_of_getElem? (i := 47) rfl))) (ty := (.object "java/lang/String")) (by decide)
      have F_b5_value : Fld Z h5 b5 "com/example/signalbox/signalbox/tramlines/Card" "value" "I" (.int (0 : Int32)) := D5 (Or.inr (hw _ (List.mem_of_getElem? (i := 49) rfl))) (ty := .int) (by decide)
      have F_b5_points : Fld Z h5 b5 "com/example/signalbox/signalbox/tramlines/Card" "points" "I" (.int (0 : Int32)) := D5 (Or.inr (hw _ (List.mem_of_getElem? (i := 51) rfl))) (ty := .int) (by decide)
      refine Go.of st5 ?_
      show Go p e below Φ T5 (mkF m 77 #[.val (.int i0), .val (.int i1), .val (.int i2), .val (.int i3), .val (.int i4), .val (.int i5), .val (.int (0 : Int32)), .val (.int (own_min ((own_ushr i0 (1 : Int32)) &&& (3 : Int32)) (2 : Int32))), .val (.int (own_min ((own_ushr i0 (4 : Int32)) &&& (3 : Int32)) (2 : Int32))), .val (.ref b3), .val (.ref b4), .unset] [(.ref b5)])
      refine Go.of (fun t k => XS.dup X5.here hx rfl (hb hby at_77) rfl rfl k) ?_
      show Go p e below Φ T5 (mkF m 78 #[.val (.int i0), .val (.int i1), .val (.int i2), .val (.int i3), .val (.int i4), .val (.int i5), .val (.int (0 : Int32)), .val (.int (own_min ((own_ushr i0 (1 : Int32)) &&& (3 : Int32)) (2 : Int32))), .val (.int (own_min ((own_ushr i0 (4 : Int32)) &&& (3 : Int32)) (2 : Int32))), .val (.ref b3), .val (.ref b4), .unset] [(.ref b5), (.ref b5)])
      refine Go.of (fun t k => XS.aload X5.here hx rfl (hb hby at_78) rfl rfl  k) ?_
      show Go p e below Φ T5 (mkF m 80 #[.val (.int i0), .val (.int i1), .val (.int i2), .val (.int i3), .val (.int i4), .val (.int i5), .val (.int (0 : Int32)), .val (.int (own_min ((own_ushr i0 (1 : Int32)) &&& (3 : Int32)) (2 : Int32))), .val (.int (own_min ((own_ushr i0 (4 : Int32)) &&& (3 : Int32)) (2 : Int32))), .val (.ref b3), .val (.ref b4), .unset] [(.ref b4), (.ref b5), (.ref b5)])
      refine Go.of (fun t k => XS.iloadN X5.here hx rfl (hb hby at_80) rfl  k) ?_
      show Go p e below Φ T5 (mkF m 81 #[.val (.int i0), .val (.int i1), .val (.int i2), .val (.int i3), .val (.int i4), .val (.int i5), .val (.int (0 : Int32)), .val (.int (own_min ((own_ushr i0 (1 : Int32)) &&& (3 : Int32)) (2 : Int32))), .val (.int (own_min ((own_ushr i0 (4 : Int32)) &&& (3 : Int32)) (2 : Int32))), .val (.ref b3), .val (.ref b4), .unset] [(.int i3), (.ref b4), (.ref b5), (.ref b5)])
      refine Go.of (fun t k => XS.aload X5.here hx rfl (hb hby at_81) rfl rfl  k) ?_
      show Go p e below Φ T5 (mkF m 83 #[.val (.int i0), .val (.int i1), .val (.int i2), .val (.int i3), .val (.int i4), .val (.int i5), .val (.int (0 : Int32)), .val (.int (own_min ((own_ushr i0 (1 : Int32)) &&& (3 : Int32)) (2 : Int32))), .val (.int (own_min ((own_ushr i0 (4 : Int32)) &&& (3 : Int32)) (2 : Int32))), .val (.ref b3), .val (.ref b4), .unset] [(.ref b3), (.int i3), (.ref b4), (.ref b5), (.ref b5)])
      refine Go.of (fun t k => XS.iload X5.here hx rfl (hb hby at_83) rfl  k) ?_
      show Go p e below Φ T5 (mkF m 85 #[.val (.int i0), .val (.int i1), .val (.int i2), .val (.int i3), .val (.int i4), .val (.int i5), .val (.int (0 : Int32)), .val (.int (own_min ((own_ushr i0 (1 : Int32)) &&& (3 : Int32)) (2 : Int32))), .val (.int (own_min ((own_ushr i0 (4 : Int32)) &&& (3 : Int32)) (2 : Int32))), .val (.ref b3), .val (.ref b4), .unset] [(.int i4), (.ref b3), (.int i3), (.ref b4), (.ref b5), (.ref b5)])
      refine Go.of (fun t k => XS.iload X5.here hx rfl (hb hby at_85) rfl  k) ?_
      show Go p e below Φ T5 (mkF m 87 #[.val (.int i0), .val (.int i1), .val (.int i2), .val (.int i3), .val (.int i4), .val (.int i5), .val (.int (0 : Int32)), .val (.int (own_min ((own_ushr i0 (1 : Int32)) &&& (3 : Int32)) (2 : Int32))), .val (.int (own_min ((own_ushr i0 (4 : Int32)) &&& (3 : Int32)) (2 : Int32))), .val (.ref b3), .val (.ref b4), .unset] [(.int i5), (.int i4), (.ref b3), (.int i3), (.ref b4), (.ref b5), (.ref b5)])
      obtain ⟨_, _, ⟨T6, L6, k6, n6⟩, -, X6, ⟨Lc6, hQ6, l6, y6, z6⟩, st6⟩ := X5.specialBack hx (y := (⟨"com/example/signalbox/signalbox/tramlines/Card", "<init>", "(Ljava/lang/String;ILjava/lang/String;II)V"⟩ : MethodName)) rfl hown (mvT hZ (hw _ (List.mem_of_getElem? (i := 33) rfl))) (mvT hZ (hw _ (List.mem_of_getElem? (i := 34) rfl))) (mvT hZ (hw _ (List.mem_of_getElem? (i := 35) rfl))) (by decide) (backOf (W := 1) (rm6r l Z a0 hw [] b5 b4 i3 b3 i4 i5 (0 : Int32) (0 : Int32) (0 : Int32) h5 n0 Z5 F_b5_id F_b5_count F_b5_line F_b5_value F_b5_points E_b5 g_b5) hZ (hw _ (List.mem_of_getElem? (i := 35) rfl)) (hw _ (List.mem_of_getElem? (i := 32) rfl)) (by decide) (by decide)) (g := (mkF m 87 #[.val (.int i0), .val (.int i1), .val (.int i2), .val (.int i3), .val (.int i4), .val (.int i5), .val (.int (0 : Int32)), .val (.int (own_min ((own_ushr i0 (1 : Int32)) &&& (3 : Int32)) (2 : Int32))), .val (.int (own_min ((own_ushr i0 (4 : Int32)) &&& (3 : Int32)) (2 : Int32))), .val (.ref b3), .val (.ref b4), .unset] [(.int i5), (.int i4), (.ref b3), (.int i3), (.ref b4), (.ref b5), (.ref b5)])) rfl (by rw [hml]; rfl) (Steps.refl _) (a := b5) (argsL := [(.ref b4), (.int i3), (.ref b3), (.int i4), (.int i5)]) (rest := [(.ref b5)]) (lenOf own_pd12 rfl) rfl (by show 2 * 0 + _ ≤ _; exact Nat.le_of_eq rfl) (hb hby at_87) (fun _ _ => ⟨rfl, e5, (by decide : 13 + 0 ≤ _), (by decide : 29 + 0 ≤ _)⟩)
      dsimp only [Pt.U, Pt.locs, Pt.cells, Pt.slots] at X6 l6 y6 z6 st6 hQ6
      subst l6 y6 z6
      obtain ⟨rfl, N6q, K6q, c6_0⟩ := hQ6
      have N6 := Fr.app N4 N6q
      obtain ⟨lc6, X6, N6⟩ : ∃ lc, Stand p l e room_1 (s.setVm T4.vm) m #[(.int i0), (.int i1), (.int i2), (.int i3), (.int i4), (.int i5)] below meth c T6 lc 13 29 ∧ Fr n0 lc := ⟨_, X6, N6⟩
      have E_b5 := E_b5.keep K6q
      have hs6 := Sf_b5
      have Sf_b5 := Safe.keep K6q (fun x hx => by cases List.mem_singleton.mp hx; exact hs6) hR5.1 Sf_b5
      have hR6 := hR5.trans (CHr.keep K6q (fun x hx => by cases List.mem_singleton.mp hx; exact hs6) hR5.1)
      have hk6 := Nat.le_trans hk5 K6q.1
      have F_b5_line := c6_0
      have Z6 := Nat.le_trans Z5 K6q.1
      have O6 := O5.keep K6q (allS g_b5 all0)
      refine Go.tr st6 ?_
      show Go p e below Φ T6 (mkF m 90 #[.val (.int i0), .val (.int i1), .val (.int i2), .val (.int i3), .val (.int i4), .val (.int i5), .val (.int (0 : Int32)), .val (.int (own_min ((own_ushr i0 (1 : Int32)) &&& (3 : Int32)) (2 : Int32))), .val (.int (own_min ((own_ushr i0 (4 : Int32)) &&& (3 : Int32)) (2 : Int32))), .val (.ref b3), .val (.ref b4), .unset] [(.ref b5)])
      refine Go.of (fun t k => XS.astore X6.here hx rfl (hb hby at_90) rfl rfl (l' := #[.val (.int i0), .val (.int i1), .val (.int i2), .val (.int i3), .val (.int i4), .val (.int i5), .val (.int (0 : Int32)), .val (.int (own_min ((own_ushr i0 (1 : Int32)) &&& (3 : Int32)) (2 : Int32))), .val (.int (own_min ((own_ushr i0 (4 : Int32)) &&& (3 : Int32)) (2 : Int32))), .val (.ref b3), .val (.ref b4), .val (.ref b5)]) rfl k) ?_
      show Go p e below Φ T6 (mkF m 92 #[.val (.int i0), .val (.int i1), .val (.int i2), .val (.int i3), .val (.int i4), .val (.int i5), .val (.int (0 : Int32)), .val (.int (own_min ((own_ushr i0 (1 : Int32)) &&& (3 : Int32)) (2 : Int32))), .val (.int (own_min ((own_ushr i0 (4 : Int32)) &&& (3 : Int32)) (2 : Int32))), .val (.ref b3), .val (.ref b4), .val (.ref b5)] [])
      refine Go.of (fun t k => XS.aload X6.here hx rfl (hb hby at_92) rfl rfl  k) ?_
      show Go p e below Φ T6 (mkF m 94 #[.val (.int i0), .val (.int i1), .val (.int i2), .val (.int i3), .val (.int i4), .val (.int i5), .val (.int (0 : Int32)), .val (.int (own_min ((own_ushr i0 (1 : Int32)) &&& (3 : Int32)) (2 : Int32))), .val (.int (own_min ((own_ushr i0 (4 : Int32)) &&& (3 : Int32)) (2 : Int32))), .val (.ref b3), .val (.ref b4), .val (.ref b5)] [(.ref b5)])
      obtain ⟨cq7, kq7, q7a, q7b, q7c⟩ := isOf hZ rfl E_b5
      obtain ⟨_, _, ⟨T7, L7, k7, n7⟩, -, X7, ⟨Lc7, hQ7, l7, y7, z7⟩, st7⟩ := X6.virtualBack hx (y := (⟨"com/example/signalbox/signalbox/tramlines/Card", "isConductor", "()Z"⟩ : MethodName)) (z := (⟨"com/example/signalbox/signalbox/tramlines/Card", "isConductor", "()Z"⟩ : MethodName)) hown (mvT hZ (hw _ (List.mem_of_getElem? (i := 52) rfl))) (mvT hZ (hw _ (List.mem_of_getElem? (i := 53) rfl))) (notFace_of_selects (args := #[]) (mvT hZ (hw _ (List.mem_of_getElem? (i := 55) rfl)))) (mvT hZ (hw _ (List.mem_of_getElem? (i := 55) rfl))) (mvT hZ (hw _ (List.mem_of_getElem? (i := 54) rfl))) (by decide) (backOf (W := 0) (rm8r l Z a0 hw [] b5 b3 T6.heap n0 Z6 F_b5_line) hZ (hw _ (List.mem_of_getElem? (i := 56) rfl)) (hw _ (List.mem_of_getElem? (i := 32) rfl)) (by decide) (by decide)) q7a q7c (g := (mkF m 94 #[.val (.int i0), .val (.int i1), .val (.int i2), .val (.int i3), .val (.int i4), .val (.int i5), .val (.int (0 : Int32)), .val (.int (own_min ((own_ushr i0 (1 : Int32)) &&& (3 : Int32)) (2 : Int32))), .val (.int (own_min ((own_ushr i0 (4 : Int32)) &&& (3 : Int32)) (2 : Int32))), .val (.ref b3), .val (.ref b4), .val (.ref b5)] [(.ref b5)])) rfl (by rw [hml]; rfl) (Steps.refl _) (argsL := []) (rest := []) (lenOf own_pd13 rfl) rfl (by show 2 * 0 + _ ≤ _; exact Nat.le_of_eq rfl) (hb hby at_94) (fun _ _ => ⟨rfl, rfl, (by decide : 13 + 0 ≤ _), (by decide : 29 + 0 ≤ _)⟩)
      dsimp only [Pt.U, Pt.locs, Pt.cells, Pt.slots] at X7 l7 y7 z7 st7 hQ7
      subst l7 y7 z7
      obtain ⟨rfl, N7q, e7q⟩ := hQ7
      have N7 := Fr.app N6 N7q
      obtain ⟨lc7, X7, N7⟩ : ∃ lc, Stand p l e room_1 (s.setVm T4.vm) m #[(.int i0), (.int i1), (.int i2), (.int i3), (.int i4), (.int i5)] below meth c T7 lc 13 29 ∧ Fr n0 lc := ⟨_, X7, N7⟩
      refine Go.tr st7 ?_
      show Go p e below Φ T7 (mkF m 97 #[.val (.int i0), .val (.int i1), .val (.int i2), .val (.int i3), .val (.int i4), .val (.int i5), .val (.int (0 : Int32)), .val (.int (own_min ((own_ushr i0 (1 : Int32)) &&& (3 : Int32)) (2 : Int32))), .val (.int (own_min ((own_ushr i0 (4 : Int32)) &&& (3 : Int32)) (2 : Int32))), .val (.ref b3), .val (.ref b4), .val (.ref b5)] [(.int (0 : Int32))])
      refine Go.of (fun t k => XS.iload X7.here hx rfl (hb hby at_97) rfl  k) ?_
      show Go p e below Φ T7 (mkF m 99 #[.val (.int i0), .val (.int i1), .val (.int i2), .val (.int i3), .val (.int i4), .val (.int i5), .val (.int (0 : Int32)), .val (.int (own_min ((own_ushr i0 (1 : Int32)) &&& (3 : Int32)) (2 : Int32))), .val (.int (own_min ((own_ushr i0 (4 : Int32)) &&& (3 : Int32)) (2 : Int32))), .val (.ref b3), .val (.ref b4), .val (.ref b5)] [(.int (0 : Int32)), (.int (0 : Int32))])
      refine Go.of (fun t k => XS.icmpNo X7.here hx rfl (hb hby at_99) rfl (XT.ii_ne_f rfl) k) ?_
      show Go p e below Φ T7 (mkF m 102 #[.val (.int i0), .val (.int i1), .val (.int i2), .val (.int i3), .val (.int i4), .val (.int i5), .val (.int (0 : Int32)), .val (.int (own_min ((own_ushr i0 (1 : Int32)) &&& (3 : Int32)) (2 : Int32))), .val (.int (own_min ((own_ushr i0 (4 : Int32)) &&& (3 : Int32)) (2 : Int32))), .val (.ref b3), .val (.ref b4), .val (.ref b5)] [])
      refine Go.of (fun t k => XS.iconst X7.here hx rfl (hb hby at_102) k) ?_
      show Go p e below Φ T7 (mkF m 103 #[.val (.int i0), .val (.int i1), .val (.int i2), .val (.int i3), .val (.int i4), .val (.int i5), .val (.int (0 : Int32)), .val (.int (own_min ((own_ushr i0 (1 : Int32)) &&& (3 : Int32)) (2 : Int32))), .val (.int (own_min ((own_ushr i0 (4 : Int32)) &&& (3 : Int32)) (2 : Int32))), .val (.ref b3), .val (.ref b4), .val (.ref b5)] [(.int (1 : Int32))])
      refine Go.of (fun t k => XS.goto X7.here hx rfl (pc0 := 103) (pc' := 107) rfl (hb hby at_103) (by decide) (by decide) k) ?_
      show Go p e below Φ T7 (mkF m 107 #[.val (.int i0), .val (.int i1), .val (.int i2), .val (.int i3), .val (.int i4), .val (.int i5), .val (.int (0 : Int32)), .val (.int (own_min ((own_ushr i0 (1 : Int32)) &&& (3 : Int32)) (2 : Int32))), .val (.int (own_min ((own_ushr i0 (4 : Int32)) &&& (3 : Int32)) (2 : Int32))), .val (.ref b3), .val (.ref b4), .val (.ref b5)] [(.int (1 : Int32))])
      rw [hΦ]
      refine Go.retW X7 hx Bd.notSynchronized hSn4 (own_kk (e7q) hk6) hZ hEL (own_rr hh (e7q) hR6) Bd.returns rfl (Or.inl ⟨rfl, Or.inr (Or.inl rfl), _, rfl⟩) (hb hby at_107) (by decide) (by decide) ?_
      rw [(e7q)]
      exact ⟨rfl, N7⟩
    · refine Go.of (fun t k => XS.ifNo X3.here hx rfl (hb hby at_57) rfl (XT.i0_eq_f hc57) k) ?_
      show Go p e below Φ T3 (mkF m 60 #[.val (.int i0), .val (.int i1), .val (.int i2), .val (.int i3), .val (.int i4), .val (.int i5), .val (.int (0 : Int32)), .val (.int (own_min ((own_ushr i0 (1 : Int32)) &&& (3 : Int32)) (2 : Int32))), .val (.int (own_min ((own_ushr i0 (4 : Int32)) &&& (3 : Int32)) (2 : Int32))), .val (.ref b3), .unset, .unset] [])
      obtain ⟨b8, T8, h8, k8, X8, e8, E8, hS8, hk8, hZ8, ho8, A8, -, st8⟩ := ldcOH X3 hx hZ hown (hw _ (List.mem_of_getElem? (i := 68) rfl)) (own_wS hw) rfl hSn3 hk3 hEL hR3.1 (g := (mkF m 60 #[.val (.int i0), .val (.int i1), .val (.int i2), .val (.int i3), .val (.int i4), .val (.int i5), .val (.int (0 : Int32)), .val (.int (own_min ((own_ushr i0 (1 : Int32)) &&& (3 : Int32)) (2 : Int32))), .val (.int (own_min ((own_ushr i0 (4 : Int32)) &&& (3 : Int32)) (2 : Int32))), .val (.ref b3), .unset, .unset] [])) rfl (hb hby at_60) (n := 36) (by decide) (by decide) (by decide) (by decide)
      have hZ := hZ8
      have hown := ho8
      have hR8 := hR3.trans A8
      have Z8 := Nat.le_trans Z3 E8.1
      have O8 := O3.ext E8
      refine Go.of st8 ?_
      show Go p e below Φ T8 (mkF m 62 #[.val (.int i0), .val (.int i1), .val (.int i2), .val (.int i3), .val (.int i4), .val (.int i5), .val (.int (0 : Int32)), .val (.int (own_min ((own_ushr i0 (1 : Int32)) &&& (3 : Int32)) (2 : Int32))), .val (.int (own_min ((own_ushr i0 (4 : Int32)) &&& (3 : Int32)) (2 : Int32))), .val (.ref b3), .unset, .unset] [(.ref b8)])
      refine Go.of (fun t k => XS.goto X8.here hx rfl (pc0 := 62) (pc' := 72) rfl (hb hby at_62) (by decide) (by decide) k) ?_
      show Go p e below Φ T8 (mkF m 72 #[.val (.int i0), .val (.int i1), .val (.int i2), .val (.int i3), .val (.int i4), .val (.int i5), .val (.int (0 : Int32)), .val (.int (own_min ((own_ushr i0 (1 : Int32)) &&& (3 : Int32)) (2 : Int32))), .val (.int (own_min ((own_ushr i0 (4 : Int32)) &&& (3 : Int32)) (2 : Int32))), .val (.ref b3), .unset, .unset] [(.ref b8)])
      refine Go.of (fun t k => XS.astore X8.here hx rfl (hb hby at_72) rfl rfl (l' := #[.val (.int i0), .val (.int i1), .val (.int i2), .val (.int i3), .val (.int i4), .val (.int i5), .val (.int (0 : Int32)), .val (.int (own_min ((own_ushr i0 (1 : Int32)) &&& (3 : Int32)) (2 : Int32))), .val (.int (own_min ((own_ushr i0 (4 : Int32)) &&& (3 : Int32)) (2 : Int32))), .val (.ref b3), .val (.ref b8), .unset]) rfl k) ?_
      show Go p e below Φ T8 (mkF m 74 #[.val (.int i0), .val (.int i1), .val (.int i2), .val (.int i3), .val (.int i4), .val (.int i5), .val (.int (0 : Int32)), .val (.int (own_min ((own_ushr i0 (1 : Int32)) &&& (3 : Int32)) (2 : Int32))), .val (.int (own_min ((own_ushr i0 (4 : Int32)) &&& (3 : Int32)) (2 : Int32))), .val (.ref b3), .val (.ref b8), .unset] [])
      obtain ⟨T9, h9, X9, e9, E9, A9, D9, -, st9⟩ := newO X8 hx hZ hown (hw _ (List.mem_of_getElem? (i := 30) rfl)) (hw _ (List.mem_of_getElem? (i := 31) rfl)) (hw _ (List.mem_of_getElem? (i := 32) rfl)) e8 (g := (mkF m 74 #[.val (.int i0), .val (.int i1), .val (.int i2), .val (.int i3), .val (.int i4), .val (.int i5), .val (.int (0 : Int32)), .val (.int (own_min ((own_ushr i0 (1 : Int32)) &&& (3 : Int32)) (2 : Int32))), .val (.int (own_min ((own_ushr i0 (4 : Int32)) &&& (3 : Int32)) (2 : Int32))), .val (.ref b3), .val (.ref b8), .unset] [])) rfl (hb hby at_74) (by decide) (by decide)
      obtain ⟨b9, g9⟩ : ∃ z, z = h8.size := ⟨_, rfl⟩
      rw [← g9] at A9 D9 st9
      have g_b9 : n0 ≤ b9 := Nat.le_trans Z8 (Nat.le_of_eq g9.symm)
      have Z9 := Nat.le_trans Z8 E9.1
      have O9 := O8.ext E9
      have Sf_b9 := Safe.ext E9 hR8.1 (Safe.new (Nat.le_of_eq g9.symm))
      have hR9 := hR8.trans (CHr.ext E9 hR8.1)
      have hk9 := Nat.le_trans hk8 E9.1
      have E_b9 := A9
      have F_b9_id : Fld Z h9 b9 "com/example/signalbox/signalbox/tramlines/Card" "id" "Ljava/lang/String;" .null := D9 (Or.inr (hw _ (List.mem_of_getElem? (i := 43) rfl))) (ty := (.object "java/lang/String")) (by decide)
      have F_b9_count : Fld Z h9 b9 "com/example/signalbox/signalbox/tramlines/Card" "count" "I" (.int (0 : Int32)) := D9 (Or.inr (hw _ (List.mem_of_getElem? (i := 45) rfl))) (ty := .int) (by decide)
      have F_b9_line : Fld Z h9 b9 "com/example/signalbox/signalbox/tramlines/Card" "line" "Ljava/lang/String;" .null := D9 (Or.inr (hw _ (List.mem_of_getElem? (i := 47) rfl))) (ty := (.object "java/lang/String")) (by decide)
      have F_b9_value : Fld Z h9 b9 "com/example/signalbox/signalbox/tramlines/Card" "value" "I" (.int (0 : Int32)) := D9 (Or.inr (hw _ (List.mem_of_getElem? (i := 49) rfl))) (ty := .int) (by decide)
      have F_b9_points : Fld Z h9 b9 "com/example/signalbox/signalbox/tramlines/Card" "points" "I" (.int (0 : Int32)) := D9 (Or.inr (hw _ (List.mem_of_getElem? (i := 51) rfl))) (ty := .int) (by decide)
      refine Go.of st9 ?_
      show Go p e below Φ T9 (mkF m 77 #[.val (.int i0), .val (.int i1), .val (.int i2), .val (.int i3), .val (.int i4), .val (.int i5), .val (.int (0 : Int32)), .val (.int (own_min ((own_ushr i0 (1 : Int32)) &&& (3 : Int32)) (2 : Int32))), .val (.int (own_min ((own_ushr i0 (4 : Int32)) &&& (3 : Int32)) (2 : Int32))), .val (.ref b3), .val (.ref b8), .unset] [(.ref b9)])
      refine Go.of (fun t k => XS.dup X9.here hx rfl (hb hby at_77) rfl rfl k) ?_
      show Go p e below Φ T9 (mkF m 78 #[.val (.int i0), .val (.int i1), .val (.int i2), .val (.int i3), .val (.int i4), .val (.int i5), .val (.int (0 : Int32)), .val (.int (own_min ((own_ushr i0 (1 : Int32)) &&& (3 : Int32)) (2 : Int32))), .val (.int (own_min ((own_ushr i0 (4 : Int32)) &&& (3 : Int32)) (2 : Int32))), .val (.ref b3), .val (.ref b8), .unset] [(.ref b9), (.ref b9)])
      refine Go.of (fun t k => XS.aload X9.here hx rfl (hb hby at_78) rfl rfl  k) ?_
      show Go p e below Φ T9 (mkF m 80 #[.val (.int i0), .val (.int i1), .val (.int i2), .val (.int i3), .val (.int i4), .val (.int i5), .val (.int (0 : Int32)), .val (.int (own_min ((own_ushr i0 (1 : Int32)) &&& (3 : Int32)) (2 : Int32))), .val (.int (own_min ((own_ushr i0 (4 : Int32)) &&& (3 : Int32)) (2 : Int32))), .val (.ref b3), .val (.ref b8), .unset] [(.ref b8), (.ref b9), (.ref b9)])
      refine Go.of (fun t k => XS.iloadN X9.here hx rfl (hb hby at_80) rfl  k) ?_
      show Go p e below Φ T9 (mkF m 81 #[.val (.int i0), .val (.int i1), .val (.int i2), .val (.int i3), .val (.int i4), .val (.int i5), .val (.int (0 : Int32)), .val (.int (own_min ((own_ushr i0 (1 : Int32)) &&& (3 : Int32)) (2 : Int32))), .val (.int (own_min ((own_ushr i0 (4 : Int32)) &&& (3 : Int32)) (2 : Int32))), .val (.ref b3), .val (.ref b8), .unset] [(.int i3), (.ref b8), (.ref b9), (.ref b9)])
      refine Go.of (fun t k => XS.aload X9.here hx rfl (hb hby at_81) rfl rfl  k) ?_
      show Go p e below Φ T9 (mkF m 83 #[.val (.int i0), .val (.int i1), .val (.int i2), .val (.int i3), .val (.int i4), .val (.int i5), .val (.int (0 : Int32)), .val (.int (own_min ((own_ushr i0 (1 : Int32)) &&& (3 : Int32)) (2 : Int32))), .val (.int (own_min ((own_ushr i0 (4 : Int32)) &&& (3 : Int32)) (2 : Int32))), .val (.ref b3), .val (.ref b8), .unset] [(.ref b3), (.int i3), (.ref b8), (.ref b9), (.ref b9)])
      refine Go.of (fun t k => XS.iload X9.here hx rfl (hb hby at_83) rfl  k) ?_
      show Go p e below Φ T9 (mkF m 85 #[.val (.int i0), .val (.int i1), .val (.int i2), .val (.int i3), .val (.int i4), .val (.int i5), .val (.int (0 : Int32)), .val (.int (own_min ((own_ushr i0 (1 : Int32)) &&& (3 : Int32)) (2 : Int32))), .val (.int (own_min ((own_ushr i0 (4 : Int32)) &&& (3 : Int32)) (2 : Int32))), .val (.ref b3), .val (.ref b8), .unset] [(.int i4), (.ref b3), (.int i3), (.ref b8), (.ref b9), (.ref b9)])
      refine Go.of (fun t k => XS.iload X9.here hx rfl (hb hby at_85) rfl  k) ?_
      show Go p e below Φ T9 (mkF m 87 #[.val (.int i0), .val (.int i1), .val (.int i2), .val (.int i3), .val (.int i4), .val (.int i5), .val (.int (0 : Int32)), .val (.int (own_min ((own_ushr i0 (1 : Int32)) &&& (3 : Int32)) (2 : Int32))), .val (.int (own_min ((own_ushr i0 (4 : Int32)) &&& (3 : Int32)) (2 : Int32))), .val (.ref b3), .val (.ref b8), .unset] [(.int i5), (.int i4), (.ref b3), (.int i3), (.ref b8), (.ref b9), (.ref b9)])
      obtain ⟨_, _, ⟨T10, L10, k10, n10⟩, -, X10, ⟨Lc10, hQ10, l10, y10, z10⟩, st10⟩ := X9.specialBack hx (y := (⟨"com/example/signalbox/signalbox/tramlines/Card", "<init>", "(Ljava/lang/String;ILjava/lang/String;II)V"⟩ : MethodName)) rfl hown (mvT hZ (hw _ (List.mem_of_getElem? (i := 33) rfl))) (mvT hZ (hw _ (List.mem_of_getElem? (i := 34) rfl))) (mvT hZ (hw _ (List.mem_of_getElem? (i := 35) rfl))) (by decide) (backOf (W := 1) (rm6r l Z a0 hw [] b9 b8 i3 b3 i4 i5 (0 : Int32) (0 : Int32) (0 : Int32) h9 n0 Z9 F_b9_id F_b9_count F_b9_line F_b9_value F_b9_points E_b9 g_b9) hZ (hw _ (List.mem_of_getElem? (i := 35) rfl)) (hw _ (List.mem_of_getElem? (i := 32) rfl)) (by decide) (by decide)) (g := (mkF m 87 #[.val (.int i0), .val (.int i1), .val (.int i2), .val (.int i3), .val (.int i4), .val (.int i5), .val (.int (0 : Int32)), .val (.int (own_min ((own_ushr i0 (1 : Int32)) &&& (3 : Int32)) (2 : Int32))), .val (.int (own_min ((own_ushr i0 (4 : Int32)) &&& (3 : Int32)) (2 : Int32))), .val (.ref b3), .val (.ref b8), .unset] [(.int i5), (.int i4), (.ref b3), (.int i3), (.ref b8), (.ref b9), (.ref b9)])) rfl (by rw [hml]; rfl) (Steps.refl _) (a := b9) (argsL := [(.ref b8), (.int i3), (.ref b3), (.int i4), (.int i5)]) (rest := [(.ref b9)]) (lenOf own_pd12 rfl) rfl (by show 2 * 0 + _ ≤ _; exact Nat.le_of_eq rfl) (hb hby at_87) (fun _ _ => ⟨rfl, e9, (by decide : 9 + 0 ≤ _), (by decide : 57 + 0 ≤ _)⟩)
      dsimp only [Pt.U, Pt.locs, Pt.cells, Pt.slots] at X10 l10 y10 z10 st10 hQ10
      subst l10 y10 z10
      obtain ⟨rfl, N10q, K10q, c10_0⟩ := hQ10
      have N10 := Fr.app N3 N10q
      obtain ⟨lc10, X10, N10⟩ : ∃ lc, Stand p l e room_1 (s.setVm T8.vm) m #[(.int i0), (.int i1), (.int i2), (.int i3), (.int i4), (.int i5)] below meth c T10 lc 9 57 ∧ Fr n0 lc := ⟨_, X10, N10⟩
      have E_b9 := E_b9.keep K10q
      have hs10 := Sf_b9
      have Sf_b9 := Safe.keep K10q (fun x hx => by cases List.mem_singleton.mp hx; exact hs10) hR9.1 Sf_b9
      have hR10 := hR9.trans (CHr.keep K10q (fun x hx => by cases List.mem_singleton.mp hx; exact hs10) hR9.1)
      have hk10 := Nat.le_trans hk9 K10q.1
      have F_b9_line := c10_0
      have Z10 := Nat.le_trans Z9 K10q.1
      have O10 := O9.keep K10q (allS g_b9 all0)
      refine Go.tr st10 ?_
      show Go p e below Φ T10 (mkF m 90 #[.val (.int i0), .val (.int i1), .val (.int i2), .val (.int i3), .val (.int i4), .val (.int i5), .val (.int (0 : Int32)), .val (.int (own_min ((own_ushr i0 (1 : Int32)) &&& (3 : Int32)) (2 : Int32))), .val (.int (own_min ((own_ushr i0 (4 : Int32)) &&& (3 : Int32)) (2 : Int32))), .val (.ref b3), .val (.ref b8), .unset] [(.ref b9)])
      refine Go.of (fun t k => XS.astore X10.here hx rfl (hb hby at_90) rfl rfl (l' := #[.val (.int i0), .val (.int i1), .val (.int i2), .val (.int i3), .val (.int i4), .val (.int i5), .val (.int (0 : Int32)), .val (.int (own_min ((own_ushr i0 (1 : Int32)) &&& (3 : Int32)) (2 : Int32))), .val (.int (own_min ((own_ushr i0 (4 : Int32)) &&& (3 : Int32)) (2 : Int32))), .val (.ref b3), .val (.ref b8), .val (.ref b9)]) rfl k) ?_
      show Go p e below Φ T10 (mkF m 92 #[.val (.int i0), .val (.int i1), .val (.int i2), .val (.int i3), .val (.int i4), .val (.int i5), .val (.int (0 : Int32)), .val (.int (own_min ((own_ushr i0 (1 : Int32)) &&& (3 : Int32)) (2 : Int32))), .val (.int (own_min ((own_ushr i0 (4 : Int32)) &&& (3 : Int32)) (2 : Int32))), .val (.ref b3), .val (.ref b8), .val (.ref b9)] [])
      refine Go.of (fun t k => XS.aload X10.here hx rfl (hb hby at_92) rfl rfl  k) ?_
      show Go p e below Φ T10 (mkF m 94 #[.val (.int i0), .val (.int i1), .val (.int i2), .val (.int i3), .val (.int i4), .val (.int i5), .val (.int (0 : Int32)), .val (.int (own_min ((own_ushr i0 (1 : Int32)) &&& (3 : Int32)) (2 : Int32))), .val (.int (own_min ((own_ushr i0 (4 : Int32)) &&& (3 : Int32)) (2 : Int32))), .val (.ref b3), .val (.ref b8), .val (.ref b9)] [(.ref b9)])
      obtain ⟨cq11, kq11, q11a, q11b, q11c⟩ := isOf hZ rfl E_b9
      obtain ⟨_, _, ⟨T11, L11, k11, n11⟩, -, X11, ⟨Lc11, hQ11, l11, y11, z11⟩, st11⟩ := X10.virtualBack hx (y := (⟨"com/example/signalbox/signalbox/tramlines/Card", "isConductor", "()Z"⟩ : MethodName)) (z := (⟨"com/example/signalbox/signalbox/tramlines/Card", "isConductor", "()Z"⟩ : MethodName)) hown (mvT hZ (hw _ (List.mem_of_getElem? (i := 52) rfl))) (mvT hZ (hw _ (List.mem_of_getElem? (i := 53) rfl))) (notFace_of_selects (args := #[]) (mvT hZ (hw _ (List.mem_of_getElem? (i := 55) rfl)))) (mvT hZ (hw _ (List.mem_of_getElem? (i := 55) rfl))) (mvT hZ (hw _ (List.mem_of_getElem? (i := 54) rfl))) (by decide) (backOf (W := 0) (rm8r l Z a0 hw [] b9 b3 T10.heap n0 Z10 F_b9_line) hZ (hw _ (List.mem_of_getElem? (i := 56) rfl)) (hw _ (List.mem_of_getElem? (i := 32) rfl)) (by decide) (by decide)) q11a q11c (g := (mkF m 94 #[.val (.int i0), .val (.int i1), .val (.int i2), .val (.int i3), .val (.int i4), .val (.int i5), .val (.int (0 : Int32)), .val (.int (own_min ((own_ushr i0 (1 : Int32)) &&& (3 : Int32)) (2 : Int32))), .val (.int (own_min ((own_ushr i0 (4 : Int32)) &&& (3 : Int32)) (2 : Int32))), .val (.ref b3), .val (.ref b8), .val (.ref b9)] [(.ref b9)])) rfl (by rw [hml]; rfl) (Steps.refl _) (argsL := []) (rest := []) (lenOf own_pd13 rfl) rfl (by show 2 * 0 + _ ≤ _; exact Nat.le_of_eq rfl) (hb hby at_94) (fun _ _ => ⟨rfl, rfl, (by decide : 9 + 0 ≤ _), (by decide : 57 + 0 ≤ _)⟩)
      dsimp only [Pt.U, Pt.locs, Pt.cells, Pt.slots] at X11 l11 y11 z11 st11 hQ11
      subst l11 y11 z11
      obtain ⟨rfl, N11q, e11q⟩ := hQ11
      have N11 := Fr.app N10 N11q
      obtain ⟨lc11, X11, N11⟩ : ∃ lc, Stand p l e room_1 (s.setVm T8.vm) m #[(.int i0), (.int i1), (.int i2), (.int i3), (.int i4), (.int i5)] below meth c T11 lc 9 57 ∧ Fr n0 lc := ⟨_, X11, N11⟩
      refine Go.tr st11 ?_
      show Go p e below Φ T11 (mkF m 97 #[.val (.int i0), .val (.int i1), .val (.int i2), .val (.int i3), .val (.int i4), .val (.int i5), .val (.int (0 : Int32)), .val (.int (own_min ((own_ushr i0 (1 : Int32)) &&& (3 : Int32)) (2 : Int32))), .val (.int (own_min ((own_ushr i0 (4 : Int32)) &&& (3 : Int32)) (2 : Int32))), .val (.ref b3), .val (.ref b8), .val (.ref b9)] [(.int (0 : Int32))])
      refine Go.of (fun t k => XS.iload X11.here hx rfl (hb hby at_97) rfl  k) ?_
      show Go p e below Φ T11 (mkF m 99 #[.val (.int i0), .val (.int i1), .val (.int i2), .val (.int i3), .val (.int i4), .val (.int i5), .val (.int (0 : Int32)), .val (.int (own_min ((own_ushr i0 (1 : Int32)) &&& (3 : Int32)) (2 : Int32))), .val (.int (own_min ((own_ushr i0 (4 : Int32)) &&& (3 : Int32)) (2 : Int32))), .val (.ref b3), .val (.ref b8), .val (.ref b9)] [(.int (0 : Int32)), (.int (0 : Int32))])
      refine Go.of (fun t k => XS.icmpNo X11.here hx rfl (hb hby at_99) rfl (XT.ii_ne_f rfl) k) ?_
      show Go p e below Φ T11 (mkF m 102 #[.val (.int i0), .val (.int i1), .val (.int i2), .val (.int i3), .val (.int i4), .val (.int i5), .val (.int (0 : Int32)), .val (.int (own_min ((own_ushr i0 (1 : Int32)) &&& (3 : Int32)) (2 : Int32))), .val (.int (own_min ((own_ushr i0 (4 : Int32)) &&& (3 : Int32)) (2 : Int32))), .val (.ref b3), .val (.ref b8), .val (.ref b9)] [])
      refine Go.of (fun t k => XS.iconst X11.here hx rfl (hb hby at_102) k) ?_
      show Go p e below Φ T11 (mkF m 103 #[.val (.int i0), .val (.int i1), .val (.int i2), .val (.int i3), .val (.int i4), .val (.int i5), .val (.int (0 : Int32)), .val (.int (own_min ((own_ushr i0 (1 : Int32)) &&& (3 : Int32)) (2 : Int32))), .val (.int (own_min ((own_ushr i0 (4 : Int32)) &&& (3 : Int32)) (2 : Int32))), .val (.ref b3), .val (.ref b8), .val (.ref b9)] [(.int (1 : Int32))])
      refine Go.of (fun t k => XS.goto X11.here hx rfl (pc0 := 103) (pc' := 107) rfl (hb hby at_103) (by decide) (by decide) k) ?_
      show Go p e below Φ T11 (mkF m 107 #[.val (.int i0), .val (.int i1), .val (.int i2), .val (.int i3), .val (.int i4), .val (.int i5), .val (.int (0 : Int32)), .val (.int (own_min ((own_ushr i0 (1 : Int32)) &&& (3 : Int32)) (2 : Int32))), .val (.int (own_min ((own_ushr i0 (4 : Int32)) &&& (3 : Int32)) (2 : Int32))), .val (.ref b3), .val (.ref b8), .val (.ref b9)] [(.int (1 : Int32))])
      rw [hΦ]
      refine Go.retW X11 hx Bd.notSynchronized hS8 (own_kk (e11q) hk10) hZ hEL (own_rr hh (e11q) hR10) Bd.returns rfl (Or.inl ⟨rfl, Or.inr (Or.inl rfl), _, rfl⟩) (hb hby at_107) (by decide) (by decide) ?_
      rw [(e11q)]
      exact ⟨rfl, N11⟩
  · refine Go.of (fun t k => XS.ifNo X0.here hx rfl (hb hby at_3) rfl (XT.i0_eq_f hc3) k) ?_
    show Go p e below Φ s₁ (mkF m 6 #[.val (.int i0), .val (.int i1), .val (.int i2), .val (.int i3), .val (.int i4), .val (.int i5), .unset, .unset, .unset, .unset, .unset, .unset] [])
    refine Go.of (fun t k => XS.iconst X0.here hx rfl (hb hby at_6) k) ?_
    show Go p e below Φ s₁ (mkF m 7 #[.val (.int i0), .val (.int i1), .val (.int i2), .val (.int i3), .val (.int i4), .val (.int i5), .unset, .unset, .unset, .unset, .unset, .unset] [(.int (1 : Int32))])
    refine Go.of (fun t k => XS.goto X0.here hx rfl (pc0 := 7) (pc' := 11) rfl (hb hby at_7) (by decide) (by decide) k) ?_
    show Go p e below Φ s₁ (mkF m 11 #[.val (.int i0), .val (.int i1), .val (.int i2), .val (.int i3), .val (.int i4), .val (.int i5), .unset, .unset, .unset, .unset, .unset, .unset] [(.int (1 : Int32))])
    refine Go.of (fun t k => XS.istore X0.here hx rfl (hb hby at_11) rfl (l' := #[.val (.int i0), .val (.int i1), .val (.int i2), .val (.int i3), .val (.int i4), .val (.int i5), .val (.int (1 : Int32)), .unset, .unset, .unset, .unset, .unset]) rfl k) ?_
    show Go p e below Φ s₁ (mkF m 13 #[.val (.int i0), .val (.int i1), .val (.int i2), .val (.int i3), .val (.int i4), .val (.int i5), .val (.int (1 : Int32)), .unset, .unset, .unset, .unset, .unset] [])
    refine Go.of (fun t k => XS.iloadN X0.here hx rfl (hb hby at_13) rfl  k) ?_
    show Go p e below Φ s₁ (mkF m 14 #[.val (.int i0), .val (.int i1), .val (.int i2), .val (.int i3), .val (.int i4), .val (.int i5), .val (.int (1 : Int32)), .unset, .unset, .unset, .unset, .unset] [(.int i0)])
    refine Go.of (fun t k => XS.iconst X0.here hx rfl (hb hby at_14) k) ?_
    show Go p e below Φ s₁ (mkF m 15 #[.val (.int i0), .val (.int i1), .val (.int i2), .val (.int i3), .val (.int i4), .val (.int i5), .val (.int (1 : Int32)), .unset, .unset, .unset, .unset, .unset] [(.int (1 : Int32)), (.int i0)])
    refine Go.of (fun t k => XS.iushr X0.here hx rfl (hb hby at_15) rfl k) ?_
    show Go p e below Φ s₁ (mkF m 16 #[.val (.int i0), .val (.int i1), .val (.int i2), .val (.int i3), .val (.int i4), .val (.int i5), .val (.int (1 : Int32)), .unset, .unset, .unset, .unset, .unset] [(.int (own_ushr i0 (1 : Int32)))])
    refine Go.of (fun t k => XS.iconst X0.here hx rfl (hb hby at_16) k) ?_
    show Go p e below Φ s₁ (mkF m 17 #[.val (.int i0), .val (.int i1), .val (.int i2), .val (.int i3), .val (.int i4), .val (.int i5), .val (.int (1 : Int32)), .unset, .unset, .unset, .unset, .unset] [(.int (3 : Int32)), (.int (own_ushr i0 (1 : Int32)))])
    refine Go.of (fun t k => XS.iand X0.here hx rfl (hb hby at_17) rfl k) ?_
    show Go p e below Φ s₁ (mkF m 18 #[.val (.int i0), .val (.int i1), .val (.int i2), .val (.int i3), .val (.int i4), .val (.int i5), .val (.int (1 : Int32)), .unset, .unset, .unset, .unset, .unset] [(.int ((own_ushr i0 (1 : Int32)) &&& (3 : Int32)))])
    refine Go.of (fun t k => XS.iconst X0.here hx rfl (hb hby at_18) k) ?_
    show Go p e below Φ s₁ (mkF m 19 #[.val (.int i0), .val (.int i1), .val (.int i2), .val (.int i3), .val (.int i4), .val (.int i5), .val (.int (1 : Int32)), .unset, .unset, .unset, .unset, .unset] [(.int (2 : Int32)), (.int ((own_ushr i0 (1 : Int32)) &&& (3 : Int32)))])
    obtain ⟨_, _, ⟨T12, L12, k12, n12⟩, -, X12, ⟨Lc12, hQ12, l12, y12, z12⟩, st12⟩ := Jvm.LawKit.callS X0 hx (y := (⟨"java/lang/Math", "min", "(II)I"⟩ : MethodName)) hown (mvT hZ (hw _ (List.mem_of_getElem? (i := 0) rfl))) (mvT hZ (hw _ (List.mem_of_getElem? (i := 1) rfl))) (mvT hZ (hw _ (List.mem_of_getElem? (i := 2) rfl))) (mvT hZ (hw _ (List.mem_of_getElem? (i := 3) rfl))) (by decide) (backOf (W := 0) (rm1 l Z a0 hw [] ((own_ushr i0 (1 : Int32)) &&& (3 : Int32)) (2 : Int32) h0 n0 Z0) hZ (hw _ (List.mem_of_getElem? (i := 3) rfl)) (hw _ (List.mem_of_getElem? (i := 2) rfl)) (by decide) (by decide)) (g := (mkF m 19 #[.val (.int i0), .val (.int i1), .val (.int i2), .val (.int i3), .val (.int i4), .val (.int i5), .val (.int (1 : Int32)), .unset, .unset, .unset, .unset, .unset] [(.int (2 : Int32)), (.int ((own_ushr i0 (1 : Int32)) &&& (3 : Int32)))])) rfl (by rw [hml]; rfl) (argsL := [(.int ((own_ushr i0 (1 : Int32)) &&& (3 : Int32))), (.int (2 : Int32))]) (rest := []) (lenOf own_pd10 rfl) rfl (by show 2 * 0 + _ ≤ _; exact Nat.le_of_eq rfl) (hb hby at_19) (fun _ _ => ⟨rfl, e0, (by decide : 0 + 0 ≤ _), (by decide : 0 + 0 ≤ _)⟩)
    dsimp only [Pt.U, Pt.locs, Pt.cells, Pt.slots] at X12 l12 y12 z12 st12 hQ12
    subst l12 y12 z12
    obtain ⟨rfl, N12q, e12q⟩ := hQ12
    have N12 := Fr.app N0 N12q
    obtain ⟨lc12, X12, N12⟩ : ∃ lc, Stand p l e room_1 (s.setVm s.vm) m #[(.int i0), (.int i1), (.int i2), (.int i3), (.int i4), (.int i5)] below meth c T12 lc 0 0 ∧ Fr n0 lc := ⟨_, X12, N12⟩
    refine Go.of st12 ?_
    show Go p e below Φ T12 (mkF m 22 #[.val (.int i0), .val (.int i1), .val (.int i2), .val (.int i3), .val (.int i4), .val (.int i5), .val (.int (1 : Int32)), .unset, .unset, .unset, .unset, .unset] [(.int (own_min ((own_ushr i0 (1 : Int32)) &&& (3 : Int32)) (2 : Int32)))])
    refine Go.of (fun t k => XS.istore X12.here hx rfl (hb hby at_22) rfl (l' := #[.val (.int i0), .val (.int i1), .val (.int i2), .val (.int i3), .val (.int i4), .val (.int i5), .val (.int (1 : Int32)), .val (.int (own_min ((own_ushr i0 (1 : Int32)) &&& (3 : Int32)) (2 : Int32))), .unset, .unset, .unset, .unset]) rfl k) ?_
    show Go p e below Φ T12 (mkF m 24 #[.val (.int i0), .val (.int i1), .val (.int i2), .val (.int i3), .val (.int i4), .val (.int i5), .val (.int (1 : Int32)), .val (.int (own_min ((own_ushr i0 (1 : Int32)) &&& (3 : Int32)) (2 : Int32))), .unset, .unset, .unset, .unset] [])
    refine Go.of (fun t k => XS.iloadN X12.here hx rfl (hb hby at_24) rfl  k) ?_
    show Go p e below Φ T12 (mkF m 25 #[.val (.int i0), .val (.int i1), .val (.int i2), .val (.int i3), .val (.int i4), .val (.int i5), .val (.int (1 : Int32)), .val (.int (own_min ((own_ushr i0 (1 : Int32)) &&& (3 : Int32)) (2 : Int32))), .unset, .unset, .unset, .unset] [(.int i0)])
    refine Go.of (fun t k => XS.iconst X12.here hx rfl (hb hby at_25) k) ?_
    show Go p e below Φ T12 (mkF m 26 #[.val (.int i0), .val (.int i1), .val (.int i2), .val (.int i3), .val (.int i4), .val (.int i5), .val (.int (1 : Int32)), .val (.int (own_min ((own_ushr i0 (1 : Int32)) &&& (3 : Int32)) (2 : Int32))), .unset, .unset, .unset, .unset] [(.int (4 : Int32)), (.int i0)])
    refine Go.of (fun t k => XS.iushr X12.here hx rfl (hb hby at_26) rfl k) ?_
    show Go p e below Φ T12 (mkF m 27 #[.val (.int i0), .val (.int i1), .val (.int i2), .val (.int i3), .val (.int i4), .val (.int i5), .val (.int (1 : Int32)), .val (.int (own_min ((own_ushr i0 (1 : Int32)) &&& (3 : Int32)) (2 : Int32))), .unset, .unset, .unset, .unset] [(.int (own_ushr i0 (4 : Int32)))])
    refine Go.of (fun t k => XS.iconst X12.here hx rfl (hb hby at_27) k) ?_
    show Go p e below Φ T12 (mkF m 28 #[.val (.int i0), .val (.int i1), .val (.int i2), .val (.int i3), .val (.int i4), .val (.int i5), .val (.int (1 : Int32)), .val (.int (own_min ((own_ushr i0 (1 : Int32)) &&& (3 : Int32)) (2 : Int32))), .unset, .unset, .unset, .unset] [(.int (3 : Int32)), (.int (own_ushr i0 (4 : Int32)))])
    refine Go.of (fun t k => XS.iand X12.here hx rfl (hb hby at_28) rfl k) ?_
    show Go p e below Φ T12 (mkF m 29 #[.val (.int i0), .val (.int i1), .val (.int i2), .val (.int i3), .val (.int i4), .val (.int i5), .val (.int (1 : Int32)), .val (.int (own_min ((own_ushr i0 (1 : Int32)) &&& (3 : Int32)) (2 : Int32))), .unset, .unset, .unset, .unset] [(.int ((own_ushr i0 (4 : Int32)) &&& (3 : Int32)))])
    refine Go.of (fun t k => XS.iconst X12.here hx rfl (hb hby at_29) k) ?_
    show Go p e below Φ T12 (mkF m 30 #[.val (.int i0), .val (.int i1), .val (.int i2), .val (.int i3), .val (.int i4), .val (.int i5), .val (.int (1 : Int32)), .val (.int (own_min ((own_ushr i0 (1 : Int32)) &&& (3 : Int32)) (2 : Int32))), .unset, .unset, .unset, .unset] [(.int (2 : Int32)), (.int ((own_ushr i0 (4 : Int32)) &&& (3 : Int32)))])
    obtain ⟨_, _, ⟨T13, L13, k13, n13⟩, -, X13, ⟨Lc13, hQ13, l13, y13, z13⟩, st13⟩ := Jvm.LawKit.callS X12 hx (y := (⟨"java/lang/Math", "min", "(II)I"⟩ : MethodName)) hown (mvT hZ (hw _ (List.mem_of_getElem? (i := 0) rfl))) (mvT hZ (hw _ (List.mem_of_getElem? (i := 1) rfl))) (mvT hZ (hw _ (List.mem_of_getElem? (i := 2) rfl))) (mvT hZ (hw _ (List.mem_of_getElem? (i := 3) rfl))) (by decide) (backOf (W := 0) (rm1 l Z a0 hw [] ((own_ushr i0 (4 : Int32)) &&& (3 : Int32)) (2 : Int32) h0 n0 Z0) hZ (hw _ (List.mem_of_getElem? (i := 3) rfl)) (hw _ (List.mem_of_getElem? (i := 2) rfl)) (by decide) (by decide)) (g := (mkF m 30 #[.val (.int i0), .val (.int i1), .val (.int i2), .val (.int i3), .val (.int i4), .val (.int i5), .val (.int (1 : Int32)), .val (.int (own_min ((own_ushr i0 (1 : Int32)) &&& (3 : Int32)) (2 : Int32))), .unset, .unset, .unset, .unset] [(.int (2 : Int32)), (.int ((own_ushr i0 (4 : Int32)) &&& (3 : Int32)))])) rfl (by rw [hml]; rfl) (argsL := [(.int ((own_ushr i0 (4 : Int32)) &&& (3 : Int32))), (.int (2 : Int32))]) (rest := []) (lenOf own_pd10 rfl) rfl (by show 2 * 0 + _ ≤ _; exact Nat.le_of_eq rfl) (hb hby at_30) (fun _ _ => ⟨rfl, (e12q), (by decide : 0 + 0 ≤ _), (by decide : 0 + 0 ≤ _)⟩)
    dsimp only [Pt.U, Pt.locs, Pt.cells, Pt.slots] at X13 l13 y13 z13 st13 hQ13
    subst l13 y13 z13
    obtain ⟨rfl, N13q, e13q⟩ := hQ13
    have N13 := Fr.app N12 N13q
    obtain ⟨lc13, X13, N13⟩ : ∃ lc, Stand p l e room_1 (s.setVm s.vm) m #[(.int i0), (.int i1), (.int i2), (.int i3), (.int i4), (.int i5)] below meth c T13 lc 0 0 ∧ Fr n0 lc := ⟨_, X13, N13⟩
    refine Go.of st13 ?_
    show Go p e below Φ T13 (mkF m 33 #[.val (.int i0), .val (.int i1), .val (.int i2), .val (.int i3), .val (.int i4), .val (.int i5), .val (.int (1 : Int32)), .val (.int (own_min ((own_ushr i0 (1 : Int32)) &&& (3 : Int32)) (2 : Int32))), .unset, .unset, .unset, .unset] [(.int (own_min ((own_ushr i0 (4 : Int32)) &&& (3 : Int32)) (2 : Int32)))])
    refine Go.of (fun t k => XS.istore X13.here hx rfl (hb hby at_33) rfl (l' := #[.val (.int i0), .val (.int i1), .val (.int i2), .val (.int i3), .val (.int i4), .val (.int i5), .val (.int (1 : Int32)), .val (.int (own_min ((own_ushr i0 (1 : Int32)) &&& (3 : Int32)) (2 : Int32))), .val (.int (own_min ((own_ushr i0 (4 : Int32)) &&& (3 : Int32)) (2 : Int32))), .unset, .unset, .unset]) rfl k) ?_
    show Go p e below Φ T13 (mkF m 35 #[.val (.int i0), .val (.int i1), .val (.int i2), .val (.int i3), .val (.int i4), .val (.int i5), .val (.int (1 : Int32)), .val (.int (own_min ((own_ushr i0 (1 : Int32)) &&& (3 : Int32)) (2 : Int32))), .val (.int (own_min ((own_ushr i0 (4 : Int32)) &&& (3 : Int32)) (2 : Int32))), .unset, .unset, .unset] [])
    refine Go.of (fun t k => XS.iload X13.here hx rfl (hb hby at_35) rfl  k) ?_
    show Go p e below Φ T13 (mkF m 37 #[.val (.int i0), .val (.int i1), .val (.int i2), .val (.int i3), .val (.int i4), .val (.int i5), .val (.int (1 : Int32)), .val (.int (own_min ((own_ushr i0 (1 : Int32)) &&& (3 : Int32)) (2 : Int32))), .val (.int (own_min ((own_ushr i0 (4 : Int32)) &&& (3 : Int32)) (2 : Int32))), .unset, .unset, .unset] [(.int (1 : Int32))])
    refine Go.of (fun t k => XS.ifNo X13.here hx rfl (hb hby at_37) rfl (XT.i0_eq_f (by decide)) k) ?_
    show Go p e below Φ T13 (mkF m 40 #[.val (.int i0), .val (.int i1), .val (.int i2), .val (.int i3), .val (.int i4), .val (.int i5), .val (.int (1 : Int32)), .val (.int (own_min ((own_ushr i0 (1 : Int32)) &&& (3 : Int32)) (2 : Int32))), .val (.int (own_min ((own_ushr i0 (4 : Int32)) &&& (3 : Int32)) (2 : Int32))), .unset, .unset, .unset] [])
    refine Go.of (fun t k => XS.aconstNull X13.here hx rfl (hb hby at_40) k) ?_
    show Go p e below Φ T13 (mkF m 41 #[.val (.int i0), .val (.int i1), .val (.int i2), .val (.int i3), .val (.int i4), .val (.int i5), .val (.int (1 : Int32)), .val (.int (own_min ((own_ushr i0 (1 : Int32)) &&& (3 : Int32)) (2 : Int32))), .val (.int (own_min ((own_ushr i0 (4 : Int32)) &&& (3 : Int32)) (2 : Int32))), .unset, .unset, .unset] [.null])
    refine Go.of (fun t k => XS.goto X13.here hx rfl (pc0 := 41) (pc' := 51) rfl (hb hby at_41) (by decide) (by decide) k) ?_
    show Go p e below Φ T13 (mkF m 51 #[.val (.int i0), .val (.int i1), .val (.int i2), .val (.int i3), .val (.int i4), .val (.int i5), .val (.int (1 : Int32)), .val (.int (own_min ((own_ushr i0 (1 : Int32)) &&& (3 : Int32)) (2 : Int32))), .val (.int (own_min ((own_ushr i0 (4 : Int32)) &&& (3 : Int32)) (2 : Int32))), .unset, .unset, .unset] [.null])
    refine Go.of (fun t k => XS.astore X13.here hx rfl (hb hby at_51) rfl rfl (l' := #[.val (.int i0), .val (.int i1), .val (.int i2), .val (.int i3), .val (.int i4), .val (.int i5), .val (.int (1 : Int32)), .val (.int (own_min ((own_ushr i0 (1 : Int32)) &&& (3 : Int32)) (2 : Int32))), .val (.int (own_min ((own_ushr i0 (4 : Int32)) &&& (3 : Int32)) (2 : Int32))), .val .null, .unset, .unset]) rfl k) ?_
    show Go p e below Φ T13 (mkF m 53 #[.val (.int i0), .val (.int i1), .val (.int i2), .val (.int i3), .val (.int i4), .val (.int i5), .val (.int (1 : Int32)), .val (.int (own_min ((own_ushr i0 (1 : Int32)) &&& (3 : Int32)) (2 : Int32))), .val (.int (own_min ((own_ushr i0 (4 : Int32)) &&& (3 : Int32)) (2 : Int32))), .val .null, .unset, .unset] [])
    refine Go.of (fun t k => XS.iloadN X13.here hx rfl (hb hby at_53) rfl  k) ?_
    show Go p e below Φ T13 (mkF m 54 #[.val (.int i0), .val (.int i1), .val (.int i2), .val (.int i3), .val (.int i4), .val (.int i5), .val (.int (1 : Int32)), .val (.int (own_min ((own_ushr i0 (1 : Int32)) &&& (3 : Int32)) (2 : Int32))), .val (.int (own_min ((own_ushr i0 (4 : Int32)) &&& (3 : Int32)) (2 : Int32))), .val .null, .unset, .unset] [(.int i0)])
    refine Go.of (fun t k => XS.bipush X13.here hx rfl (hb hby at_54) k) ?_
    show Go p e below Φ T13 (mkF m 56 #[.val (.int i0), .val (.int i1), .val (.int i2), .val (.int i3), .val (.int i4), .val (.int i5), .val (.int (1 : Int32)), .val (.int (own_min ((own_ushr i0 (1 : Int32)) &&& (3 : Int32)) (2 : Int32))), .val (.int (own_min ((own_ushr i0 (4 : Int32)) &&& (3 : Int32)) (2 : Int32))), .val .null, .unset, .unset] [(.int (8 : Int32)), (.int i0)])
    refine Go.of (fun t k => XS.iand X13.here hx rfl (hb hby at_56) rfl k) ?_
    show Go p e below Φ T13 (mkF m 57 #[.val (.int i0), .val (.int i1), .val (.int i2), .val (.int i3), .val (.int i4), .val (.int i5), .val (.int (1 : Int32)), .val (.int (own_min ((own_ushr i0 (1 : Int32)) &&& (3 : Int32)) (2 : Int32))), .val (.int (own_min ((own_ushr i0 (4 : Int32)) &&& (3 : Int32)) (2 : Int32))), .val .null, .unset, .unset] [(.int (i0 &&& (8 : Int32)))])
    by_cases hc57 : (i0 &&& (8 : Int32)) = (0 : Int32)
    · refine Go.of (fun t k => XS.ifYes X13.here hx rfl (pc0 := 57) (pc' := 65) rfl (hb hby at_57) rfl (XT.i0_eq_t hc57) (by decide) (by decide) k) ?_
      show Go p e below Φ T13 (mkF m 65 #[.val (.int i0), .val (.int i1), .val (.int i2), .val (.int i3), .val (.int i4), .val (.int i5), .val (.int (1 : Int32)), .val (.int (own_min ((own_ushr i0 (1 : Int32)) &&& (3 : Int32)) (2 : Int32))), .val (.int (own_min ((own_ushr i0 (4 : Int32)) &&& (3 : Int32)) (2 : Int32))), .val .null, .unset, .unset] [])
      refine Go.of (fun t k => XS.iload X13.here hx rfl (hb hby at_65) rfl  k) ?_
      show Go p e below Φ T13 (mkF m 67 #[.val (.int i0), .val (.int i1), .val (.int i2), .val (.int i3), .val (.int i4), .val (.int i5), .val (.int (1 : Int32)), .val (.int (own_min ((own_ushr i0 (1 : Int32)) &&& (3 : Int32)) (2 : Int32))), .val (.int (own_min ((own_ushr i0 (4 : Int32)) &&& (3 : Int32)) (2 : Int32))), .val .null, .unset, .unset] [(.int (own_min ((own_ushr i0 (4 : Int32)) &&& (3 : Int32)) (2 : Int32)))])
      refine Go.of (fun t k => XS.iloadN X13.here hx rfl (hb hby at_67) rfl  k) ?_
      show Go p e below Φ T13 (mkF m 68 #[.val (.int i0), .val (.int i1), .val (.int i2), .val (.int i3), .val (.int i4), .val (.int i5), .val (.int (1 : Int32)), .val (.int (own_min ((own_ushr i0 (1 : Int32)) &&& (3 : Int32)) (2 : Int32))), .val (.int (own_min ((own_ushr i0 (4 : Int32)) &&& (3 : Int32)) (2 : Int32))), .val .null, .unset, .unset] [(.int i2), (.int (own_min ((own_ushr i0 (4 : Int32)) &&& (3 : Int32)) (2 : Int32)))])
      refine Go.of (fun t k => XS.iloadN X13.here hx rfl (hb hby at_68) rfl  k) ?_
      show Go p e below Φ T13 (mkF m 69 #[.val (.int i0), .val (.int i1), .val (.int i2), .val (.int i3), .val (.int i4), .val (.int i5), .val (.int (1 : Int32)), .val (.int (own_min ((own_ushr i0 (1 : Int32)) &&& (3 : Int32)) (2 : Int32))), .val (.int (own_min ((own_ushr i0 (4 : Int32)) &&& (3 : Int32)) (2 : Int32))), .val .null, .unset, .unset] [(.int i1), (.int i2), (.int (own_min ((own_ushr i0 (4 : Int32)) &&& (3 : Int32)) (2 : Int32)))])
      obtain ⟨_, _, ⟨T14, L14, k14, n14⟩, -, X14, hS14, hg14, ⟨Lc14, hQ14, l14, y14, z14, A14⟩, st14⟩ := callSS X13 hx (y := (⟨"com/example/signalbox/signalbox/tramlines/CardIsConductorPinLaw", "str", "(III)Ljava/lang/String;"⟩ : MethodName)) hown (mvT hZ (hw _ (List.mem_of_getElem? (i := 4) rfl))) (mvT hZ (hw _ (List.mem_of_getElem? (i := 5) rfl))) (mvT hZ (hw _ (List.mem_of_getElem? (i := 6) rfl))) (mvT hZ (hw _ (List.mem_of_getElem? (i := 7) rfl))) (by decide) (backOfSH (W := 0) (rm2 l Z a0 hw [] (own_min ((own_ushr i0 (4 : Int32)) &&& (3 : Int32)) (2 : Int32)) i2 i1 w h0 n0 Z0 (S_COMPACT_STRINGS.ext O0.2) hw0) hZ (hw _ (List.mem_of_getElem? (i := 7) rfl)) (hw _ (List.mem_of_getElem? (i := 6) rfl)) (by decide) (by decide) hEL hR0.1) (g := (mkF m 69 #[.val (.int i0), .val (.int i1), .val (.int i2), .val (.int i3), .val (.int i4), .val (.int i5), .val (.int (1 : Int32)), .val (.int (own_min ((own_ushr i0 (1 : Int32)) &&& (3 : Int32)) (2 : Int32))), .val (.int (own_min ((own_ushr i0 (4 : Int32)) &&& (3 : Int32)) (2 : Int32))), .val .null, .unset, .unset] [(.int i1), (.int i2), (.int (own_min ((own_ushr i0 (4 : Int32)) &&& (3 : Int32)) (2 : Int32)))])) rfl (by rw [hml]; rfl) (argsL := [(.int (own_min ((own_ushr i0 (4 : Int32)) &&& (3 : Int32)) (2 : Int32))), (.int i2), (.int i1)]) (rest := []) (lenOf own_pd11 rfl) rfl (by show 2 * 0 + _ ≤ _; exact Nat.le_of_eq rfl) (hb hby at_69) (fun _ _ => ⟨rfl, (e13q), (by decide : 0 + 6 ≤ _), (by decide : 0 + 12 ≤ _)⟩)
      dsimp only [Pt.U, Pt.locs, Pt.cells, Pt.slots] at X14 l14 y14 z14 st14 hQ14 A14 hS14 hg14
      subst l14 y14 z14
      obtain ⟨b14, rfl, N14q, K14q, s14q⟩ := hQ14
      have N14 := Fr.app N13 N14q
      have hZ := State.Warmed39.trans (t := s.setVm s.vm) hZ hS14.1
      have hown := own_fc hS14.1 hown
      have hSn14 := State.Since.trans hS0 hS14 (own_le (e13q) hk0 hg14)
      have hk14 := Nat.le_refl T14.heap.size
      have hR14 := hR0.trans A14
      obtain ⟨lc14, X14, N14⟩ : ∃ lc, Stand p l e room_1 (s.setVm T14.vm) m #[(.int i0), (.int i1), (.int i2), (.int i3), (.int i4), (.int i5)] below meth c T14 lc 6 12 ∧ Fr n0 lc := ⟨_, X14, N14⟩
      have g_b14 : n0 ≤ b14 := Nat.le_trans Z0 s14q
      have Z14 := Nat.le_trans Z0 K14q.1
      have O14 := O0.keep K14q all0
      refine Go.tr st14 ?_
      show Go p e below Φ T14 (mkF m 72 #[.val (.int i0), .val (.int i1), .val (.int i2), .val (.int i3), .val (.int i4), .val (.int i5), .val (.int (1 : Int32)), .val (.int (own_min ((own_ushr i0 (1 : Int32)) &&& (3 : Int32)) (2 : Int32))), .val (.int (own_min ((own_ushr i0 (4 : Int32)) &&& (3 : Int32)) (2 : Int32))), .val .null, .unset, .unset] [(.ref b14)])
      refine Go.of (fun t k => XS.astore X14.here hx rfl (hb hby at_72) rfl rfl (l' := #[.val (.int i0), .val (.int i1), .val (.int i2), .val (.int i3), .val (.int i4), .val (.int i5), .val (.int (1 : Int32)), .val (.int (own_min ((own_ushr i0 (1 : Int32)) &&& (3 : Int32)) (2 : Int32))), .val (.int (own_min ((own_ushr i0 (4 : Int32)) &&& (3 : Int32)) (2 : Int32))), .val .null, .val (.ref b14), .unset]) rfl k) ?_
      show Go p e below Φ T14 (mkF m 74 #[.val (.int i0), .val (.int i1), .val (.int i2), .val (.int i3), .val (.int i4), .val (.int i5), .val (.int (1 : Int32)), .val (.int (own_min ((own_ushr i0 (1 : Int32)) &&& (3 : Int32)) (2 : Int32))), .val (.int (own_min ((own_ushr i0 (4 : Int32)) &&& (3 : Int32)) (2 : Int32))), .val .null, .val (.ref b14), .unset] [])
      obtain ⟨T15, h15, X15, e15, E15, A15, D15, -, st15⟩ := newO X14 hx hZ hown (hw _ (List.mem_of_getElem? (i := 30) rfl)) (hw _ (List.mem_of_getElem? (i := 31) rfl)) (hw _ (List.mem_of_getElem? (i := 32) rfl)) rfl (g := (mkF m 74 #[.val (.int i0), .val (.int i1), .val (.int i2), .val (.int i3), .val (.int i4), .val (.int i5), .val (.int (1 : Int32)), .val (.int (own_min ((own_ushr i0 (1 : Int32)) &&& (3 : Int32)) (2 : Int32))), .val (.int (own_min ((own_ushr i0 (4 : Int32)) &&& (3 : Int32)) (2 : Int32))), .val .null, .val (.ref b14), .unset] [])) rfl (hb hby at_74) (by decide) (by decide)
      obtain ⟨b15, g15⟩ : ∃ z, z = T14.heap.size := ⟨_, rfl⟩
      rw [← g15] at A15 D15 st15
      have g_b15 : n0 ≤ b15 := Nat.le_trans Z14 (Nat.le_of_eq g15.symm)
      have Z15 := Nat.le_trans Z14 E15.1
      have O15 := O14.ext E15
      have Sf_b15 := Safe.ext E15 hR14.1 (Safe.new (Nat.le_of_eq g15.symm))
      have hR15 := hR14.trans (CHr.ext E15 hR14.1)
      have hk15 := Nat.le_trans hk14 E15.1
      have E_b15 := A15
      have F_b15_id : Fld Z h15 b15 "com/example/signalbox/signalbox/tramlines/Card" "id" "Ljava/lang/String;" .null := D15 (Or.inr (hw _ (List.mem_of_getElem? (i := 43) rfl))) (ty := (.object "java/lang/String")) (by decide)
      have F_b15_count : Fld Z h15 b15 "com/example/signalbox/signalbox/tramlines/Card" "count" "I" (.int (0 : Int32)) := D15 (Or.inr (hw _ (List.mem_of_getElem? (i := 45) rfl))) (ty := .int) (by decide)
      have F_b15_line : Fld Z h15 b15 "com/example/signalbox/signalbox/tramlines/Card" "line" "Ljava/lang/String;" .null := D15 (Or.inr (hw _ (List.mem_of_getElem? (i := 47) rfl))) (ty := (.object "java/lang/String")) (by decide)
      have F_b15_value : Fld Z h15 b15 "com/example/signalbox/signalbox/tramlines/Card" "value" "I" (.int (0 : Int32)) := D15 (Or.inr (hw _ (List.mem_of_getElem? (i := 49) rfl))) (ty := .int) (by decide)
      have F_b15_points : Fld Z h15 b15 "com/example/signalbox/signalbox/tramlines/Card" "points" "I" (.int (0 : Int32)) := D15 (Or.inr (hw _ (List.mem_of_getElem? (i := 51) rfl))) (ty := .int) (by decide)
      refine Go.of st15 ?_
      show Go p e below Φ T15 (mkF m 77 #[.val (.int i0), .val (.int i1), .val (.int i2), .val (.int i3), .val (.int i4), .val (.int i5), .val (.int (1 : Int32)), .val (.int (own_min ((own_ushr i0 (1 : Int32)) &&& (3 : Int32)) (2 : Int32))), .val (.int (own_min ((own_ushr i0 (4 : Int32)) &&& (3 : Int32)) (2 : Int32))), .val .null, .val (.ref b14), .unset] [(.ref b15)])
      refine Go.of (fun t k => XS.dup X15.here hx rfl (hb hby at_77) rfl rfl k) ?_
      show Go p e below Φ T15 (mkF m 78 #[.val (.int i0), .val (.int i1), .val (.int i2), .val (.int i3), .val (.int i4), .val (.int i5), .val (.int (1 : Int32)), .val (.int (own_min ((own_ushr i0 (1 : Int32)) &&& (3 : Int32)) (2 : Int32))), .val (.int (own_min ((own_ushr i0 (4 : Int32)) &&& (3 : Int32)) (2 : Int32))), .val .null, .val (.ref b14), .unset] [(.ref b15), (.ref b15)])
      refine Go.of (fun t k => XS.aload X15.here hx rfl (hb hby at_78) rfl rfl  k) ?_
      show Go p e below Φ T15 (mkF m 80 #[.val (.int i0), .val (.int i1), .val (.int i2), .val (.int i3), .val (.int i4), .val (.int i5), .val (.int (1 : Int32)), .val (.int (own_min ((own_ushr i0 (1 : Int32)) &&& (3 : Int32)) (2 : Int32))), .val (.int (own_min ((own_ushr i0 (4 : Int32)) &&& (3 : Int32)) (2 : Int32))), .val .null, .val (.ref b14), .unset] [(.ref b14), (.ref b15), (.ref b15)])
      refine Go.of (fun t k => XS.iloadN X15.here hx rfl (hb hby at_80) rfl  k) ?_
      show Go p e below Φ T15 (mkF m 81 #[.val (.int i0), .val (.int i1), .val (.int i2), .val (.int i3), .val (.int i4), .val (.int i5), .val (.int (1 : Int32)), .val (.int (own_min ((own_ushr i0 (1 : Int32)) &&& (3 : Int32)) (2 : Int32))), .val (.int (own_min ((own_ushr i0 (4 : Int32)) &&& (3 : Int32)) (2 : Int32))), .val .null, .val (.ref b14), .unset] [(.int i3), (.ref b14), (.ref b15), (.ref b15)])
      refine Go.of (fun t k => XS.aload X15.here hx rfl (hb hby at_81) rfl rfl  k) ?_
      show Go p e below Φ T15 (mkF m 83 #[.val (.int i0), .val (.int i1), .val (.int i2), .val (.int i3), .val (.int i4), .val (.int i5), .val (.int (1 : Int32)), .val (.int (own_min ((own_ushr i0 (1 : Int32)) &&& (3 : Int32)) (2 : Int32))), .val (.int (own_min ((own_ushr i0 (4 : Int32)) &&& (3 : Int32)) (2 : Int32))), .val .null, .val (.ref b14), .unset] [.null, (.int i3), (.ref b14), (.ref b15), (.ref b15)])
      refine Go.of (fun t k => XS.iload X15.here hx rfl (hb hby at_83) rfl  k) ?_
      show Go p e below Φ T15 (mkF m 85 #[.val (.int i0), .val (.int i1), .val (.int i2), .val (.int i3), .val (.int i4), .val (.int i5), .val (.int (1 : Int32)), .val (.int (own_min ((own_ushr i0 (1 : Int32)) &&& (3 : Int32)) (2 : Int32))), .val (.int (own_min ((own_ushr i0 (4 : Int32)) &&& (3 : Int32)) (2 : Int32))), .val .null, .val (.ref b14), .unset] [(.int i4), .null, (.int i3), (.ref b14), (.ref b15), (.ref b15)])
      refine Go.of (fun t k => XS.iload X15.here hx rfl (hb hby at_85) rfl  k) ?_
      show Go p e below Φ T15 (mkF m 87 #[.val (.int i0), .val (.int i1), .val (.int i2), .val (.int i3), .val (.int i4), .val (.int i5), .val (.int (1 : Int32)), .val (.int (own_min ((own_ushr i0 (1 : Int32)) &&& (3 : Int32)) (2 : Int32))), .val (.int (own_min ((own_ushr i0 (4 : Int32)) &&& (3 : Int32)) (2 : Int32))), .val .null, .val (.ref b14), .unset] [(.int i5), (.int i4), .null, (.int i3), (.ref b14), (.ref b15), (.ref b15)])
      obtain ⟨_, _, ⟨T16, L16, k16, n16⟩, -, X16, ⟨Lc16, hQ16, l16, y16, z16⟩, st16⟩ := X15.specialBack hx (y := (⟨"com/example/signalbox/signalbox/tramlines/Card", "<init>", "(Ljava/lang/String;ILjava/lang/String;II)V"⟩ : MethodName)) rfl hown (mvT hZ (hw _ (List.mem_of_getElem? (i := 33) rfl))) (mvT hZ (hw _ (List.mem_of_getElem? (i := 34) rfl))) (mvT hZ (hw _ (List.mem_of_getElem? (i := 35) rfl))) (by decide) (backOf (W := 1) (rm6n l Z a0 hw [] b15 b14 i3 i4 i5 (0 : Int32) (0 : Int32) (0 : Int32) h15 n0 Z15 F_b15_id F_b15_count F_b15_line F_b15_value F_b15_points E_b15 g_b15) hZ (hw _ (List.mem_of_getElem? (i := 35) rfl)) (hw _ (List.mem_of_getElem? (i := 32) rfl)) (by decide) (by decide)) (g := (mkF m 87 #[.val (.int i0), .val (.int i1), .val (.int i2), .val (.int i3), .val (.int i4), .val (.int i5), .val (.int (1 : Int32)), .val (.int (own_min ((own_ushr i0 (1 : Int32)) &&& (3 : Int32)) (2 : Int32))), .val (.int (own_min ((own_ushr i0 (4 : Int32)) &&& (3 : Int32)) (2 : Int32))), .val .null, .val (.ref b14), .unset] [(.int i5), (.int i4), .null, (.int i3), (.ref b14), (.ref b15), (.ref b15)])) rfl (by rw [hml]; rfl) (Steps.refl _) (a := b15) (argsL := [(.ref b14), (.int i3), .null, (.int i4), (.int i5)]) (rest := [(.ref b15)]) (lenOf own_pd12 rfl) rfl (by show 2 * 0 + _ ≤ _; exact Nat.le_of_eq rfl) (hb hby at_87) (fun _ _ => ⟨rfl, e15, (by decide : 7 + 0 ≤ _), (by decide : 17 + 0 ≤ _)⟩)
      dsimp only [Pt.U, Pt.locs, Pt.cells, Pt.slots] at X16 l16 y16 z16 st16 hQ16
      subst l16 y16 z16
      obtain ⟨rfl, N16q, K16q, c16_0⟩ := hQ16
      have N16 := Fr.app N14 N16q
      obtain ⟨lc16, X16, N16⟩ : ∃ lc, Stand p l e room_1 (s.setVm T14.vm) m #[(.int i0), (.int i1), (.int i2), (.int i3), (.int i4), (.int i5)] below meth c T16 lc 7 17 ∧ Fr n0 lc := ⟨_, X16, N16⟩
      have E_b15 := E_b15.keep K16q
      have hs16 := Sf_b15
      have Sf_b15 := Safe.keep K16q (fun x hx => by cases List.mem_singleton.mp hx; exact hs16) hR15.1 Sf_b15
      have hR16 := hR15.trans (CHr.keep K16q (fun x hx => by cases List.mem_singleton.mp hx; exact hs16) hR15.1)
      have hk16 := Nat.le_trans hk15 K16q.1
      have F_b15_line := c16_0
      have Z16 := Nat.le_trans Z15 K16q.1
      have O16 := O15.keep K16q (allS g_b15 all0)
      refine Go.tr st16 ?_
      show Go p e below Φ T16 (mkF m 90 #[.val (.int i0), .val (.int i1), .val (.int i2), .val (.int i3), .val (.int i4), .val (.int i5), .val (.int (1 : Int32)), .val (.int (own_min ((own_ushr i0 (1 : Int32)) &&& (3 : Int32)) (2 : Int32))), .val (.int (own_min ((own_ushr i0 (4 : Int32)) &&& (3 : Int32)) (2 : Int32))), .val .null, .val (.ref b14), .unset] [(.ref b15)])
      refine Go.of (fun t k => XS.astore X16.here hx rfl (hb hby at_90) rfl rfl (l' := #[.val (.int i0), .val (.int i1), .val (.int i2), .val (.int i3), .val (.int i4), .val (.int i5), .val (.int (1 : Int32)), .val (.int (own_min ((own_ushr i0 (1 : Int32)) &&& (3 : Int32)) (2 : Int32))), .val (.int (own_min ((own_ushr i0 (4 : Int32)) &&& (3 : Int32)) (2 : Int32))), .val .null, .val (.ref b14), .val (.ref b15)]) rfl k) ?_
      show Go p e below Φ T16 (mkF m 92 #[.val (.int i0), .val (.int i1), .val (.int i2), .val (.int i3), .val (.int i4), .val (.int i5), .val (.int (1 : Int32)), .val (.int (own_min ((own_ushr i0 (1 : Int32)) &&& (3 : Int32)) (2 : Int32))), .val (.int (own_min ((own_ushr i0 (4 : Int32)) &&& (3 : Int32)) (2 : Int32))), .val .null, .val (.ref b14), .val (.ref b15)] [])
      refine Go.of (fun t k => XS.aload X16.here hx rfl (hb hby at_92) rfl rfl  k) ?_
      show Go p e below Φ T16 (mkF m 94 #[.val (.int i0), .val (.int i1), .val (.int i2), .val (.int i3), .val (.int i4), .val (.int i5), .val (.int (1 : Int32)), .val (.int (own_min ((own_ushr i0 (1 : Int32)) &&& (3 : Int32)) (2 : Int32))), .val (.int (own_min ((own_ushr i0 (4 : Int32)) &&& (3 : Int32)) (2 : Int32))), .val .null, .val (.ref b14), .val (.ref b15)] [(.ref b15)])
      obtain ⟨cq17, kq17, q17a, q17b, q17c⟩ := isOf hZ rfl E_b15
      obtain ⟨_, _, ⟨T17, L17, k17, n17⟩, -, X17, ⟨Lc17, hQ17, l17, y17, z17⟩, st17⟩ := X16.virtualBack hx (y := (⟨"com/example/signalbox/signalbox/tramlines/Card", "isConductor", "()Z"⟩ : MethodName)) (z := (⟨"com/example/signalbox/signalbox/tramlines/Card", "isConductor", "()Z"⟩ : MethodName)) hown (mvT hZ (hw _ (List.mem_of_getElem? (i := 52) rfl))) (mvT hZ (hw _ (List.mem_of_getElem? (i := 53) rfl))) (notFace_of_selects (args := #[]) (mvT hZ (hw _ (List.mem_of_getElem? (i := 55) rfl)))) (mvT hZ (hw _ (List.mem_of_getElem? (i := 55) rfl))) (mvT hZ (hw _ (List.mem_of_getElem? (i := 54) rfl))) (by decide) (backOf (W := 0) (rm8n l Z a0 hw [] b15 T16.heap n0 Z16 F_b15_line) hZ (hw _ (List.mem_of_getElem? (i := 56) rfl)) (hw _ (List.mem_of_getElem? (i := 32) rfl)) (by decide) (by decide)) q17a q17c (g := (mkF m 94 #[.val (.int i0), .val (.int i1), .val (.int i2), .val (.int i3), .val (.int i4), .val (.int i5), .val (.int (1 : Int32)), .val (.int (own_min ((own_ushr i0 (1 : Int32)) &&& (3 : Int32)) (2 : Int32))), .val (.int (own_min ((own_ushr i0 (4 : Int32)) &&& (3 : Int32)) (2 : Int32))), .val .null, .val (.ref b14), .val (.ref b15)] [(.ref b15)])) rfl (by rw [hml]; rfl) (Steps.refl _) (argsL := []) (rest := []) (lenOf own_pd13 rfl) rfl (by show 2 * 0 + _ ≤ _; exact Nat.le_of_eq rfl) (hb hby at_94) (fun _ _ => ⟨rfl, rfl, (by decide : 7 + 0 ≤ _), (by decide : 17 + 0 ≤ _)⟩)
      dsimp only [Pt.U, Pt.locs, Pt.cells, Pt.slots] at X17 l17 y17 z17 st17 hQ17
      subst l17 y17 z17
      obtain ⟨rfl, N17q, e17q⟩ := hQ17
      have N17 := Fr.app N16 N17q
      obtain ⟨lc17, X17, N17⟩ : ∃ lc, Stand p l e room_1 (s.setVm T14.vm) m #[(.int i0), (.int i1), (.int i2), (.int i3), (.int i4), (.int i5)] below meth c T17 lc 7 17 ∧ Fr n0 lc := ⟨_, X17, N17⟩
      refine Go.tr st17 ?_
      show Go p e below Φ T17 (mkF m 97 #[.val (.int i0), .val (.int i1), .val (.int i2), .val (.int i3), .val (.int i4), .val (.int i5), .val (.int (1 : Int32)), .val (.int (own_min ((own_ushr i0 (1 : Int32)) &&& (3 : Int32)) (2 : Int32))), .val (.int (own_min ((own_ushr i0 (4 : Int32)) &&& (3 : Int32)) (2 : Int32))), .val .null, .val (.ref b14), .val (.ref b15)] [(.int (1 : Int32))])
      refine Go.of (fun t k => XS.iload X17.here hx rfl (hb hby at_97) rfl  k) ?_
      show Go p e below Φ T17 (mkF m 99 #[.val (.int i0), .val (.int i1), .val (.int i2), .val (.int i3), .val (.int i4), .val (.int i5), .val (.int (1 : Int32)), .val (.int (own_min ((own_ushr i0 (1 : Int32)) &&& (3 : Int32)) (2 : Int32))), .val (.int (own_min ((own_ushr i0 (4 : Int32)) &&& (3 : Int32)) (2 : Int32))), .val .null, .val (.ref b14), .val (.ref b15)] [(.int (1 : Int32)), (.int (1 : Int32))])
      refine Go.of (fun t k => XS.icmpNo X17.here hx rfl (hb hby at_99) rfl (XT.ii_ne_f rfl) k) ?_
      show Go p e below Φ T17 (mkF m 102 #[.val (.int i0), .val (.int i1), .val (.int i2), .val (.int i3), .val (.int i4), .val (.int i5), .val (.int (1 : Int32)), .val (.int (own_min ((own_ushr i0 (1 : Int32)) &&& (3 : Int32)) (2 : Int32))), .val (.int (own_min ((own_ushr i0 (4 : Int32)) &&& (3 : Int32)) (2 : Int32))), .val .null, .val (.ref b14), .val (.ref b15)] [])
      refine Go.of (fun t k => XS.iconst X17.here hx rfl (hb hby at_102) k) ?_
      show Go p e below Φ T17 (mkF m 103 #[.val (.int i0), .val (.int i1), .val (.int i2), .val (.int i3), .val (.int i4), .val (.int i5), .val (.int (1 : Int32)), .val (.int (own_min ((own_ushr i0 (1 : Int32)) &&& (3 : Int32)) (2 : Int32))), .val (.int (own_min ((own_ushr i0 (4 : Int32)) &&& (3 : Int32)) (2 : Int32))), .val .null, .val (.ref b14), .val (.ref b15)] [(.int (1 : Int32))])
      refine Go.of (fun t k => XS.goto X17.here hx rfl (pc0 := 103) (pc' := 107) rfl (hb hby at_103) (by decide) (by decide) k) ?_
      show Go p e below Φ T17 (mkF m 107 #[.val (.int i0), .val (.int i1), .val (.int i2), .val (.int i3), .val (.int i4), .val (.int i5), .val (.int (1 : Int32)), .val (.int (own_min ((own_ushr i0 (1 : Int32)) &&& (3 : Int32)) (2 : Int32))), .val (.int (own_min ((own_ushr i0 (4 : Int32)) &&& (3 : Int32)) (2 : Int32))), .val .null, .val (.ref b14), .val (.ref b15)] [(.int (1 : Int32))])
      rw [hΦ]
      refine Go.retW X17 hx Bd.notSynchronized hSn14 (own_kk (e17q) hk16) hZ hEL (own_rr hh (e17q) hR16) Bd.returns rfl (Or.inl ⟨rfl, Or.inr (Or.inl rfl), _, rfl⟩) (hb hby at_107) (by decide) (by decide) ?_
      rw [(e17q)]
      exact ⟨rfl, N17⟩
    · refine Go.of (fun t k => XS.ifNo X13.here hx rfl (hb hby at_57) rfl (XT.i0_eq_f hc57) k) ?_
      show Go p e below Φ T13 (mkF m 60 #[.val (.int i0), .val (.int i1), .val (.int i2), .val (.int i3), .val (.int i4), .val (.int i5), .val (.int (1 : Int32)), .val (.int (own_min ((own_ushr i0 (1 : Int32)) &&& (3 : Int32)) (2 : Int32))), .val (.int (own_min ((own_ushr i0 (4 : Int32)) &&& (3 : Int32)) (2 : Int32))), .val .null, .unset, .unset] [])
      obtain ⟨b18, T18, h18, k18, X18, e18, E18, hS18, hk18, hZ18, ho18, A18, -, st18⟩ := ldcOH X13 hx hZ hown (hw _ (List.mem_of_getElem? (i := 68) rfl)) (own_wS hw) (e13q) hS0 hk0 hEL hR0.1 (g := (mkF m 60 #[.val (.int i0), .val (.int i1), .val (.int i2), .val (.int i3), .val (.int i4), .val (.int i5), .val (.int (1 : Int32)), .val (.int (own_min ((own_ushr i0 (1 : Int32)) &&& (3 : Int32)) (2 : Int32))), .val (.int (own_min ((own_ushr i0 (4 : Int32)) &&& (3 : Int32)) (2 : Int32))), .val .null, .unset, .unset] [])) rfl (hb hby at_60) (n := 36) (by decide) (by decide) (by decide) (by decide)
      have hZ := hZ18
      have hown := ho18
      have hR18 := hR0.trans A18
      have Z18 := Nat.le_trans Z0 E18.1
      have O18 := O0.ext E18
      refine Go.of st18 ?_
      show Go p e below Φ T18 (mkF m 62 #[.val (.int i0), .val (.int i1), .val (.int i2), .val (.int i3), .val (.int i4), .val (.int i5), .val (.int (1 : Int32)), .val (.int (own_min ((own_ushr i0 (1 : Int32)) &&& (3 : Int32)) (2 : Int32))), .val (.int (own_min ((own_ushr i0 (4 : Int32)) &&& (3 : Int32)) (2 : Int32))), .val .null, .unset, .unset] [(.ref b18)])
      refine Go.of (fun t k => XS.goto X18.here hx rfl (pc0 := 62) (pc' := 72) rfl (hb hby at_62) (by decide) (by decide) k) ?_
      show Go p e below Φ T18 (mkF m 72 #[.val (.int i0), .val (.int i1), .val (.int i2), .val (.int i3), .val (.int i4), .val (.int i5), .val (.int (1 : Int32)), .val (.int (own_min ((own_ushr i0 (1 : Int32)) &&& (3 : Int32)) (2 : Int32))), .val (.int (own_min ((own_ushr i0 (4 : Int32)) &&& (3 : Int32)) (2 : Int32))), .val .null, .unset, .unset] [(.ref b18)])
      refine Go.of (fun t k => XS.astore X18.here hx rfl (hb hby at_72) rfl rfl (l' := #[.val (.int i0), .val (.int i1), .val (.int i2), .val (.int i3), .val (.int i4), .val (.int i5), .val (.int (1 : Int32)), .val (.int (own_min ((own_ushr i0 (1 : Int32)) &&& (3 : Int32)) (2 : Int32))), .val (.int (own_min ((own_ushr i0 (4 : Int32)) &&& (3 : Int32)) (2 : Int32))), .val .null, .val (.ref b18), .unset]) rfl k) ?_
      show Go p e below Φ T18 (mkF m 74 #[.val (.int i0), .val (.int i1), .val (.int i2), .val (.int i3), .val (.int i4), .val (.int i5), .val (.int (1 : Int32)), .val (.int (own_min ((own_ushr i0 (1 : Int32)) &&& (3 : Int32)) (2 : Int32))), .val (.int (own_min ((own_ushr i0 (4 : Int32)) &&& (3 : Int32)) (2 : Int32))), .val .null, .val (.ref b18), .unset] [])
      obtain ⟨T19, h19, X19, e19, E19, A19, D19, -, st19⟩ := newO X18 hx hZ hown (hw _ (List.mem_of_getElem? (i := 30) rfl)) (hw _ (List.mem_of_getElem? (i := 31) rfl)) (hw _ (List.mem_of_getElem? (i := 32) rfl)) e18 (g := (mkF m 74 #[.val (.int i0), .val (.int i1), .val (.int i2), .val (.int i3), .val (.int i4), .val (.int i5), .val (.int (1 : Int32)), .val (.int (own_min ((own_ushr i0 (1 : Int32)) &&& (3 : Int32)) (2 : Int32))), .val (.int (own_min ((own_ushr i0 (4 : Int32)) &&& (3 : Int32)) (2 : Int32))), .val .null, .val (.ref b18), .unset] [])) rfl (hb hby at_74) (by decide) (by decide)
      obtain ⟨b19, g19⟩ : ∃ z, z = h18.size := ⟨_, rfl⟩
      rw [← g19] at A19 D19 st19
      have g_b19 : n0 ≤ b19 := Nat.le_trans Z18 (Nat.le_of_eq g19.symm)
      have Z19 := Nat.le_trans Z18 E19.1
      have O19 := O18.ext E19
      have Sf_b19 := Safe.ext E19 hR18.1 (Safe.new (Nat.le_of_eq g19.symm))
      have hR19 := hR18.trans (CHr.ext E19 hR18.1)
      have hk19 := Nat.le_trans hk18 E19.1
      have E_b19 := A19
      have F_b19_id : Fld Z h19 b19 "com/example/signalbox/signalbox/tramlines/Card" "id" "Ljava/lang/String;" .null := D19 (Or.inr (hw _ (List.mem_of_getElem? (i := 43) rfl))) (ty := (.object "java/lang/String")) (by decide)
      have F_b19_count : Fld Z h19 b19 "com/example/signalbox/signalbox/tramlines/Card" "count" "I" (.int (0 : Int32)) := D19 (Or.inr (hw _ (List.mem_of_getElem? (i := 45) rfl))) (ty := .int) (by decide)
      have F_b19_line : Fld Z h19 b19 "com/example/signalbox/signalbox/tramlines/Card" "line" "Ljava/lang/String;" .null := D19 (Or.inr (hw _ (List.mem_of_getElem? (i := 47) rfl))) (ty := (.object "java/lang/String")) (by decide)
      have F_b19_value : Fld Z h19 b19 "com/example/signalbox/signalbox/tramlines/Card" "value" "I" (.int (0 : Int32)) := D19 (Or.inr (hw _ (List.mem_of_getElem? (i := 49) rfl))) (ty := .int) (by decide)
      have F_b19_points : Fld Z h19 b19 "com/example/signalbox/signalbox/tramlines/Card" "points" "I" (.int (0 : Int32)) := D19 (Or.inr (hw _ (List.mem_of_getElem? (i := 51) rfl))) (ty := .int) (by decide)
      refine Go.of st19 ?_
      show Go p e below Φ T19 (mkF m 77 #[.val (.int i0), .val (.int i1), .val (.int i2), .val (.int i3), .val (.int i4), .val (.int i5), .val (.int (1 : Int32)), .val (.int (own_min ((own_ushr i0 (1 : Int32)) &&& (3 : Int32)) (2 : Int32))), .val (.int (own_min ((own_ushr i0 (4 : Int32)) &&& (3 : Int32)) (2 : Int32))), .val .null, .val (.ref b18), .unset] [(.ref b19)])
      refine Go.of (fun t k => XS.dup X19.here hx rfl (hb hby at_77) rfl rfl k) ?_
      show Go p e below Φ T19 (mkF m 78 #[.val (.int i0), .val (.int i1), .val (.int i2), .val (.int i3), .val (.int i4), .val (.int i5), .val (.int (1 : Int32)), .val (.int (own_min ((own_ushr i0 (1 : Int32)) &&& (3 : Int32)) (2 : Int32))), .val (.int (own_min ((own_ushr i0 (4 : Int32)) &&& (3 : Int32)) (2 : Int32))), .val .null, .val (.ref b18), .unset] [(.ref b19), (.ref b19)])
      refine Go.of (fun t k => XS.aload X19.here hx rfl (hb hby at_78) rfl rfl  k) ?_
      show Go p e below Φ T19 (mkF m 80 #[.val (.int i0), .val (.int i1), .val (.int i2), .val (.int i3), .val (.int i4), .val (.int i5), .val (.int (1 : Int32)), .val (.int (own_min ((own_ushr i0 (1 : Int32)) &&& (3 : Int32)) (2 : Int32))), .val (.int (own_min ((own_ushr i0 (4 : Int32)) &&& (3 : Int32)) (2 : Int32))), .val .null, .val (.ref b18), .unset] [(.ref b18), (.ref b19), (.ref b19)])
      refine Go.of (fun t k => XS.iloadN X19.here hx rfl (hb hby at_80) rfl  k) ?_
      show Go p e below Φ T19 (mkF m 81 #[.val (.int i0), .val (.int i1), .val (.int i2), .val (.int i3), .val (.int i4), .val (.int i5), .val (.int (1 : Int32)), .val (.int (own_min ((own_ushr i0 (1 : Int32)) &&& (3 : Int32)) (2 : Int32))), .val (.int (own_min ((own_ushr i0 (4 : Int32)) &&& (3 : Int32)) (2 : Int32))), .val .null, .val (.ref b18), .unset] [(.int i3), (.ref b18), (.ref b19), (.ref b19)])
      refine Go.of (fun t k => XS.aload X19.here hx rfl (hb hby at_81) rfl rfl  k) ?_
      show Go p e below Φ T19 (mkF m 83 #[.val (.int i0), .val (.int i1), .val (.int i2), .val (.int i3), .val (.int i4), .val (.int i5), .val (.int (1 : Int32)), .val (.int (own_min ((own_ushr i0 (1 : Int32)) &&& (3 : Int32)) (2 : Int32))), .val (.int (own_min ((own_ushr i0 (4 : Int32)) &&& (3 : Int32)) (2 : Int32))), .val .null, .val (.ref b18), .unset] [.null, (.int i3), (.ref b18), (.ref b19), (.ref b19)])
      refine Go.of (fun t k => XS.iload X19.here hx rfl (hb hby at_83) rfl  k) ?_
      show Go p e below Φ T19 (mkF m 85 #[.val (.int i0), .val (.int i1), .val (.int i2), .val (.int i3), .val (.int i4), .val (.int i5), .val (.int (1 : Int32)), .val (.int (own_min ((own_ushr i0 (1 : Int32)) &&& (3 : Int32)) (2 : Int32))), .val (.int (own_min ((own_ushr i0 (4 : Int32)) &&& (3 : Int32)) (2 : Int32))), .val .null, .val (.ref b18), .unset] [(.int i4), .null, (.int i3), (.ref b18), (.ref b19), (.ref b19)])
      refine Go.of (fun t k => XS.iload X19.here hx rfl (hb hby at_85) rfl  k) ?_
      show Go p e below Φ T19 (mkF m 87 #[.val (.int i0), .val (.int i1), .val (.int i2), .val (.int i3), .val (.int i4), .val (.int i5), .val (.int (1 : Int32)), .val (.int (own_min ((own_ushr i0 (1 : Int32)) &&& (3 : Int32)) (2 : Int32))), .val (.int (own_min ((own_ushr i0 (4 : Int32)) &&& (3 : Int32)) (2 : Int32))), .val .null, .val (.ref b18), .unset] [(.int i5), (.int i4), .null, (.int i3), (.ref b18), (.ref b19), (.ref b19)])
      obtain ⟨_, _, ⟨T20, L20, k20, n20⟩, -, X20, ⟨Lc20, hQ20, l20, y20, z20⟩, st20⟩ := X19.specialBack hx (y := (⟨"com/example/signalbox/signalbox/tramlines/Card", "<init>", "(Ljava/lang/String;ILjava/lang/String;II)V"⟩ : MethodName)) rfl hown (mvT hZ (hw _ (List.mem_of_getElem? (i := 33) rfl))) (mvT hZ (hw _ (List.mem_of_getElem? (i := 34) rfl))) (mvT hZ (hw _ (List.mem_of_getElem? (i := 35) rfl))) (by decide) (backOf (W := 1) (rm6n l Z a0 hw [] b19 b18 i3 i4 i5 (0 : Int32) (0 : Int32) (0 : Int32) h19 n0 Z19 F_b19_id F_b19_count F_b19_line F_b19_value F_b19_points E_b19 g_b19) hZ (hw _ (List.mem_of_getElem? (i := 35) rfl)) (hw _ (List.mem_of_getElem? (i := 32) rfl)) (by decide) (by decide)) (g := (mkF m 87 #[.val (.int i0), .val (.int i1), .val (.int i2), .val (.int i3), .val (.int i4), .val (.int i5), .val (.int (1 : Int32)), .val (.int (own_min ((own_ushr i0 (1 : Int32)) &&& (3 : Int32)) (2 : Int32))), .val (.int (own_min ((own_ushr i0 (4 : Int32)) &&& (3 : Int32)) (2 : Int32))), .val .null, .val (.ref b18), .unset] [(.int i5), (.int i4), .null, (.int i3), (.ref b18), (.ref b19), (.ref b19)])) rfl (by rw [hml]; rfl) (Steps.refl _) (a := b19) (argsL := [(.ref b18), (.int i3), .null, (.int i4), (.int i5)]) (rest := [(.ref b19)]) (lenOf own_pd12 rfl) rfl (by show 2 * 0 + _ ≤ _; exact Nat.le_of_eq rfl) (hb hby at_87) (fun _ _ => ⟨rfl, e19, (by decide : 3 + 0 ≤ _), (by decide : 45 + 0 ≤ _)⟩)
      dsimp only [Pt.U, Pt.locs, Pt.cells, Pt.slots] at X20 l20 y20 z20 st20 hQ20
      subst l20 y20 z20
      obtain ⟨rfl, N20q, K20q, c20_0⟩ := hQ20
      have N20 := Fr.app N13 N20q
      obtain ⟨lc20, X20, N20⟩ : ∃ lc, Stand p l e room_1 (s.setVm T18.vm) m #[(.int i0), (.int i1), (.int i2), (.int i3), (.int i4), (.int i5)] below meth c T20 lc 3 45 ∧ Fr n0 lc := ⟨_, X20, N20⟩
      have E_b19 := E_b19.keep K20q
      have hs20 := Sf_b19
      have Sf_b19 := Safe.keep K20q (fun x hx => by cases List.mem_singleton.mp hx; exact hs20) hR19.1 Sf_b19
      have hR20 := hR19.trans (CHr.keep K20q (fun x hx => by cases List.mem_singleton.mp hx; exact hs20) hR19.1)
      have hk20 := Nat.le_trans hk19 K20q.1
      have F_b19_line := c20_0
      have Z20 := Nat.le_trans Z19 K20q.1
      have O20 := O19.keep K20q (allS g_b19 all0)
      refine Go.tr st20 ?_
      show Go p e below Φ T20 (mkF m 90 #[.val (.int i0), .val (.int i1), .val (.int i2), .val (.int i3), .val (.int i4), .val (.int i5), .val (.int (1 : Int32)), .val (.int (own_min ((own_ushr i0 (1 : Int32)) &&& (3 : Int32)) (2 : Int32))), .val (.int (own_min ((own_ushr i0 (4 : Int32)) &&& (3 : Int32)) (2 : Int32))), .val .null, .val (.ref b18), .unset] [(.ref b19)])
      refine Go.of (fun t k => XS.astore X20.here hx rfl (hb hby at_90) rfl rfl (l' := #[.val (.int i0), .val (.int i1), .val (.int i2), .val (.int i3), .val (.int i4), .val (.int i5), .val (.int (1 : Int32)), .val (.int (own_min ((own_ushr i0 (1 : Int32)) &&& (3 : Int32)) (2 : Int32))), .val (.int (own_min ((own_ushr i0 (4 : Int32)) &&& (3 : Int32)) (2 : Int32))), .val .null, .val (.ref b18), .val (.ref b19)]) rfl k) ?_
      show Go p e below Φ T20 (mkF m 92 #[.val (.int i0), .val (.int i1), .val (.int i2), .val (.int i3), .val (.int i4), .val (.int i5), .val (.int (1 : Int32)), .val (.int (own_min ((own_ushr i0 (1 : Int32)) &&& (3 : Int32)) (2 : Int32))), .val (.int (own_min ((own_ushr i0 (4 : Int32)) &&& (3 : Int32)) (2 : Int32))), .val .null, .val (.ref b18), .val (.ref b19)] [])
      refine Go.of (fun t k => XS.aload X20.here hx rfl (hb hby at_92) rfl rfl  k) ?_
      show Go p e below Φ T20 (mkF m 94 #[.val (.int i0), .val (.int i1), .val (.int i2), .val (.int i3), .val (.int i4), .val (.int i5), .val (.int (1 : Int32)), .val (.int (own_min ((own_ushr i0 (1 : Int32)) &&& (3 : Int32)) (2 : Int32))), .val (.int (own_min ((own_ushr i0 (4 : Int32)) &&& (3 : Int32)) (2 : Int32))), .val .null, .val (.ref b18), .val (.ref b19)] [(.ref b19)])
      obtain ⟨cq21, kq21, q21a, q21b, q21c⟩ := isOf hZ rfl E_b19
      obtain ⟨_, _, ⟨T21, L21, k21, n21⟩, -, X21, ⟨Lc21, hQ21, l21, y21, z21⟩, st21⟩ := X20.virtualBack hx (y := (⟨"com/example/signalbox/signalbox/tramlines/Card", "isConductor", "()Z"⟩ : MethodName)) (z := (⟨"com/example/signalbox/signalbox/tramlines/Card", "isConductor", "()Z"⟩ : MethodName)) hown (mvT hZ (hw _ (List.mem_of_getElem? (i := 52) rfl))) (mvT hZ (hw _ (List.mem_of_getElem? (i := 53) rfl))) (notFace_of_selects (args := #[]) (mvT hZ (hw _ (List.mem_of_getElem? (i := 55) rfl)))) (mvT hZ (hw _ (List.mem_of_getElem? (i := 55) rfl))) (mvT hZ (hw _ (List.mem_of_getElem? (i := 54) rfl))) (by decide) (backOf (W := 0) (rm8n l Z a0 hw [] b19 T20.heap n0 Z20 F_b19_line) hZ (hw _ (List.mem_of_getElem? (i := 56) rfl)) (hw _ (List.mem_of_getElem? (i := 32) rfl)) (by decide) (by decide)) q21a q21c (g := (mkF m 94 #[.val (.int i0), .val (.int i1), .val (.int i2), .val (.int i3), .val (.int i4), .val (.int i5), .val (.int (1 : Int32)), .val (.int (own_min ((own_ushr i0 (1 : Int32)) &&& (3 : Int32)) (2 : Int32))), .val (.int (own_min ((own_ushr i0 (4 : Int32)) &&& (3 : Int32)) (2 : Int32))), .val .null, .val (.ref b18), .val (.ref b19)] [(.ref b19)])) rfl (by rw [hml]; rfl) (Steps.refl _) (argsL := []) (rest := []) (lenOf own_pd13 rfl) rfl (by show 2 * 0 + _ ≤ _; exact Nat.le_of_eq rfl) (hb hby at_94) (fun _ _ => ⟨rfl, rfl, (by decide : 3 + 0 ≤ _), (by decide : 45 + 0 ≤ _)⟩)
      dsimp only [Pt.U, Pt.locs, Pt.cells, Pt.slots] at X21 l21 y21 z21 st21 hQ21
      subst l21 y21 z21
      obtain ⟨rfl, N21q, e21q⟩ := hQ21
      have N21 := Fr.app N20 N21q
      obtain ⟨lc21, X21, N21⟩ : ∃ lc, Stand p l e room_1 (s.setVm T18.vm) m #[(.int i0), (.int i1), (.int i2), (.int i3), (.int i4), (.int i5)] below meth c T21 lc 3 45 ∧ Fr n0 lc := ⟨_, X21, N21⟩
      refine Go.tr st21 ?_
      show Go p e below Φ T21 (mkF m 97 #[.val (.int i0), .val (.int i1), .val (.int i2), .val (.int i3), .val (.int i4), .val (.int i5), .val (.int (1 : Int32)), .val (.int (own_min ((own_ushr i0 (1 : Int32)) &&& (3 : Int32)) (2 : Int32))), .val (.int (own_min ((own_ushr i0 (4 : Int32)) &&& (3 : Int32)) (2 : Int32))), .val .null, .val (.ref b18), .val (.ref b19)] [(.int (1 : Int32))])
      refine Go.of (fun t k => XS.iload X21.here hx rfl (hb hby at_97) rfl  k) ?_
      show Go p e below Φ T21 (mkF m 99 #[.val (.int i0), .val (.int i1), .val (.int i2), .val (.int i3), .val (.int i4), .val (.int i5), .val (.int (1 : Int32)), .val (.int (own_min ((own_ushr i0 (1 : Int32)) &&& (3 : Int32)) (2 : Int32))), .val (.int (own_min ((own_ushr i0 (4 : Int32)) &&& (3 : Int32)) (2 : Int32))), .val .null, .val (.ref b18), .val (.ref b19)] [(.int (1 : Int32)), (.int (1 : Int32))])
      refine Go.of (fun t k => XS.icmpNo X21.here hx rfl (hb hby at_99) rfl (XT.ii_ne_f rfl) k) ?_
      show Go p e below Φ T21 (mkF m 102 #[.val (.int i0), .val (.int i1), .val (.int i2), .val (.int i3), .val (.int i4), .val (.int i5), .val (.int (1 : Int32)), .val (.int (own_min ((own_ushr i0 (1 : Int32)) &&& (3 : Int32)) (2 : Int32))), .val (.int (own_min ((own_ushr i0 (4 : Int32)) &&& (3 : Int32)) (2 : Int32))), .val .null, .val (.ref b18), .val (.ref b19)] [])
      refine Go.of (fun t k => XS.iconst X21.here hx rfl (hb hby at_102) k) ?_
      show Go p e below Φ T21 (mkF m 103 #[.val (.int i0), .val (.int i1), .val (.int i2), .val (.int i3), .val (.int i4), .val (.int i5), .val (.int (1 : Int32)), .val (.int (own_min ((own_ushr i0 (1 : Int32)) &&& (3 : Int32)) (2 : Int32))), .val (.int (own_min ((own_ushr i0 (4 : Int32)) &&& (3 : Int32)) (2 : Int32))), .val .null, .val (.ref b18), .val (.ref b19)] [(.int (1 : Int32))])
      refine Go.of (fun t k => XS.goto X21.here hx rfl (pc0 := 103) (pc' := 107) rfl (hb hby at_103) (by decide) (by decide) k) ?_
      show Go p e below Φ T21 (mkF m 107 #[.val (.int i0), .val (.int i1), .val (.int i2), .val (.int i3), .val (.int i4), .val (.int i5), .val (.int (1 : Int32)), .val (.int (own_min ((own_ushr i0 (1 : Int32)) &&& (3 : Int32)) (2 : Int32))), .val (.int (own_min ((own_ushr i0 (4 : Int32)) &&& (3 : Int32)) (2 : Int32))), .val .null, .val (.ref b18), .val (.ref b19)] [(.int (1 : Int32))])
      rw [hΦ]
      refine Go.retW X21 hx Bd.notSynchronized hS18 (own_kk (e21q) hk20) hZ hEL (own_rr hh (e21q) hR20) Bd.returns rfl (Or.inl ⟨rfl, Or.inr (Or.inl rfl), _, rfl⟩) (hb hby at_107) (by decide) (by decide) ?_
      rw [(e21q)]
      exact ⟨rfl, N21⟩
set_option maxRecDepth 65536 in
set_option maxHeartbeats 40000000 in
theorem comes_1 {Post : Tables → Env → Array Value → State → Outcome → State → Prop} (hpost : ∀ tb e args s v u, (limb_1_1.after args s (.returned v) u = true ∧ limb_1_2.after args s (.returned v) u = true ∧ True) → ReturnedEndW s (.returned v) u (Jvm.fieldLocs frame_1_writes args s ++ Jvm.arrayLocs frame_1_arrays args s ++ Jvm.staticLocs frame_1_statics s) 32 2176 → Post tb e args s (.returned v) u) :
    ArmFor flags0 classFile x code maxLocals ret World_1 tables_1 room_1 Calls_1 rest_1 Pre_1 Post := by
  intro l hfl _ _ p e ha hc hk s m args below hf hA hF happ hP
  obtain ⟨hcalls, hrest, hpre⟩ := hP
  obtain ⟨-, -, -, hnamed, -, -, -, hat⟩ := (Spec.applies_iff hf).mp happ
  obtain ⟨hg, hn⟩ := and_e (Cond.before_iff.mp (show (Jvm.Cond.and given_1 narrow_1).before args s = true from hpre))
  obtain ⟨g1, g2⟩ := and_e hg
  obtain ⟨g3, g4⟩ := and_e g2
  obtain ⟨g5, g6⟩ := and_e g4
  obtain ⟨g7, g8⟩ := and_e g6
  obtain ⟨g9, g10⟩ := and_e g8
  obtain ⟨g11, g12⟩ := and_e g10
  obtain ⟨w0, w1, w2, w3, w4, w5, rfl⟩ : ∃ w0 w1 w2 w3 w4 w5 : Value, args = #[w0, w1, w2, w3, w4, w5] := by
    have hs : args.size = 6 := by simpa [Cond.value, given_1] using g1
    obtain ⟨L⟩ := args
    match L, hs with
    | [w0, w1, w2, w3, w4, w5], _ => exact ⟨w0, w1, w2, w3, w4, w5, rfl⟩
  have hw := fun d (hd : d ∈ tables_1) => atoms_spec (ws := Jvm.Cond.code x code maxLocals ret :: tables_1) hat d (List.mem_cons_of_mem _ hd)
  have hfit : Fit s := fun {y c} hc i hi => by
    obtain ⟨ha, rfl⟩ := Array.getElem?_eq_some_iff.mp hc
    have q := List.all_eq_true.mp ((Array.all_eq_true_iff_forall_mem.mp hF) _ (Array.getElem_mem ha)) i (List.mem_range.mpr hi)
    simpa [Array.getElem?_eq_getElem hi] using q
  obtain ⟨hsets, hown0⟩ := atoms_of _ (rest_1_c_eq ▸ (show rest_1_c.before _ s = true from hrest))
  have hr0 := Cond.before_iff.mp hown0
  obtain ⟨i0, ei0⟩ := is_v g3
  obtain rfl : w0 = (.int i0) := Option.some.inj ei0
  obtain ⟨i1, ei1⟩ := is_v g5
  obtain rfl : w1 = (.int i1) := Option.some.inj ei1
  obtain ⟨i2, ei2⟩ := is_v g7
  obtain rfl : w2 = (.int i2) := Option.some.inj ei2
  obtain ⟨i3, ei3⟩ := is_v g9
  obtain rfl : w3 = (.int i3) := Option.some.inj ei3
  obtain ⟨i4, ei4⟩ := is_v g11
  obtain rfl : w4 = (.int i4) := Option.some.inj ei4
  obtain ⟨i5, ei5⟩ := is_v g12
  obtain rfl : w5 = (.int i5) := Option.some.inj ei5
  obtain ⟨w, ew⟩ := is_v (Cond.before_iff.mp (hsets _ (List.mem_of_getElem? (i := 1) rfl)))
  have hS := Sta.start ew (Or.inl (hsets _ (List.mem_of_getElem? (i := 0) rfl)))
  have hw0 : ¬ (w = (0 : Int32)) := fun q => by
    have h := not_v (Cond.before_iff.mp (hsets _ (List.mem_of_getElem? (i := 2) rfl)))
    have h' := eq_i (first := s) (o := none) (s := s) (idx := []) ew (Term.int_eval (0)) (by rw [q])
    rw [h'] at h
    cases h
  have hCH : CHv s [("java/lang/String", 7)] s.vm s.heap := CHv.start (own_EL hw) (fun p hp => by
    cases List.mem_singleton.mp hp
    exact hcalls.1 ("java/lang/String", 7) (List.mem_of_getElem? (i := 1) rfl)) (hsets _ (List.mem_of_getElem? (i := 2) rfl)) (hw _ (List.mem_of_getElem? (i := 23) rfl)) (hw _ (List.mem_of_getElem? (i := 9) rfl))
  obtain ⟨n, o, h1, h2, h3, _, L, rfl, ⟨rfl, N⟩, -, hq⟩ := rm0 l s _ hw tables_1 i0 i1 i2 i3 i4 i5 w s.heap s.heap.size (Nat.le_refl _) (Old.start s) hS hw0 p e ha hc hk s m _ below hf ((Spec.applies_iff_loose hf).mp happ).1 ⟨rfl, State.Warmed39.refl s, rfl, hCH⟩ trivial
  refine ⟨n, _, h1, h2, h3, hpost _ _ _ _ _ _ ⟨Cond.after_iff.mpr rfl, Cond.after_iff.mpr (eq_i res_at (Term.int_eval (1)) rfl), trivial⟩ ⟨hq.1, hq.2.1, hq.2.2.1, (hq.2.2.2.sift fun y hy => Or.inr (N y hy)).mono (by decide) (by decide)⟩⟩
theorem main_1_1 : Claimed_1_1 := comes_1 fun _ _ _ _ _ _ h hF => ⟨h.1, hF⟩
theorem main_1_2 : Claimed_1_2 := comes_1 fun _ _ _ _ _ _ h hF => ⟨h.2.1, hF⟩
end Jvm.Pilot.@@N@@
namespace Jvm.Pilot.@@N@@
open Jvm Jvm.ClassFile Sem Op Lib Jvm.Free Jvm.Stand Jvm.Pilot.@@N@@.Jvm.D
/-! MADE BY PROGRAM (witnessworld.py) out of the Statement's table words and the real class files: 22 classes; the members and pool entries that the words name. The judged class is class 1, her method 2. -/
namespace start1
open Jvm.ClassFile
def u (s : String) : CpInfo := .utf8 (stringToUtf16 s)
/-- a pool by its gaps: so many unusable entries, then the entry; so many at the end -/
def gap : Nat → List CpInfo → List CpInfo
  | 0, r => r
  | n + 1, r => .unusable :: gap n r
def poolList (es : List (Nat × CpInfo)) (last : Nat) : List CpInfo := es.foldr (fun e r => gap e.1 (e.2 :: r)) (gap last [])
def pool (es : List (Nat × CpInfo)) (last : Nat) : Array CpInfo := ⟨poolList es last⟩
def fileOf (pool : Array CpInfo) (this : Nat) (attrs : Array Attribute := #[]) (ms : Array MethodInfo := #[]) (fl : Nat := 33) (sup : Nat := 0) (ifs : Array Nat := #[]) (fds : Array FieldInfo := #[]) : ClassFile where
  minorVersion := 0
  majorVersion := 65
  constantPool := pool
  accessFlags := fl
  thisClass := this
  superClass := sup
  interfaces := ifs
  fields := fds
  methods := ms
  attributes := attrs
def plain (name : String) (sup : Option ClassId) : Class where
  name := name
  kind := .ordinary
  loader := none
  accessFlags := 33
  super := sup
  interfaces := #[]
  cf := none
  fields := #[]
  methods := #[]
  instanceTypes := #[]
  staticTypes := #[]
  resolved := #[]
  callSites := []
  init := .initialized
  statics := none
  mirror := none

def pool0 : Array CpInfo := pool [(5, u "<init>"), (0, u "()V"), (1, .class_ 10), (1, u "java/lang/Object")] 113

def k0c0 : Code := { maxStack := 0, maxLocals := 1, code := object_method_1_code, exceptionTable := #[], attributes := #[] }
def k0m0 : Method := { name := "<init>", desc := "()V", sig := { parameters := [], returnType := none }, accessFlags := 1, code := some k0c0 }
/-- java/lang/Object -/
def k0 : Class := { plain "java/lang/Object" none with
  accessFlags := 33
  interfaces := #[]
  cf := some (fileOf pool0 8 #[] #[{ accessFlags := 1, nameIndex := 5, descriptorIndex := 6, attributes := #[] }] 33 0 #[] #[])
  fields := #[]
  methods := #[k0m0]
  instanceTypes := #[]
  staticTypes := #[]
  resolved := Array.replicate 124 none
  statics := none }

def pool1 : Array CpInfo := pool [(2, .class_ 4), (1, u "java/lang/Object"), (0, u "<init>"), (0, u "()V"), (0, .class_ 8), (0, u "java/lang/String"), (0, .methodref 7 10), (0, .nameAndType 5 11), (0, u "([C)V"), (0, .methodref 7 13), (0, .nameAndType 14 15), (0, u "valueOf"), (0, u "(C)Ljava/lang/String;"), (0, .methodref 17 18), (0, .class_ 19), (0, .nameAndType 20 21), (0, u "java/lang/Math"), (0, u "min"), (0, u "(II)I"), (0, .methodref 23 24), (0, .class_ 25), (0, .nameAndType 26 27), (0, u "com/example/signalbox/signalbox/tramlines/CardIsConductorPinLaw"), (0, u "str"), (0, u "(III)Ljava/lang/String;"), (0, .string 29), (0, u "conductor"), (0, .class_ 31), (0, u "com/example/signalbox/signalbox/tramlines/Card"), (0, .methodref 30 33), (0, .nameAndType 5 34), (0, u "(Ljava/lang/String;ILjava/lang/String;II)V"), (0, .methodref 30 36), (0, .nameAndType 37 38), (0, u "isConductor"), (0, u "()Z"), (3, u "law"), (0, u "(IIIIII)Z")] 2

def k1m0 : Method := { name := "<init>", desc := "()V", sig := { parameters := [], returnType := none }, accessFlags := 1, code := none }
def k1c1 : Code := { maxStack := 6, maxLocals := 5, code := method_2_code, exceptionTable := #[], attributes := #[] }
def k1m1 : Method := { name := "str", desc := "(III)Ljava/lang/String;", sig := { parameters := [.int, .int, .int], returnType := some (.object "java/lang/String") }, accessFlags := 10, code := some k1c1 }
def k1c2 : Code := { maxStack := 7, maxLocals := 12, code := code, exceptionTable := #[], attributes := #[] }
def k1m2 : Method := { name := "law", desc := "(IIIIII)Z", sig := { parameters := [.int, .int, .int, .int, .int, .int], returnType := some .boolean }, accessFlags := 9, code := some k1c2 }
/-- com/example/signalbox/signalbox/tramlines/CardIsConductorPinLaw -/
def k1 : Class := { plain "com/example/signalbox/signalbox/tramlines/CardIsConductorPinLaw" (some 0) with
  accessFlags := 49
  interfaces := #[]
  cf := some (fileOf pool1 23 #[] #[{ accessFlags := 1, nameIndex := 5, descriptorIndex := 6, attributes := #[] }, { accessFlags := 10, nameIndex := 26, descriptorIndex := 27, attributes := #[] }, { accessFlags := 9, nameIndex := 42, descriptorIndex := 43, attributes := #[] }] 49 2 #[] #[])
  fields := #[]
  methods := #[k1m0, k1m1, k1m2]
  instanceTypes := #[]
  staticTypes := #[]
  resolved := Array.replicate 46 none
  statics := none }

def pool2 : Array CpInfo := pool [(1, .class_ 2), (0, u "java/lang/Math"), (1, .class_ 6), (1, u "java/lang/Object"), (0, u "<init>"), (0, u "()V"), (89, .class_ 100), (1, u "java/lang/Math$RandomNumberGeneratorHolder"), (71, u "negativeZeroFloatBits"), (0, u "J"), (2, u "negativeZeroDoubleBits"), (24, u "min"), (43, u "$assertionsDisabled"), (0, u "Z"), (88, u "(II)I"), (2, u "twoToTheDoubleScaleDown"), (0, u "D"), (4, u "twoToTheDoubleScaleUp"), (9, u "E"), (3, u "PI"), (2, u "TAU"), (2, u "DEGREES_TO_RADIANS"), (0, u "RADIANS_TO_DEGREES")] 94

def k2m0 : Method := { name := "<init>", desc := "()V", sig := { parameters := [], returnType := none }, accessFlags := 2, code := none }
def k2c1 : Code := { maxStack := 2, maxLocals := 2, code := jdk_29_method_69_code, exceptionTable := #[], attributes := #[] }
def k2m1 : Method := { name := "min", desc := "(II)I", sig := { parameters := [.int, .int], returnType := some .int }, accessFlags := 9, code := some k2c1 }
/-- java/lang/Math -/
def k2 : Class := { plain "java/lang/Math" (some 0) with
  accessFlags := 49
  interfaces := #[]
  cf := some (fileOf pool2 1 #[.nestMembers #[98]] #[{ accessFlags := 2, nameIndex := 7, descriptorIndex := 8, attributes := #[] }, { accessFlags := 9, nameIndex := 201, descriptorIndex := 335, attributes := #[] }] 49 4 #[] #[{ accessFlags := 25, nameIndex := 354, descriptorIndex := 339, attributes := #[] }, { accessFlags := 25, nameIndex := 358, descriptorIndex := 339, attributes := #[] }, { accessFlags := 25, nameIndex := 361, descriptorIndex := 339, attributes := #[] }, { accessFlags := 26, nameIndex := 364, descriptorIndex := 339, attributes := #[] }, { accessFlags := 26, nameIndex := 365, descriptorIndex := 339, attributes := #[] }, { accessFlags := 26, nameIndex := 172, descriptorIndex := 173, attributes := #[] }, { accessFlags := 26, nameIndex := 176, descriptorIndex := 173, attributes := #[] }, { accessFlags := 8, nameIndex := 344, descriptorIndex := 339, attributes := #[] }, { accessFlags := 8, nameIndex := 338, descriptorIndex := 339, attributes := #[] }, { accessFlags := 4120, nameIndex := 245, descriptorIndex := 246, attributes := #[] }])
  fields := #[{ name := "E", type := .double, accessFlags := 25, slot := 0, constantValue := 0 }, { name := "PI", type := .double, accessFlags := 25, slot := 1, constantValue := 0 }, { name := "TAU", type := .double, accessFlags := 25, slot := 2, constantValue := 0 }, { name := "DEGREES_TO_RADIANS", type := .double, accessFlags := 26, slot := 3, constantValue := 0 }, { name := "RADIANS_TO_DEGREES", type := .double, accessFlags := 26, slot := 4, constantValue := 0 }, { name := "negativeZeroFloatBits", type := .long, accessFlags := 26, slot := 5, constantValue := 0 }, { name := "negativeZeroDoubleBits", type := .long, accessFlags := 26, slot := 6, constantValue := 0 }, { name := "twoToTheDoubleScaleUp", type := .double, accessFlags := 8, slot := 7, constantValue := 0 }, { name := "twoToTheDoubleScaleDown", type := .double, accessFlags := 8, slot := 8, constantValue := 0 }, { name := "$assertionsDisabled", type := .boolean, accessFlags := 4120, slot := 9, constantValue := 0 }]
  methods := #[k2m0, k2m1]
  instanceTypes := #[]
  staticTypes := #[.double, .double, .double, .double, .double, .long, .long, .double, .double, .boolean]
  resolved := Array.replicate 460 none
  statics := none }

def pool3 : Array CpInfo := pool [(1, .class_ 2), (0, u "java/io/Serializable"), (0, .class_ 4), (0, u "java/lang/Object")] 2

/-- java/io/Serializable -/
def k3 : Class := { plain "java/io/Serializable" (some 0) with
  accessFlags := 1537
  interfaces := #[]
  cf := some (fileOf pool3 1 #[] #[] 1537 3 #[] #[])
  fields := #[]
  methods := #[]
  instanceTypes := #[]
  staticTypes := #[]
  resolved := Array.replicate 7 none
  statics := none }

def pool4 : Array CpInfo := pool [(1, .class_ 2), (0, u "java/lang/Comparable"), (0, .class_ 4), (0, u "java/lang/Object")] 7

/-- java/lang/Comparable -/
def k4 : Class := { plain "java/lang/Comparable" (some 0) with
  accessFlags := 1537
  interfaces := #[]
  cf := some (fileOf pool4 1 #[] #[] 1537 3 #[] #[])
  fields := #[]
  methods := #[]
  instanceTypes := #[]
  staticTypes := #[]
  resolved := Array.replicate 12 none
  statics := none }

def pool5 : Array CpInfo := pool [(2, .class_ 4), (1, u "java/lang/CharSequence"), (42, .class_ 48), (0, u "java/lang/CharSequence$1CodePointIterator"), (10, .class_ 60), (0, u "java/lang/CharSequence$1CharIterator"), (5, .class_ 67), (0, u "java/lang/Object")] 63

/-- java/lang/CharSequence -/
def k5 : Class := { plain "java/lang/CharSequence" (some 0) with
  accessFlags := 1537
  interfaces := #[]
  cf := some (fileOf pool5 2 #[.nestMembers #[47, 59]] #[] 1537 66 #[] #[])
  fields := #[]
  methods := #[]
  instanceTypes := #[]
  staticTypes := #[]
  resolved := Array.replicate 131 none
  statics := none }

def pool6 : Array CpInfo := pool [(1, .class_ 2), (0, u "java/lang/constant/Constable"), (0, .class_ 4), (0, u "java/lang/Object")] 6

/-- java/lang/constant/Constable -/
def k6 : Class := { plain "java/lang/constant/Constable" (some 0) with
  accessFlags := 1537
  interfaces := #[]
  cf := some (fileOf pool6 1 #[] #[] 1537 3 #[] #[])
  fields := #[]
  methods := #[]
  instanceTypes := #[]
  staticTypes := #[]
  resolved := Array.replicate 11 none
  statics := none }

def pool7 : Array CpInfo := pool [(1, .class_ 2), (0, u "java/lang/constant/ConstantDesc"), (0, .class_ 4), (0, u "java/lang/Object")] 32

/-- java/lang/constant/ConstantDesc -/
def k7 : Class := { plain "java/lang/constant/ConstantDesc" (some 0) with
  accessFlags := 1537
  interfaces := #[]
  cf := some (fileOf pool7 1 #[] #[] 1537 3 #[] #[])
  fields := #[]
  methods := #[]
  instanceTypes := #[]
  staticTypes := #[]
  resolved := Array.replicate 37 none
  statics := none }

def pool8 : Array CpInfo := pool [(1, .methodref 2 3), (0, .class_ 4), (0, .nameAndType 5 6), (0, u "java/lang/Object"), (0, u "<init>"), (0, u "()V"), (0, .string 8), (0, u ""), (0, .fieldref 10 11), (0, .class_ 12), (0, .nameAndType 13 14), (0, u "java/lang/String"), (0, u "value"), (0, u "[B"), (0, .fieldref 10 16), (0, .nameAndType 17 18), (0, u "coder"), (0, u "B"), (2, u "hash"), (0, u "I"), (2, u "hashIsZero"), (0, u "Z"), (0, .methodref 10 28), (0, .nameAndType 5 29), (0, u "([CIILjava/lang/Void;)V"), (8, .fieldref 10 39), (0, .nameAndType 40 26), (0, u "COMPACT_STRINGS"), (1, .class_ 44), (1, u "java/lang/StringUTF16"), (0, u "compress"), (1, .methodref 42 48), (0, .nameAndType 49 50), (0, u "coderFromArrayLen"), (0, u "([BI)B"), (2, u "toBytes"), (53, .class_ 109), (1, u "java/lang/StringLatin1"), (67, .methodref 42 178), (0, .nameAndType 45 179), (0, u "([CII)[B"), (29, .methodref 10 210), (0, .nameAndType 5 211), (0, u "([BB)V"), (157, u "(C)Z"), (205, .class_ 576), (0, u "java/lang/CharSequence"), (22, u "CASE_INSENSITIVE_ORDER"), (0, u "Ljava/util/Comparator;"), (181, u "valueOf"), (0, u "(C)Ljava/lang/String;"), (226, u "([C)V"), (4, .methodref 107 1016), (0, .nameAndType 1017 369), (0, u "canEncode"), (0, .methodref 107 1019), (0, .nameAndType 53 1020), (0, u "(C)[B"), (80, u "serialPersistentFields"), (0, u "[Ljava/io/ObjectStreamField;"), (0, .class_ 1104), (0, u "java/lang/String$CaseInsensitiveComparator"), (1, .class_ 1107), (0, u "java/io/Serializable"), (0, .class_ 1109), (0, u "java/lang/Comparable"), (0, .class_ 1111), (0, u "java/lang/constant/Constable"), (0, .class_ 1113), (0, u "java/lang/constant/ConstantDesc"), (2, u "serialVersionUID"), (0, u "J"), (3, u "REPL"), (0, u "C"), (2, u "LATIN1"), (1, u "UTF16")] 323

def k8m0 : Method := { name := "<init>", desc := "()V", sig := { parameters := [], returnType := none }, accessFlags := 1, code := none }
def k8c1 : Code := { maxStack := 5, maxLocals := 2, code := jdk_42_method_3_code, exceptionTable := #[], attributes := #[] }
def k8m1 : Method := { name := "<init>", desc := "([C)V", sig := { parameters := [(.array .char)], returnType := none }, accessFlags := 1, code := some k8c1 }
def k8c2 : Code := { maxStack := 4, maxLocals := 1, code := jdk_42_method_139_code, exceptionTable := #[], attributes := #[] }
def k8m2 : Method := { name := "valueOf", desc := "(C)Ljava/lang/String;", sig := { parameters := [.char], returnType := some (.object "java/lang/String") }, accessFlags := 9, code := some k8c2 }
def k8c3 : Code := { maxStack := 4, maxLocals := 6, code := jdk_42_method_149_code, exceptionTable := #[], attributes := #[] }
def k8m3 : Method := { name := "<init>", desc := "([CIILjava/lang/Void;)V", sig := { parameters := [(.array .char), .int, .int, (.object "java/lang/Void")], returnType := none }, accessFlags := 2, code := some k8c3 }
def k8c4 : Code := { maxStack := 2, maxLocals := 3, code := jdk_42_method_151_code, exceptionTable := #[], attributes := #[] }
def k8m4 : Method := { name := "<init>", desc := "([BB)V", sig := { parameters := [(.array .byte), .byte], returnType := none }, accessFlags := 0, code := some k8c4 }
/-- java/lang/String -/
def k8 : Class := { plain "java/lang/String" (some 0) with
  accessFlags := 49
  interfaces := #[3, 4, 5, 6, 7]
  cf := some (fileOf pool8 10 #[.nestMembers #[1103]] #[{ accessFlags := 1, nameIndex := 5, descriptorIndex := 6, attributes := #[] }, { accessFlags := 1, nameIndex := 5, descriptorIndex := 1010, attributes := #[] }, { accessFlags := 9, nameIndex := 782, descriptorIndex := 783, attributes := #[] }, { accessFlags := 2, nameIndex := 5, descriptorIndex := 29, attributes := #[] }, { accessFlags := 0, nameIndex := 5, descriptorIndex := 211, attributes := #[] }] 49 2 #[1106, 1108, 575, 1110, 1112] #[{ accessFlags := 18, nameIndex := 13, descriptorIndex := 14, attributes := #[] }, { accessFlags := 18, nameIndex := 17, descriptorIndex := 18, attributes := #[] }, { accessFlags := 2, nameIndex := 21, descriptorIndex := 22, attributes := #[] }, { accessFlags := 2, nameIndex := 25, descriptorIndex := 26, attributes := #[] }, { accessFlags := 26, nameIndex := 1116, descriptorIndex := 1117, attributes := #[] }, { accessFlags := 24, nameIndex := 40, descriptorIndex := 26, attributes := #[] }, { accessFlags := 26, nameIndex := 1101, descriptorIndex := 1102, attributes := #[] }, { accessFlags := 26, nameIndex := 1121, descriptorIndex := 1122, attributes := #[] }, { accessFlags := 25, nameIndex := 599, descriptorIndex := 600, attributes := #[] }, { accessFlags := 24, nameIndex := 1125, descriptorIndex := 18, attributes := #[] }, { accessFlags := 24, nameIndex := 1127, descriptorIndex := 18, attributes := #[] }])
  fields := #[{ name := "value", type := (.array .byte), accessFlags := 18, slot := 0, constantValue := 0 }, { name := "coder", type := .byte, accessFlags := 18, slot := 1, constantValue := 0 }, { name := "hash", type := .int, accessFlags := 2, slot := 2, constantValue := 0 }, { name := "hashIsZero", type := .boolean, accessFlags := 2, slot := 3, constantValue := 0 }, { name := "serialVersionUID", type := .long, accessFlags := 26, slot := 0, constantValue := 0 }, { name := "COMPACT_STRINGS", type := .boolean, accessFlags := 24, slot := 1, constantValue := 0 }, { name := "serialPersistentFields", type := (.array (.object "java/io/ObjectStreamField")), accessFlags := 26, slot := 2, constantValue := 0 }, { name := "REPL", type := .char, accessFlags := 26, slot := 3, constantValue := 0 }, { name := "CASE_INSENSITIVE_ORDER", type := (.object "java/util/Comparator"), accessFlags := 25, slot := 4, constantValue := 0 }, { name := "LATIN1", type := .byte, accessFlags := 24, slot := 5, constantValue := 0 }, { name := "UTF16", type := .byte, accessFlags := 24, slot := 6, constantValue := 0 }]
  methods := #[k8m0, k8m1, k8m2, k8m3, k8m4]
  instanceTypes := #[(.array .byte), .byte, .int, .boolean]
  staticTypes := #[.long, .boolean, (.array (.object "java/io/ObjectStreamField")), .char, (.object "java/util/Comparator"), .byte, .byte]
  resolved := Array.replicate 1451 none
  statics := some 0 }

def pool9 : Array CpInfo := pool [(1, .methodref 2 3), (0, .class_ 4), (0, .nameAndType 5 6), (0, u "java/lang/Object"), (0, u "<init>"), (0, u "()V"), (0, .class_ 8), (0, u "java/lang/Record")] 13

def k9c0 : Code := { maxStack := 1, maxLocals := 1, code := jdk_30_method_1_code, exceptionTable := #[], attributes := #[] }
def k9m0 : Method := { name := "<init>", desc := "()V", sig := { parameters := [], returnType := none }, accessFlags := 4, code := some k9c0 }
/-- java/lang/Record -/
def k9 : Class := { plain "java/lang/Record" (some 0) with
  accessFlags := 1057
  interfaces := #[]
  cf := some (fileOf pool9 7 #[] #[{ accessFlags := 4, nameIndex := 5, descriptorIndex := 6, attributes := #[] }] 1057 2 #[] #[])
  fields := #[]
  methods := #[k9m0]
  instanceTypes := #[]
  staticTypes := #[]
  resolved := Array.replicate 22 none
  statics := none }

def pool10 : Array CpInfo := pool [(1, .methodref 2 3), (0, .class_ 4), (0, .nameAndType 5 6), (0, u "java/lang/Record"), (0, u "<init>"), (0, u "()V"), (0, .fieldref 8 9), (0, .class_ 10), (0, .nameAndType 11 12), (0, u "com/example/signalbox/signalbox/tramlines/Card"), (0, u "id"), (0, u "Ljava/lang/String;"), (0, .fieldref 8 14), (0, .nameAndType 15 16), (0, u "count"), (0, u "I"), (0, .fieldref 8 18), (0, .nameAndType 19 12), (0, u "line"), (0, .fieldref 8 21), (0, .nameAndType 22 16), (0, u "value"), (0, .fieldref 8 24), (0, .nameAndType 25 16), (0, u "points"), (12, u "TOP_VALUE"), (2, u "(Ljava/lang/String;ILjava/lang/String;II)V"), (3, u "isConductor"), (0, u "()Z")] 28

def k10c0 : Code := { maxStack := 2, maxLocals := 6, code := prog_28_method_1_code, exceptionTable := #[], attributes := #[] }
def k10m0 : Method := { name := "<init>", desc := "(Ljava/lang/String;ILjava/lang/String;II)V", sig := { parameters := [(.object "java/lang/String"), .int, (.object "java/lang/String"), .int, .int], returnType := none }, accessFlags := 0, code := some k10c0 }
def k10c1 : Code := { maxStack := 1, maxLocals := 1, code := prog_28_method_2_code, exceptionTable := #[], attributes := #[] }
def k10m1 : Method := { name := "isConductor", desc := "()Z", sig := { parameters := [], returnType := some .boolean }, accessFlags := 0, code := some k10c1 }
/-- com/example/signalbox/signalbox/tramlines/Card -/
def k10 : Class := { plain "com/example/signalbox/signalbox/tramlines/Card" (some 9) with
  accessFlags := 48
  interfaces := #[]
  cf := some (fileOf pool10 8 #[] #[{ accessFlags := 0, nameIndex := 5, descriptorIndex := 41, attributes := #[] }, { accessFlags := 0, nameIndex := 45, descriptorIndex := 46, attributes := #[] }] 48 2 #[] #[{ accessFlags := 18, nameIndex := 11, descriptorIndex := 12, attributes := #[] }, { accessFlags := 18, nameIndex := 15, descriptorIndex := 16, attributes := #[] }, { accessFlags := 18, nameIndex := 19, descriptorIndex := 12, attributes := #[] }, { accessFlags := 18, nameIndex := 22, descriptorIndex := 16, attributes := #[] }, { accessFlags := 18, nameIndex := 25, descriptorIndex := 16, attributes := #[] }, { accessFlags := 24, nameIndex := 38, descriptorIndex := 16, attributes := #[] }])
  fields := #[{ name := "id", type := (.object "java/lang/String"), accessFlags := 18, slot := 0, constantValue := 0 }, { name := "count", type := .int, accessFlags := 18, slot := 1, constantValue := 0 }, { name := "line", type := (.object "java/lang/String"), accessFlags := 18, slot := 2, constantValue := 0 }, { name := "value", type := .int, accessFlags := 18, slot := 3, constantValue := 0 }, { name := "points", type := .int, accessFlags := 18, slot := 4, constantValue := 0 }, { name := "TOP_VALUE", type := .int, accessFlags := 24, slot := 0, constantValue := 0 }]
  methods := #[k10m0, k10m1]
  instanceTypes := #[(.object "java/lang/String"), .int, (.object "java/lang/String"), .int, .int]
  staticTypes := #[.int]
  resolved := Array.replicate 75 none
  statics := none }

def pool11 : Array CpInfo := pool [(6, .class_ 8), (1, u "java/lang/Object"), (0, u "<init>"), (0, u "()V"), (1, .class_ 14), (1, u "java/lang/StringUTF16"), (31, u "$assertionsDisabled"), (0, u "Z"), (13, u "HI_BYTE_SHIFT"), (0, u "I"), (2, u "LO_BYTE_SHIFT"), (49, .methodref 12 116), (0, .nameAndType 117 118), (0, u "compress"), (0, u "([CI[BII)I"), (3, u "([CII)[B"), (138, u "coderFromArrayLen"), (0, u "([BI)B"), (106, .class_ 371), (1, u "java/lang/StringUTF16$LinesSpliterator"), (58, u "MAX_LENGTH"), (196, .class_ 628), (0, u "java/lang/StringUTF16$CodePointsSpliterator"), (0, .class_ 630), (0, u "java/lang/StringUTF16$CharsSpliterator")] 4

def k11m0 : Method := { name := "<init>", desc := "()V", sig := { parameters := [], returnType := none }, accessFlags := 0, code := none }
def k11c1 : Code := { maxStack := 2, maxLocals := 2, code := jdk_52_method_15_code, exceptionTable := #[], attributes := #[] }
def k11m1 : Method := { name := "coderFromArrayLen", desc := "([BI)B", sig := { parameters := [(.array .byte), .int], returnType := some .byte }, accessFlags := 8, code := some k11c1 }
def k11c2 : Code := { maxStack := 5, maxLocals := 6, code := jdk_52_method_16_code, exceptionTable := #[], attributes := #[] }
def k11m2 : Method := { name := "compress", desc := "([CII)[B", sig := { parameters := [(.array .char), .int, .int], returnType := some (.array .byte) }, accessFlags := 9, code := some k11c2 }
def k11c3 : Code := { maxStack := 3, maxLocals := 7, code := jdk_52_method_21_code, exceptionTable := #[], attributes := #[] }
def k11m3 : Method := { name := "compress", desc := "([CI[BII)I", sig := { parameters := [(.array .char), .int, (.array .byte), .int, .int], returnType := some .int }, accessFlags := 9, code := some k11c3 }
/-- java/lang/StringUTF16 -/
def k11 : Class := { plain "java/lang/StringUTF16" (some 0) with
  accessFlags := 48
  interfaces := #[]
  cf := some (fileOf pool11 12 #[.nestMembers #[627, 629, 369]] #[{ accessFlags := 0, nameIndex := 9, descriptorIndex := 10, attributes := #[] }, { accessFlags := 8, nameIndex := 261, descriptorIndex := 262, attributes := #[] }, { accessFlags := 9, nameIndex := 117, descriptorIndex := 122, attributes := #[] }, { accessFlags := 9, nameIndex := 117, descriptorIndex := 118, attributes := #[] }] 48 6 #[] #[{ accessFlags := 26, nameIndex := 61, descriptorIndex := 62, attributes := #[] }, { accessFlags := 26, nameIndex := 65, descriptorIndex := 62, attributes := #[] }, { accessFlags := 24, nameIndex := 430, descriptorIndex := 62, attributes := #[] }, { accessFlags := 4120, nameIndex := 46, descriptorIndex := 47, attributes := #[] }])
  fields := #[{ name := "HI_BYTE_SHIFT", type := .int, accessFlags := 26, slot := 0, constantValue := 0 }, { name := "LO_BYTE_SHIFT", type := .int, accessFlags := 26, slot := 1, constantValue := 0 }, { name := "MAX_LENGTH", type := .int, accessFlags := 24, slot := 2, constantValue := 0 }, { name := "$assertionsDisabled", type := .boolean, accessFlags := 4120, slot := 3, constantValue := 0 }]
  methods := #[k11m0, k11m1, k11m2, k11m3]
  instanceTypes := #[]
  staticTypes := #[.int, .int, .int, .boolean]
  resolved := Array.replicate 635 none
  statics := none }

def pool12 : Array CpInfo := pool [(4, .class_ 6), (1, u "java/lang/Object"), (0, u "<init>"), (0, u "()V"), (5, .class_ 16), (1, u "java/lang/StringLatin1"), (73, u "canEncode"), (14, u "(C)Z"), (15, u "$assertionsDisabled"), (0, u "Z"), (98, .class_ 223), (1, u "java/lang/StringLatin1$LinesSpliterator"), (156, u "toBytes"), (1, u "(C)[B"), (7, .class_ 391), (0, u "java/lang/StringLatin1$CharsSpliterator")] 3

def k12m0 : Method := { name := "<init>", desc := "()V", sig := { parameters := [], returnType := none }, accessFlags := 0, code := none }
def k12c1 : Code := { maxStack := 2, maxLocals := 1, code := jdk_43_method_3_code, exceptionTable := #[], attributes := #[] }
def k12m1 : Method := { name := "canEncode", desc := "(C)Z", sig := { parameters := [.char], returnType := some .boolean }, accessFlags := 9, code := some k12c1 }
def k12c2 : Code := { maxStack := 4, maxLocals := 1, code := jdk_43_method_46_code, exceptionTable := #[], attributes := #[] }
def k12m2 : Method := { name := "toBytes", desc := "(C)[B", sig := { parameters := [.char], returnType := some (.array .byte) }, accessFlags := 9, code := some k12c2 }
/-- java/lang/StringLatin1 -/
def k12 : Class := { plain "java/lang/StringLatin1" (some 0) with
  accessFlags := 48
  interfaces := #[]
  cf := some (fileOf pool12 14 #[.nestMembers #[390, 221]] #[{ accessFlags := 0, nameIndex := 7, descriptorIndex := 8, attributes := #[] }, { accessFlags := 9, nameIndex := 90, descriptorIndex := 105, attributes := #[] }, { accessFlags := 9, nameIndex := 380, descriptorIndex := 382, attributes := #[] }] 48 4 #[] #[{ accessFlags := 4120, nameIndex := 121, descriptorIndex := 122, attributes := #[] }])
  fields := #[{ name := "$assertionsDisabled", type := .boolean, accessFlags := 4120, slot := 0, constantValue := 0 }]
  methods := #[k12m0, k12m1, k12m2]
  instanceTypes := #[]
  staticTypes := #[.boolean]
  resolved := Array.replicate 395 none
  statics := none }

def pool13 : Array CpInfo := pool [(2, .class_ 4), (1, u "java/lang/Object"), (0, u "<init>"), (0, u "()V"), (17, .class_ 26), (1, u "jdk/internal/util/Preconditions"), (28, .class_ 56), (0, u "jdk/internal/util/Preconditions$4"), (57, .class_ 115), (0, u "jdk/internal/util/Preconditions$1"), (7, u "SIOOBE_FORMATTER"), (0, u "Ljava/util/function/BiFunction;"), (0, .class_ 126), (0, u "jdk/internal/util/Preconditions$2"), (3, u "AIOOBE_FORMATTER"), (0, .class_ 132), (0, u "jdk/internal/util/Preconditions$3"), (3, u "IOOBE_FORMATTER")] 57

def k13m0 : Method := { name := "<init>", desc := "()V", sig := { parameters := [], returnType := none }, accessFlags := 1, code := none }
/-- jdk/internal/util/Preconditions -/
def k13 : Class := { plain "jdk/internal/util/Preconditions" (some 0) with
  accessFlags := 33
  interfaces := #[]
  cf := some (fileOf pool13 24 #[.nestMembers #[55, 131, 125, 114]] #[{ accessFlags := 1, nameIndex := 5, descriptorIndex := 6, attributes := #[] }] 33 2 #[] #[{ accessFlags := 25, nameIndex := 123, descriptorIndex := 124, attributes := #[] }, { accessFlags := 25, nameIndex := 130, descriptorIndex := 124, attributes := #[] }, { accessFlags := 25, nameIndex := 136, descriptorIndex := 124, attributes := #[] }])
  fields := #[{ name := "SIOOBE_FORMATTER", type := (.object "java/util/function/BiFunction"), accessFlags := 25, slot := 0, constantValue := 0 }, { name := "AIOOBE_FORMATTER", type := (.object "java/util/function/BiFunction"), accessFlags := 25, slot := 1, constantValue := 0 }, { name := "IOOBE_FORMATTER", type := (.object "java/util/function/BiFunction"), accessFlags := 25, slot := 2, constantValue := 0 }]
  methods := #[k13m0]
  instanceTypes := #[]
  staticTypes := #[(.object "java/util/function/BiFunction"), (.object "java/util/function/BiFunction"), (.object "java/util/function/BiFunction")]
  resolved := Array.replicate 194 none
  statics := some 1 }

def pool14 : Array CpInfo := pool [(9, u "<init>"), (6, .class_ 18), (1, u "java/lang/Object"), (0, u "()V"), (1, .class_ 23), (1, u "jdk/internal/util/ArraysSupport"), (0, u "LOG2_ARRAY_LONG_INDEX_SCALE"), (0, u "I"), (2, u "U"), (0, u "Ljdk/internal/misc/Unsafe;"), (8, u "BIG_ENDIAN"), (0, u "Z"), (8, u "LOG2_BYTE_BIT_SIZE"), (4, u "LOG2_ARRAY_INT_INDEX_SCALE"), (54, u "JLA"), (0, u "Ljdk/internal/access/JavaLangAccess;"), (11, u "LOG2_ARRAY_BOOLEAN_INDEX_SCALE"), (9, u "LOG2_ARRAY_BYTE_INDEX_SCALE"), (5, u "LOG2_ARRAY_CHAR_INDEX_SCALE"), (5, u "LOG2_ARRAY_SHORT_INDEX_SCALE"), (18, u "LOG2_ARRAY_FLOAT_INDEX_SCALE"), (24, u "LOG2_ARRAY_DOUBLE_INDEX_SCALE"), (89, u "T_BOOLEAN"), (2, u "T_CHAR"), (1, u "T_FLOAT"), (1, u "T_DOUBLE"), (1, u "T_BYTE"), (1, u "T_SHORT"), (1, u "T_INT"), (1, u "T_LONG"), (1, u "SOFT_MAX_ARRAY_LENGTH")] 83

def k14m0 : Method := { name := "<init>", desc := "()V", sig := { parameters := [], returnType := none }, accessFlags := 2, code := none }
/-- jdk/internal/util/ArraysSupport -/
def k14 : Class := { plain "jdk/internal/util/ArraysSupport" (some 0) with
  accessFlags := 33
  interfaces := #[]
  cf := some (fileOf pool14 21 #[] #[{ accessFlags := 2, nameIndex := 9, descriptorIndex := 19, attributes := #[] }] 33 16 #[] #[{ accessFlags := 24, nameIndex := 28, descriptorIndex := 29, attributes := #[] }, { accessFlags := 26, nameIndex := 38, descriptorIndex := 39, attributes := #[] }, { accessFlags := 25, nameIndex := 121, descriptorIndex := 25, attributes := #[] }, { accessFlags := 25, nameIndex := 131, descriptorIndex := 25, attributes := #[] }, { accessFlags := 25, nameIndex := 137, descriptorIndex := 25, attributes := #[] }, { accessFlags := 25, nameIndex := 143, descriptorIndex := 25, attributes := #[] }, { accessFlags := 25, nameIndex := 53, descriptorIndex := 25, attributes := #[] }, { accessFlags := 25, nameIndex := 24, descriptorIndex := 25, attributes := #[] }, { accessFlags := 25, nameIndex := 162, descriptorIndex := 25, attributes := #[] }, { accessFlags := 25, nameIndex := 187, descriptorIndex := 25, attributes := #[] }, { accessFlags := 26, nameIndex := 48, descriptorIndex := 25, attributes := #[] }, { accessFlags := 25, nameIndex := 277, descriptorIndex := 25, attributes := #[] }, { accessFlags := 25, nameIndex := 280, descriptorIndex := 25, attributes := #[] }, { accessFlags := 25, nameIndex := 282, descriptorIndex := 25, attributes := #[] }, { accessFlags := 25, nameIndex := 284, descriptorIndex := 25, attributes := #[] }, { accessFlags := 25, nameIndex := 286, descriptorIndex := 25, attributes := #[] }, { accessFlags := 25, nameIndex := 288, descriptorIndex := 25, attributes := #[] }, { accessFlags := 25, nameIndex := 290, descriptorIndex := 25, attributes := #[] }, { accessFlags := 25, nameIndex := 292, descriptorIndex := 25, attributes := #[] }, { accessFlags := 26, nameIndex := 108, descriptorIndex := 109, attributes := #[] }, { accessFlags := 25, nameIndex := 294, descriptorIndex := 25, attributes := #[] }])
  fields := #[{ name := "U", type := (.object "jdk/internal/misc/Unsafe"), accessFlags := 24, slot := 0, constantValue := 0 }, { name := "BIG_ENDIAN", type := .boolean, accessFlags := 26, slot := 1, constantValue := 0 }, { name := "LOG2_ARRAY_BOOLEAN_INDEX_SCALE", type := .int, accessFlags := 25, slot := 2, constantValue := 0 }, { name := "LOG2_ARRAY_BYTE_INDEX_SCALE", type := .int, accessFlags := 25, slot := 3, constantValue := 0 }, { name := "LOG2_ARRAY_CHAR_INDEX_SCALE", type := .int, accessFlags := 25, slot := 4, constantValue := 0 }, { name := "LOG2_ARRAY_SHORT_INDEX_SCALE", type := .int, accessFlags := 25, slot := 5, constantValue := 0 }, { name := "LOG2_ARRAY_INT_INDEX_SCALE", type := .int, accessFlags := 25, slot := 6, constantValue := 0 }, { name := "LOG2_ARRAY_LONG_INDEX_SCALE", type := .int, accessFlags := 25, slot := 7, constantValue := 0 }, { name := "LOG2_ARRAY_FLOAT_INDEX_SCALE", type := .int, accessFlags := 25, slot := 8, constantValue := 0 }, { name := "LOG2_ARRAY_DOUBLE_INDEX_SCALE", type := .int, accessFlags := 25, slot := 9, constantValue := 0 }, { name := "LOG2_BYTE_BIT_SIZE", type := .int, accessFlags := 26, slot := 10, constantValue := 0 }, { name := "T_BOOLEAN", type := .int, accessFlags := 25, slot := 11, constantValue := 0 }, { name := "T_CHAR", type := .int, accessFlags := 25, slot := 12, constantValue := 0 }, { name := "T_FLOAT", type := .int, accessFlags := 25, slot := 13, constantValue := 0 }, { name := "T_DOUBLE", type := .int, accessFlags := 25, slot := 14, constantValue := 0 }, { name := "T_BYTE", type := .int, accessFlags := 25, slot := 15, constantValue := 0 }, { name := "T_SHORT", type := .int, accessFlags := 25, slot := 16, constantValue := 0 }, { name := "T_INT", type := .int, accessFlags := 25, slot := 17, constantValue := 0 }, { name := "T_LONG", type := .int, accessFlags := 25, slot := 18, constantValue := 0 }, { name := "JLA", type := (.object "jdk/internal/access/JavaLangAccess"), accessFlags := 26, slot := 19, constantValue := 0 }, { name := "SOFT_MAX_ARRAY_LENGTH", type := .int, accessFlags := 25, slot := 20, constantValue := 0 }]
  methods := #[k14m0]
  instanceTypes := #[]
  staticTypes := #[(.object "jdk/internal/misc/Unsafe"), .boolean, .int, .int, .int, .int, .int, .int, .int, .int, .int, .int, .int, .int, .int, .int, .int, .int, .int, (.object "jdk/internal/access/JavaLangAccess"), .int]
  resolved := Array.replicate 378 none
  statics := none }

def pool15 : Array CpInfo := pool [(1, u "java/lang/Cloneable"), (0, .class_ 1), (0, u "java/lang/Object"), (0, .class_ 3)] 3

/-- java/lang/Cloneable -/
def k15 : Class := { plain "java/lang/Cloneable" (some 0) with
  accessFlags := 1537
  interfaces := #[]
  cf := some (fileOf pool15 2 #[] #[] 1537 4 #[] #[])
  fields := #[]
  methods := #[]
  instanceTypes := #[]
  staticTypes := #[]
  resolved := Array.replicate 8 none
  statics := none }

/-- the primitive byte -/
def k16 : Class := { plain "byte" none with kind := .primitive 'B', accessFlags := 0x411 }
/-- [B -/
def k17 : Class := { plain "[B" (some 0) with kind := .array 16 .byte, interfaces := #[15, 3], accessFlags := 1041 }

/-- the primitive char -/
def k18 : Class := { plain "char" none with kind := .primitive 'C', accessFlags := 0x411 }
/-- [C -/
def k19 : Class := { plain "[C" (some 0) with kind := .array 18 .char, interfaces := #[15, 3], accessFlags := 1041 }

/-- the primitive int -/
def k20 : Class := { plain "int" none with kind := .primitive 'I', accessFlags := 0x411 }
/-- [I -/
def k21 : Class := { plain "[I" (some 0) with kind := .array 20 .int, interfaces := #[15, 3], accessFlags := 1041 }

def heap : Heap := #[{ cls := 8, slots := #[.long 0, .int 1, .null, .int 0, .null, .int 0, .int 0], vm := .statics 8 },
  { cls := 13, slots := #[.null, .null, .null], vm := .statics 13 }]
def classes : Array Class := #[k0, k1, k2, k3, k4, k5, k6, k7, k8, k9, k10, k11, k12, k13, k14, k15, k16, k17, k18, k19, k20, k21]
def interned : List (Array UInt16 × Addr) := []
def slotsUsed : Nat := 10
def theMethod : MethodId := ⟨1, 2⟩
def args0 : Array Value := #[.int 4, .int 65, .int 66, .int 1, .int 2, .int 3]
def aboutOver (below : List Frame) : State where
  vm := { classes := classes, interned := interned.toArray }
  heap := heap
  slotsUsed := slotsUsed
  threads := #[{ frames := .invoking theMethod args0 :: below }]
def below0 : List Frame := [.native { method := ⟨0, 0⟩, args := #[] }]
def about1 : State := aboutOver below0
def p0 : Program := .bare "" "" ""
def e0 : Env := launch0.env 0 0 0
theorem w_frames : about1.frames = Frame.invoking theMethod args0 :: below0 := rfl
set_option maxRecDepth 65536 in
theorem w_args : argsFit about1.vm theMethod args0 = true := by decide +kernel
set_option maxRecDepth 65536 in
theorem w_heap : heapFits about1 = true := by decide +kernel
set_option maxRecDepth 65536 in
theorem w_runnable : about1.curStatus? = some .runnable := by decide +kernel
set_option maxRecDepth 65536 in
theorem w_alone : about1.alone = true := by decide +kernel
set_option maxRecDepth 65536 in
theorem w_named : about1.methodNamed? x = some theMethod := by decide +kernel
set_option maxRecDepth 65536 in
theorem w_hears : about1.hears theMethod below0 = true := by decide +kernel
set_option maxRecDepth 65536 in
theorem w_ripe : about1.ripe theMethod args0 below0 = true := by decide +kernel
theorem w_running : about1.status = .running := rfl
set_option maxRecDepth 65536 in
theorem w_room : about1.hasRoom e0.platform room_1 = true :=
  launch0.hasRoom_least _ room_1 (by decide +kernel) (by decide +kernel) (by decide +kernel) (by decide +kernel) (by decide +kernel) (by decide +kernel)
theorem allAtoms_all (ts : List Jvm.Cond) (a : Array Jvm.Value) (st : Jvm.State) : (allAtoms ts).before a st = ts.all (fun c => c.before a st) := by
  induction ts with
  | nil => rfl
  | cons c t ih =>
    show (Jvm.Cond.and c (allAtoms t)).before a st = _
    rw [Jvm.Cond.before_and, ih, List.all_cons]
def words1 : List Jvm.Cond := Jvm.Cond.code x code maxLocals ret :: tables_1
/-- a 'code' word, met by the world's own term for the bytes: nothing is compared byte by byte -/
theorem code_word {y : MethodName} {bytes : ByteArray} {mx : Nat} {rt : Option FieldType} {a : Array Value} {s : State} {m : MethodId} {meth : Method} {c : Code} (h1 : s.methodNamed? y = some m) (h2 : s.vm.method? m = some meth) (h3 : meth.code = some c) (h4 : c.code = bytes)
    (h5 : (c.maxLocals == mx && c.exceptionTable.isEmpty && decide (c.maxStack ≤ mostOperands) && decide (meth.sig.returnType = rt) && !meth.locks && decide (parseMethodDescriptor y.desc = some meth.sig)) = true) : (Jvm.Cond.code y bytes mx rt).before a s = true := by
  simp only [Bool.and_eq_true, beq_iff_eq, Bool.not_eq_true', decide_eq_true_eq] at h5
  obtain ⟨⟨⟨⟨⟨g1, g2⟩, g3⟩, g4⟩, g5⟩, g6⟩ := h5
  simp [Cond.before, Cond.holds, Cond.value, h1, h2, h3, h4, g1, g2, g3, g4, g5, g6]
def isCode : Jvm.Cond → Bool
  | .code _ _ _ _ => true
  | _ => false
theorem all_split {L : List Jvm.Cond} {P : Jvm.Cond → Bool} (h1 : L.all (fun c => isCode c || P c) = true) (h2 : ∀ c ∈ L.filter isCode, P c = true) : L.all P = true := by
  refine List.all_eq_true.mpr fun c hc => ?_
  have h := List.all_eq_true.mp h1 c hc
  rcases Bool.eq_false_or_eq_true (isCode c) with hi | hi
  · exact h2 c (List.mem_filter.mpr ⟨hc, hi⟩)
  · simpa [hi] using h
set_option maxRecDepth 65536 in
theorem w_c0 : (Jvm.Cond.code x code maxLocals ret).before args0 about1 = true := code_word (m := ⟨1, 2⟩) (meth := k1m2) (c := k1c2) (by decide +kernel) rfl rfl rfl (by decide +kernel)
set_option maxRecDepth 65536 in
theorem w_c1 : (Jvm.Cond.code ({ cls := "java/lang/Math", name := "min", desc := "(II)I" } : Jvm.MethodName) jdk_29_method_69_code (2 : Nat) (Option.some Jvm.ClassFile.FieldType.int)).before args0 about1 = true := code_word (m := ⟨2, 1⟩) (meth := k2m1) (c := k2c1) (by decide +kernel) rfl rfl rfl (by decide +kernel)
set_option maxRecDepth 65536 in
theorem w_c2 : (Jvm.Cond.code ({ cls := "com/example/signalbox/signalbox/tramlines/CardIsConductorPinLaw", name := "str", desc := "(III)Ljava/lang/String;" } : Jvm.MethodName) method_2_code (5 : Nat) (Option.some (Jvm.ClassFile.FieldType.object "java/lang/String"))).before args0 about1 = true := code_word (m := ⟨1, 1⟩) (meth := k1m1) (c := k1c1) (by decide +kernel) rfl rfl rfl (by decide +kernel)
set_option maxRecDepth 65536 in
theorem w_c3 : (Jvm.Cond.code ({ cls := "java/lang/String", name := "<init>", desc := "([C)V" } : Jvm.MethodName) jdk_42_method_3_code (2 : Nat) (Option.none : Option Jvm.ClassFile.FieldType)).before args0 about1 = true := code_word (m := ⟨8, 1⟩) (meth := k8m1) (c := k8c1) (by decide +kernel) rfl rfl rfl (by decide +kernel)
set_option maxRecDepth 65536 in
theorem w_c4 : (Jvm.Cond.code ({ cls := "java/lang/String", name := "<init>", desc := "([CIILjava/lang/Void;)V" } : Jvm.MethodName) jdk_42_method_149_code (6 : Nat) (Option.none : Option Jvm.ClassFile.FieldType)).before args0 about1 = true := code_word (m := ⟨8, 3⟩) (meth := k8m3) (c := k8c3) (by decide +kernel) rfl rfl rfl (by decide +kernel)
set_option maxRecDepth 65536 in
theorem w_c5 : (Jvm.Cond.code ({ cls := "java/lang/Object", name := "<init>", desc := "()V" } : Jvm.MethodName) object_method_1_code (1 : Nat) (Option.none : Option Jvm.ClassFile.FieldType)).before args0 about1 = true := code_word (m := ⟨0, 0⟩) (meth := k0m0) (c := k0c0) (by decide +kernel) rfl rfl rfl (by decide +kernel)
set_option maxRecDepth 65536 in
theorem w_c6 : (Jvm.Cond.code ({ cls := "com/example/signalbox/signalbox/tramlines/Card", name := "<init>", desc := "(Ljava/lang/String;ILjava/lang/String;II)V" } : Jvm.MethodName) prog_28_method_1_code (6 : Nat) (Option.none : Option Jvm.ClassFile.FieldType)).before args0 about1 = true := code_word (m := ⟨10, 0⟩) (meth := k10m0) (c := k10c0) (by decide +kernel) rfl rfl rfl (by decide +kernel)
set_option maxRecDepth 65536 in
theorem w_c7 : (Jvm.Cond.code ({ cls := "java/lang/Record", name := "<init>", desc := "()V" } : Jvm.MethodName) jdk_30_method_1_code (1 : Nat) (Option.none : Option Jvm.ClassFile.FieldType)).before args0 about1 = true := code_word (m := ⟨9, 0⟩) (meth := k9m0) (c := k9c0) (by decide +kernel) rfl rfl rfl (by decide +kernel)
set_option maxRecDepth 65536 in
theorem w_c8 : (Jvm.Cond.code ({ cls := "com/example/signalbox/signalbox/tramlines/Card", name := "isConductor", desc := "()Z" } : Jvm.MethodName) prog_28_method_2_code (1 : Nat) (Option.some Jvm.ClassFile.FieldType.boolean)).before args0 about1 = true := code_word (m := ⟨10, 1⟩) (meth := k10m1) (c := k10c1) (by decide +kernel) rfl rfl rfl (by decide +kernel)
set_option maxRecDepth 65536 in
theorem w_c9 : (Jvm.Cond.code ({ cls := "java/lang/StringUTF16", name := "compress", desc := "([CII)[B" } : Jvm.MethodName) jdk_52_method_16_code (6 : Nat) (Option.some (Jvm.ClassFile.FieldType.array Jvm.ClassFile.FieldType.byte))).before args0 about1 = true := code_word (m := ⟨11, 2⟩) (meth := k11m2) (c := k11c2) (by decide +kernel) rfl rfl rfl (by decide +kernel)
set_option maxRecDepth 65536 in
theorem w_c10 : (Jvm.Cond.code ({ cls := "java/lang/StringUTF16", name := "compress", desc := "([CI[BII)I" } : Jvm.MethodName) jdk_52_method_21_code (7 : Nat) (Option.some Jvm.ClassFile.FieldType.int)).before args0 about1 = true := code_word (m := ⟨11, 3⟩) (meth := k11m3) (c := k11c3) (by decide +kernel) rfl rfl rfl (by decide +kernel)
set_option maxRecDepth 65536 in
theorem w_c11 : (Jvm.Cond.code ({ cls := "java/lang/StringUTF16", name := "coderFromArrayLen", desc := "([BI)B" } : Jvm.MethodName) jdk_52_method_15_code (2 : Nat) (Option.some Jvm.ClassFile.FieldType.byte)).before args0 about1 = true := code_word (m := ⟨11, 1⟩) (meth := k11m1) (c := k11c1) (by decide +kernel) rfl rfl rfl (by decide +kernel)
set_option maxRecDepth 65536 in
theorem w_c12 : (Jvm.Cond.code ({ cls := "java/lang/String", name := "valueOf", desc := "(C)Ljava/lang/String;" } : Jvm.MethodName) jdk_42_method_139_code (1 : Nat) (Option.some (Jvm.ClassFile.FieldType.object "java/lang/String"))).before args0 about1 = true := code_word (m := ⟨8, 2⟩) (meth := k8m2) (c := k8c2) (by decide +kernel) rfl rfl rfl (by decide +kernel)
set_option maxRecDepth 65536 in
theorem w_c13 : (Jvm.Cond.code ({ cls := "java/lang/StringLatin1", name := "canEncode", desc := "(C)Z" } : Jvm.MethodName) jdk_43_method_3_code (1 : Nat) (Option.some Jvm.ClassFile.FieldType.boolean)).before args0 about1 = true := code_word (m := ⟨12, 1⟩) (meth := k12m1) (c := k12c1) (by decide +kernel) rfl rfl rfl (by decide +kernel)
set_option maxRecDepth 65536 in
theorem w_c14 : (Jvm.Cond.code ({ cls := "java/lang/StringLatin1", name := "toBytes", desc := "(C)[B" } : Jvm.MethodName) jdk_43_method_46_code (1 : Nat) (Option.some (Jvm.ClassFile.FieldType.array Jvm.ClassFile.FieldType.byte))).before args0 about1 = true := code_word (m := ⟨12, 2⟩) (meth := k12m2) (c := k12c2) (by decide +kernel) rfl rfl rfl (by decide +kernel)
set_option maxRecDepth 65536 in
theorem w_c15 : (Jvm.Cond.code ({ cls := "java/lang/String", name := "<init>", desc := "([BB)V" } : Jvm.MethodName) jdk_42_method_151_code (3 : Nat) (Option.none : Option Jvm.ClassFile.FieldType)).before args0 about1 = true := code_word (m := ⟨8, 4⟩) (meth := k8m4) (c := k8c4) (by decide +kernel) rfl rfl rfl (by decide +kernel)
def codes1 : List Jvm.Cond := [Jvm.Cond.code x code maxLocals ret, Jvm.Cond.code ({ cls := "java/lang/Math", name := "min", desc := "(II)I" } : Jvm.MethodName) jdk_29_method_69_code (2 : Nat) (Option.some Jvm.ClassFile.FieldType.int), Jvm.Cond.code ({ cls := "com/example/signalbox/signalbox/tramlines/CardIsConductorPinLaw", name := "str", desc := "(III)Ljava/lang/String;" } : Jvm.MethodName) method_2_code (5 : Nat) (Option.some (Jvm.ClassFile.FieldType.object "java/lang/String")), Jvm.Cond.code ({ cls := "java/lang/String", name := "<init>", desc := "([C)V" } : Jvm.MethodName) jdk_42_method_3_code (2 : Nat) (Option.none : Option Jvm.ClassFile.FieldType), Jvm.Cond.code ({ cls := "java/lang/String", name := "<init>", desc := "([CIILjava/lang/Void;)V" } : Jvm.MethodName) jdk_42_method_149_code (6 : Nat) (Option.none : Option Jvm.ClassFile.FieldType), Jvm.Cond.code ({ cls := "java/lang/Object", name := "<init>", desc := "()V" } : Jvm.MethodName) object_method_1_code (1 : Nat) (Option.none : Option Jvm.ClassFile.FieldType), Jvm.Cond.code ({ cls := "com/example/signalbox/signalbox/tramlines/Card", name := "<init>", desc := "(Ljava/lang/String;ILjava/lang/String;II)V" } : Jvm.MethodName) prog_28_method_1_code (6 : Nat) (Option.none : Option Jvm.ClassFile.FieldType), Jvm.Cond.code ({ cls := "java/lang/Record", name := "<init>", desc := "()V" } : Jvm.MethodName) jdk_30_method_1_code (1 : Nat) (Option.none : Option Jvm.ClassFile.FieldType), Jvm.Cond.code ({ cls := "com/example/signalbox/signalbox/tramlines/Card", name := "isConductor", desc := "()Z" } : Jvm.MethodName) prog_28_method_2_code (1 : Nat) (Option.some Jvm.ClassFile.FieldType.boolean), Jvm.Cond.code ({ cls := "java/lang/StringUTF16", name := "compress", desc := "([CII)[B" } : Jvm.MethodName) jdk_52_method_16_code (6 : Nat) (Option.some (Jvm.ClassFile.FieldType.array Jvm.ClassFile.FieldType.byte)), Jvm.Cond.code ({ cls := "java/lang/StringUTF16", name := "compress", desc := "([CI[BII)I" } : Jvm.MethodName) jdk_52_method_21_code (7 : Nat) (Option.some Jvm.ClassFile.FieldType.int), Jvm.Cond.code ({ cls := "java/lang/StringUTF16", name := "coderFromArrayLen", desc := "([BI)B" } : Jvm.MethodName) jdk_52_method_15_code (2 : Nat) (Option.some Jvm.ClassFile.FieldType.byte), Jvm.Cond.code ({ cls := "java/lang/String", name := "valueOf", desc := "(C)Ljava/lang/String;" } : Jvm.MethodName) jdk_42_method_139_code (1 : Nat) (Option.some (Jvm.ClassFile.FieldType.object "java/lang/String")), Jvm.Cond.code ({ cls := "java/lang/StringLatin1", name := "canEncode", desc := "(C)Z" } : Jvm.MethodName) jdk_43_method_3_code (1 : Nat) (Option.some Jvm.ClassFile.FieldType.boolean), Jvm.Cond.code ({ cls := "java/lang/StringLatin1", name := "toBytes", desc := "(C)[B" } : Jvm.MethodName) jdk_43_method_46_code (1 : Nat) (Option.some (Jvm.ClassFile.FieldType.array Jvm.ClassFile.FieldType.byte)), Jvm.Cond.code ({ cls := "java/lang/String", name := "<init>", desc := "([BB)V" } : Jvm.MethodName) jdk_42_method_151_code (3 : Nat) (Option.none : Option Jvm.ClassFile.FieldType)]
set_option maxRecDepth 65536 in
theorem codes_eq : words1.filter isCode = codes1 := rfl
theorem w_codes : ∀ c ∈ words1.filter isCode, c.before args0 about1 = true := by
  rw [codes_eq]
  intro c hc
  simp only [codes1, List.mem_cons, List.not_mem_nil, or_false] at hc
  rcases hc with rfl | rfl | rfl | rfl | rfl | rfl | rfl | rfl | rfl | rfl | rfl | rfl | rfl | rfl | rfl | rfl
  · exact w_c0
  · exact w_c1
  · exact w_c2
  · exact w_c3
  · exact w_c4
  · exact w_c5
  · exact w_c6
  · exact w_c7
  · exact w_c8
  · exact w_c9
  · exact w_c10
  · exact w_c11
  · exact w_c12
  · exact w_c13
  · exact w_c14
  · exact w_c15
set_option maxRecDepth 65536 in
theorem w_t1 : (words1.take 24).all (fun c => isCode c || c.before args0 about1) = true := by decide +kernel
set_option maxRecDepth 65536 in
theorem w_t2 : ((words1.drop 24).take 24).all (fun c => isCode c || c.before args0 about1) = true := by decide +kernel
set_option maxRecDepth 65536 in
theorem w_t3 : (((words1.drop 24).drop 24).take 24).all (fun c => isCode c || c.before args0 about1) = true := by decide +kernel
set_option maxRecDepth 65536 in
theorem w_t4 : (((words1.drop 24).drop 24).drop 24).all (fun c => isCode c || c.before args0 about1) = true := by decide +kernel
theorem w_tables : (allAtoms (Jvm.Cond.code x code maxLocals ret :: tables_1)).before args0 about1 = true := by
  rw [allAtoms_all]
  show words1.all (fun c => c.before args0 about1) = true
  refine all_split ?_ w_codes
  rw [← List.take_append_drop 24 words1, List.all_append, w_t1, ← List.take_append_drop 24 (words1.drop 24), List.all_append, w_t2, ← List.take_append_drop 24 ((words1.drop 24).drop 24), List.all_append, w_t3, w_t4]
  rfl
set_option maxRecDepth 65536 in
theorem w_rest : rest_1_c.before args0 about1 = true := by decide +kernel
set_option maxRecDepth 65536 in
theorem w_case : (Jvm.Cond.and given_1 narrow_1).before args0 about1 = true := by decide +kernel
set_option maxRecDepth 65536 in
theorem w_consts : constsHeld consts_1 about1 := Jvm.Lit.constsHeldB_iff.mp (by decide +kernel)
theorem w_applies : (headSpec (Jvm.Cond.code x code maxLocals ret :: tables_1) room_1).applies x e0.platform about1 = true :=
  (Spec.applies_iff w_frames).mpr ⟨w_running, w_runnable, w_alone, w_named, w_hears, w_ripe, w_room, w_tables⟩
theorem atStart : AtStart classFile x code maxLocals ret World_1 tables_1 room_1 Calls_1 rest_1 Pre_1 launch0 p0 e0 about1 theMethod args0 below0 :=
  ⟨lists_1, trivial, launch0.admits_env _ _ _, launch0.least_env, fairChoices_fair.cas, fairChoices_fair.clock, w_frames, w_args, w_heap, w_applies, ⟨w_consts, trivial⟩, w_rest, w_case⟩
end start1
theorem witness_1 : WitnessClaimed_1 := ⟨start1.p0, start1.e0, start1.about1, start1.theMethod, start1.args0, start1.below0, start1.atStart⟩
end Jvm.Pilot.@@N@@
