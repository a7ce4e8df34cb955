import JvmDerived
import JvmDerived.Pilot.@@N@@Statement
import JvmDerived.Pilot.@@N@@Code
set_option linter.unusedVariables false
set_option linter.unusedSimpArgs false
@@BLOCK:LamKit.lean.txt@@
namespace Jvm.Pilot.@@N@@
open Jvm Jvm.ClassFile Sem Op Lib Jvm.Free Jvm.Stand Jvm.LawKit Jvm.RoadKit Bundle Jvm.Pilot.@@N@@.Jvm.D
section Own
variable {p : Program} {l : Launch} {e : Env} {R : Room} {s : State} {m : MethodId} {args : Array Value} {below : List Frame} {meth : Method} {c : Code} {T T' : State} {locs : List Loc} {cells slots : Nat} {Φ : State → Outcome → Prop} {g g' : JFrame}
/-- from (T, g) the run comes to an end that Φ takes -/
def Go (p : Program) (e : Env) (below : List Frame) (Φ : State → Outcome → Prop) (T : State) (g : JFrame) : Prop := ∃ t o, Steps p.tables e below (T.setTop g) t ∧ Φ t o
theorem Go.of (h : ∀ t, Steps p.tables e below (T'.setTop g') t → Steps p.tables e below (T.setTop g) t) (k : Go p e below Φ T' g') : Go p e below Φ T g := by
  obtain ⟨t, o, h1, h2⟩ := k
  exact ⟨t, o, h t h1, h2⟩
theorem Go.tr (h : Steps p.tables e below (T.setTop g) (T'.setTop g')) (k : Go p e below Φ T' g') : Go p e below Φ T g := by
  obtain ⟨t, o, h1, h2⟩ := k
  exact ⟨t, o, h.trans h1, h2⟩
/-- what a body owes at its end -/
def EndQ (s : State) (below : List Frame) (Q : Option Value → Heap → List Loc → Prop) (C S : Nat) (t : State) (o : Outcome) : Prop := t.status = .running ∧ Ended t below o ∧ ∃ v L, o = .returned v ∧ Q v t.heap L ∧ FrameEnd s o t L C S
theorem Go.ret (X : Stand p l e R s m args below meth c T locs cells slots) (hx : p.tables.exec = Jvm.exec) (hlocks : meth.locks = false) {pc : Nat} {Ls : Array Slot} {w : Value} {t : FieldType} {i : Instr} {rest : List Value} (hret : meth.sig.returnType = some t) (hn : narrow t w = w)
    (hi : (i = .ireturn ∧ (t = .int ∨ t = .boolean ∨ t = .byte ∨ t = .char ∨ t = .short) ∧ ∃ z, w = .int z) ∨ (i = .lreturn ∧ t = .long ∧ ∃ z, w = .long z) ∨ (i = .dreturn ∧ t = .double ∧ ∃ z, w = .double z) ∨ (i = .freturn ∧ t = .float ∧ ∃ z, w = .float z) ∨ (i = .areturn ∧ t.isReference = true ∧ w.isRef = true))
    (hd : decode c.code pc = .ok (i, 1)) {Q : Option Value → Heap → List Loc → Prop} {C S : Nat} (hC : cells ≤ C) (hS : slots ≤ S) (hQ : Q (some w) T.heap locs) : Go p e below (EndQ s below Q C S) T (mkF m pc Ls (w :: rest)) := by
  obtain ⟨fs, hr, hrun, hended, hW, hsame⟩ := X.leave (v := some w) (fun h => by rw [hret] at h; cases h) hlocks
  exact ⟨_, _, retOut X hx hret hn hi hd hr, hrun, hended, _, _, rfl, hQ, ⟨_, rfl⟩, hW, hsame.mono hC hS⟩
theorem Go.retV (X : Stand p l e R s m args below meth c T locs cells slots) (hx : p.tables.exec = Jvm.exec) (hlocks : meth.locks = false) {pc : Nat} {Ls : Array Slot} (hret : meth.sig.returnType = none)
    (hd : decode c.code pc = .ok (.return_, 1)) {Q : Option Value → Heap → List Loc → Prop} {C S : Nat} (hC : cells ≤ C) (hS : slots ≤ S) (hQ : Q none T.heap locs) : Go p e below (EndQ s below Q C S) T (mkF m pc Ls []) := by
  obtain ⟨fs, hr, hrun, hended, hW, hsame⟩ := X.leave (v := none) (fun _ => rfl) hlocks
  exact ⟨_, _, X.returnOut hx hret hd hr, hrun, hended, _, _, rfl, hQ, ⟨_, rfl⟩, hW, hsame.mono hC hS⟩
def own_ushr (x y : Int32) : Int32 := (x.toUInt32 >>> (y &&& 31).toUInt32).toInt32
def own_ushrL (x : Int64) (y : Int32) : Int64 := (x.toUInt64 >>> (y &&& 0x3f).toInt64.toUInt64).toInt64
theorem own_one {v : Int32} (h : v = 1) : narrow .boolean (.int v) = .int v := by rw [h]; rfl
theorem own_at_ {h : Heap} {a : Addr} {cl : Cell} (e : T.heap = h) (q : h[a]? = some cl) : T.heap[a]? = some cl := by rw [e]; exact q
theorem own_w1 {v : Value} (h : v.isRef = true) : 2 * 0 + ([v].map fun v => v.category).sum ≤ 1 := by simp [XT.cat1 h]
theorem own_nar_ref {t : FieldType} {v : Value} (h : v.isRef = true) (ht : t.isReference = true := by rfl) : narrow t v = v := by cases v <;> simp [Value.isRef] at h <;> cases t <;> first | rfl | cases ht
theorem own_fits_ref {t : FieldType} {v : Value} (h : v.isRef = true) (ht : t.isReference = true := by rfl) : fits t v = true := by cases v <;> simp [Value.isRef] at h <;> cases t <;> first | rfl | cases ht
end Own
/-! ## the lambda's site: what the rule's class holds, at the start and behind warmer tables -/
def own_SM : String := "com/example/demarq/demarq/broker/SortedMessages"
def own_sh : Lambda.Shape := { iface := "java/util/function/IntPredicate", name := "test", sam := ⟨[.int], some .boolean⟩, captured := [.object "com/example/demarq/demarq/broker/SortedMessages", .long], kind := 5, implClass := "com/example/demarq/demarq/broker/SortedMessages", implName := "lambda$countBelow$1", implDesc := ⟨[.long, .int], some .boolean⟩, implItf := false, inst := ⟨[.int], some .boolean⟩ }
def own_cbN : MethodName := ⟨"com/example/demarq/demarq/broker/SortedMessages", "countBelow", "(J)I"⟩
def own_lmN : MethodName := ⟨"com/example/demarq/demarq/broker/SortedMessages", "lambda$countBelow$1", "(JI)Z"⟩
def own_xi : MethodName := ⟨"java/util/function/IntPredicate", "test", "(I)Z"⟩
def own_fwB : ByteArray := ⟨#[42, 180, 0, 17, 42, 180, 0, 19, 27, 182, 0, 27, 172]⟩
theorem own_fw0 : decode own_fwB 0 = .ok (.aload_n 0, 1) := by decide +kernel
theorem own_fw1 : decode own_fwB 1 = .ok (.getfield 17, 3) := by decide +kernel
theorem own_fw4 : decode own_fwB 4 = .ok (.aload_n 0, 1) := by decide +kernel
theorem own_fw5 : decode own_fwB 5 = .ok (.getfield 19, 3) := by decide +kernel
theorem own_fw8 : decode own_fwB 8 = .ok (.iload_n 1, 1) := by decide +kernel
theorem own_fw9 : decode own_fwB 9 = .ok (.invokevirtual 27, 3) := by decide +kernel
theorem own_fw12 : decode own_fwB 12 = .ok (.ireturn, 1) := by decide +kernel
def own_D : ClassFile := (own_sh.file own_SM).getD { minorVersion := 0, majorVersion := 0, constantPool := #[], accessFlags := 0, thisClass := 0, superClass := 0, interfaces := #[], fields := #[], methods := #[], attributes := #[] }
def own_fwM : Method := ((layoutMethods own_D).bind (·[1]?)).getD default
def own_lay : Array Field × Array FieldType × Array FieldType := (layoutFields own_D 0).getD (#[], #[], #[])
theorem own_file : own_sh.file own_SM = some own_D := by
  have h : (own_sh.file own_SM).isSome = true := by decide +kernel
  obtain ⟨x, hx⟩ := Option.isSome_iff_exists.mp h
  simp [own_D, hx]
theorem own_second : ∀ ms, layoutMethods own_D = some ms → ms[1]? = some own_fwM := by
  intro ms hms
  have h : ((layoutMethods own_D).bind (·[1]?)).isSome = true := by decide +kernel
  obtain ⟨x, hx⟩ := Option.isSome_iff_exists.mp h
  have hf : own_fwM = x := by simp [own_fwM, hx]
  rw [hms] at hx
  rw [hf]
  exact hx
theorem own_layIs : layoutFields own_D 0 = some own_lay := by
  have h : (layoutFields own_D 0).isSome = true := by decide +kernel
  obtain ⟨x, hx⟩ := Option.isSome_iff_exists.mp h
  simp [own_lay, hx]
theorem own_fwC : (own_fwM.code.map fun c => (c.code.data, c.maxLocals)) = some (own_fwB.data, 2) := by decide +kernel
theorem own_fwF : (own_fwM.accessFlags, own_fwM.name, own_fwM.sig.returnType) = (0x0001, "test", (some .boolean : Option FieldType)) := by decide +kernel
theorem own_eM : own_D.constantPool[27]? = some (.methodref 23 26) ∧ own_D.constantPool.className? 23 = some own_SM ∧ own_D.constantPool.nameAndType? 26 = some ("lambda$countBelow$1", "(JI)Z") := by decide +kernel
theorem own_eC : own_D.constantPool[23]? = some (.class_ 22) ∧ own_D.constantPool.string? 22 = some own_SM ∧ 23 ≠ own_D.thisClass := by decide +kernel
theorem own_eF0 : own_D.constantPool[17]? = some (.fieldref 2 16) ∧ own_D.constantPool.nameAndType? 16 = some ("arg$1", "Lcom/example/demarq/demarq/broker/SortedMessages;") ∧ own_lay.1.findIdx? (·.name == "arg$1") = some 0 ∧ (own_lay.1[0]?).map (fun f => (f.isStatic, f.slot)) = some (false, 0) := by decide +kernel
theorem own_eF1 : own_D.constantPool[19]? = some (.fieldref 2 18) ∧ own_D.constantPool.nameAndType? 18 = some ("arg$2", "J") ∧ own_lay.1.findIdx? (·.name == "arg$2") = some 1 ∧ (own_lay.1[1]?).map (fun f => (f.isStatic, f.slot)) = some (false, 1) := by decide +kernel
theorem own_layT : own_lay.2.1 = #[.object "com/example/demarq/demarq/broker/SortedMessages", .long] := by decide +kernel
/-- what a walk asks of the site's class cK -/
def own_Lam (cK : ClassId) (U : State) : Prop :=
  ∃ (kK tk : Class) (file : ClassFile) (methk : Method) (ck : Code) (cB : ClassId) (t : MethodId) (g0 g1 : Field),
    U.vm.classes[cK]? = some kK ∧ kK.name = own_SM ++ "$$Lambda" ∧ kK.cf = some file ∧ file.constantPool = own_D.constantPool ∧
    U.vm.method? ⟨cK, 1⟩ = some methk ∧ methk.code = some ck ∧ ck.code = own_fwB ∧ ck.maxLocals = 2 ∧ methk.locks = false ∧ methk.sig.returnType = some .boolean ∧
    U.vm.findClass own_SM = some cB ∧ U.vm.classes[cB]? = some tk ∧ tk.isInterface = false ∧ U.methodNamed? own_lmN = some t ∧
    U.vm.methodReady cK 27 t ∧ U.vm.classReady cK 23 cB ∧ U.vm.fieldReady cK 17 cK g0 ∧ g0.isStatic = false ∧ g0.slot = 0 ∧ U.vm.fieldReady cK 19 cK g1 ∧ g1.isStatic = false ∧ g1.slot = 1 ∧
    kK.instanceTypes = #[.object "com/example/demarq/demarq/broker/SortedMessages", .long] ∧ kK.kind = .ordinary ∧ Jvm.Free.HMW.FnX own_xi cK ⟨cK, 1⟩ U
section Lam
variable {Z U : State} {a0 : Array Value} {cK : ClassId}
theorem own_LamZ (hat : Z.lambdaAt? own_cbN 6 57 own_sh = some (cK, none)) (hO : (Cond.instantiable "java/lang/Object" 0).before a0 Z = true) (hI : (Cond.interfaceMethod "java/util/function/IntPredicate" "java/util/function/IntPredicate" "test" "(I)Z").before a0 Z = true)
    (hi : (Cond.instanceMethod own_lmN).before a0 Z = true) : own_Lam cK Z := by
  obtain ⟨m, kS, cfS, i0, p0, lk, hm, hkS, hcfS, hshape, -, hfind, hmade, hcan, hlk⟩ := State.lambdaAt?_spec hat
  obtain ⟨kS', hkS', hnameS⟩ := className_of_methodNamed hm
  cases hkS.symm.trans hkS'
  obtain ⟨dk', k, ok, tk, file, cf, object, iface, toy, lay, methods, target, found, hd', hk, hfile, hcf, hobj, -, hok, hlay, hms, ht, htk, hg, -, hrec, -, -, -, hitf, hpool, hmeth, hfields, hty, hres, -⟩ := Lambda.isMade_spec hmade
  cases hkS.symm.trans hd'
  have hnS : kS.name = own_SM := hnameS
  rw [hnS, own_file] at hcf
  cases hcf
  obtain ⟨cO, kO, hfO, hkO, -, -, -, hsz⟩ := Cond.instantiable_spec hO
  cases hfO.symm.trans hobj
  cases hkO.symm.trans hok
  have hok0 : ok.instanceTypes = #[] := Array.eq_empty_of_size_eq_zero hsz
  rw [hsz, own_layIs] at hlay
  cases hlay
  obtain ⟨b, hb, hsame⟩ := hmeth 1 own_fwM (own_second methods hms)
  have hsame0 := hsame
  simp only [Lambda.sameMethod, Bool.and_eq_true, decide_eq_true_eq] at hsame
  obtain ⟨⟨hn, -, hsig, hfl⟩, hcode⟩ := hsame
  have fc := own_fwC
  have ff := own_fwF
  simp only [Prod.mk.injEq] at ff
  obtain ⟨g0, hg0, hp0⟩ := Option.map_eq_some_iff.mp own_eF0.2.2.2
  simp only [Prod.mk.injEq] at hp0
  obtain ⟨g1, hg1, hp1⟩ := Option.map_eq_some_iff.mp own_eF1.2.2.2
  simp only [Prod.mk.injEq] at hp1
  obtain ⟨mk, methM, hnamed, hmethM, hst, hab⟩ := Cond.instanceMethod_spec hi
  have hlook := Jvm.Free.Fw.look_of_named hnamed (by decide) toy tk ht htk
  have htk0 : tk.isInterface = false := hitf
  cases (Except.ok.inj (hlook.symm.trans hg) : mk = target)
  have hmk1 : Z.vm.method? ⟨cK, 1⟩ = some b := by simp [Vm.method?, hk, hb]
  have hflb : b.accessFlags = 0x0001 := by rw [← hfl]; exact ff.1
  have hFn : Jvm.Free.HMW.FnX own_xi cK ⟨cK, 1⟩ Z := Jvm.Free.HMW.FnX.of_site (args := a0) hmade hcan rfl rfl (by decide +kernel) hI hk hmk1 hflb
  cases hfc : own_fwM.code with
  | none => rw [hfc] at fc; cases fc
  | some x =>
    cases hbc : b.code with
    | none => simp [hfc, hbc] at hcode
    | some y =>
      simp only [hfc, hbc, Bool.and_eq_true, decide_eq_true_eq] at hcode
      simp only [hfc, Option.map_some, Option.some.injEq, Prod.mk.injEq] at fc
      refine ⟨k, tk, file, b, y, toy, target, g0, g1, hk, by rw [hrec.1, hnS], hfile, hpool.2.1, hmk1, hbc, ?_, by rw [← hcode.1.1.1.1.2.1]; exact fc.2, ?_, by rw [← hsig]; exact ff.2.2, ht, htk, htk0, hnamed,
        ⟨k, hk, hres 27 _ (Lambda.resolvedOf_method own_eM.1 own_eM.2.1 ht htk own_eM.2.2 hg)⟩, ⟨k, hk, hres 23 _ (Lambda.resolvedOf_class own_eC.1 own_eC.2.2 own_eC.2.1 ht)⟩,
        ⟨k, 0, k, hk, hres 17 _ (Lambda.resolvedOf_field own_eF0.1 own_eF0.2.1 own_eF0.2.2.1), hk, hfields 0 _ hg0⟩, hp0.1, hp0.2,
        ⟨k, 1, k, hk, hres 19 _ (Lambda.resolvedOf_field own_eF1.1 own_eF1.2.1 own_eF1.2.2.1), hk, hfields 1 _ hg1⟩, hp1.1, hp1.2, by rw [hty.1, hok0, own_layT]; rfl, hrec.2.1, hFn⟩
      · rw [← hcode.1.1.1.1.2.2]
        exact ByteArray.ext fc.1
      · simp [Method.locks, Method.isSynchronized, hflb, hasFlag, Acc.synchronized]
theorem own_res (hZ : Z.Warmed39 U.vm) {d : ClassId} {k k' : Class} {i : Nat} {r : Resolved} (hk : Z.vm.classes[d]? = some k) (hk' : U.vm.classes[d]? = some k') (h : k.resolved[i]? = some (some r)) : k'.resolved[i]? = some (some r) := by
  rcases hZ.entry hk hk' i with q | ⟨q, -⟩
  · rw [q]; exact h
  · rw [h] at q; cases q
theorem own_LamW (hZ : Z.Warmed39 U.vm) (h : own_Lam cK Z) : own_Lam cK U := by
  obtain ⟨kK, tk, file, methk, ck, cB, t, g0, g1, h1, h2, h3, h4, h5, h6, h7, h8, h9, h10, h11, h12, h13, h14, ⟨q1, r1, r1'⟩, ⟨q2, r2, r2'⟩, ⟨q3, i3, q3', r3, r3', r3a, r3b⟩, h18, h19, ⟨q4, i4, q4', r4, r4', r4a, r4b⟩, h21, h22, h23, h24, ⟨kF, methK, f1, f2, f3, f4, f5⟩⟩ := h
  have hA := hZ.alike
  obtain ⟨kK', a1, e1⟩ := hA.2.2 _ _ h1
  obtain ⟨tk', a2, e2⟩ := hA.2.2 _ _ h12
  obtain ⟨kF', a3, -⟩ := hA.2.2 _ _ f1
  cases h1.symm.trans r1
  cases h1.symm.trans r2
  cases h1.symm.trans r3
  cases h1.symm.trans r3a
  cases h1.symm.trans r4
  cases h1.symm.trans r4a
  have hnm : ∀ y : MethodName, U.methodNamed? y = Z.methodNamed? y := fun y => by
    have q : (Z.setVm U.vm).methodNamed? y = Z.methodNamed? y := State.methodNamed?_setVm hA y
    exact q
  refine ⟨kK', tk', file, methk, ck, cB, t, g0, g1, a1, by rw [e1]; exact h2, by rw [e1]; exact h3, h4, by rw [hA.method?]; exact h5, h6, h7, h8, h9, h10, by rw [hA.findClass]; exact h11, a2, by rw [e2]; exact h13, by rw [hnm]; exact h14,
    ⟨kK', a1, own_res hZ h1 a1 r1'⟩, ⟨kK', a1, own_res hZ h1 a1 r2'⟩, ⟨kK', i3, kK', a1, own_res hZ h1 a1 r3', a1, by rw [e1]; exact r3b⟩, h18, h19, ⟨kK', i4, kK', a1, own_res hZ h1 a1 r4', a1, by rw [e1]; exact r4b⟩, h21, h22, by rw [e1]; exact h23, by rw [e1]; exact h24,
    kF', methK, a3, by rw [hA.method?]; exact f2, f3, f4, fun r0 r hn hr => ?_⟩
  rw [hnm] at hn
  rw [hA.method?] at hr
  obtain ⟨z1, z2, z3⟩ := f5 r0 r hn hr
  exact ⟨by rw [hA.assignable]; exact z1, by rw [hA.selectMethod]; exact z2, by simp only [hA.superclasses, hA.declaredIn]; exact z3⟩
end Lam
def own_cell (cK : ClassId) (oa : Addr) (qq : Int64) : Cell := { cls := cK, slots := #[.ref oa, .long qq], vm := .none }
theorem own_privSel {Z s : State} {a0 args : Array Value} {y z : MethodName} (hZ : Z.Warmed39 s.vm) (ws : (Cond.selects z.cls z z).before a0 Z = true) (hc : z.cls = y.cls) (wi : (Cond.instanceMethod y).before a0 Z = true) (wp : (Cond.privateMethod y).before a0 Z = true) (hy : y.cls ≠ "java/lang/invoke/MethodHandle" ∧ y.cls ≠ "java/lang/invoke/VarHandle") : (Cond.selects y.cls y y).before args s = true := by
  obtain ⟨c2, r2, m2, q1, q2, q3, q4, kP, hkP, hkPi⟩ := Cond.selects_spec (mvT (args := args) hZ ws)
  have hf : s.vm.findClass y.cls = some m2.cls := by rw [← hc]; exact findClass_of_methodNamed q3
  exact Jvm.Stand.selects_self_of_private hf hkP hkPi (Cond.privateMethod_at (mvP hZ wp (args := #[]))) (mvT hZ wi) hy
section Fwd
variable {p : Program} {l : Launch} {e : Env} {R : Room} {s : State} {args : Array Value} {below : List Frame} {Z : State} {a0 : Array Value}
def own_ieN : MethodName := ⟨"com/example/demarq/demarq/broker/SortedMessages", "isEmpty", "()Z"⟩
set_option maxHeartbeats 4000000 in
/-- the forwarder of the site's class, called at an 'invokeinterface': it calls the lambda's body with the captured values -/
theorem own_fwd {rm : Room} {fa oa : Addr} {qq : Int64} {ii rr : Int32} {h0 : Heap} {n0 : Nat} {cK : ClassId} {W : Nat} {Q : Option Value → Heap → List Loc → Prop} (hx : p.tables.exec = Jvm.exec) (hZ : Z.Warmed39 s.vm) (hL : own_Lam cK Z)
    (hrm : MetFree l own_lmN (head1 [Cond.code own_lmN prog_12_method_15_code 4 (some .boolean)] rm) (fun aQ UQ => aQ = #[.ref oa, .long qq, .int ii] ∧ Z.Warmed39 UQ.vm ∧ UQ.heap = h0) (fun _ _ _ _ _ => True) (fun _ UQ oQ VQ => ∃ vQ LQ, oQ = .returned vQ ∧ Q vQ VQ.heap LQ ∧ FrameEnd UQ oQ VQ LQ rm.cells rm.slots))
    (hQ : ∀ v h L, Q v h L → v = some (.int rr) ∧ Fr n0 L ∧ h = h0) (hrr : narrow .boolean (.int rr) = .int rr)
    (hcell : h0[fa]? = some (own_cell cK oa qq)) (hoa : Exa Z h0 oa "com/example/demarq/demarq/broker/SortedMessages")
    (wc : (Cond.code own_lmN prog_12_method_15_code 4 (some .boolean)).before a0 Z = true) (wz : (Cond.initialized "com/example/demarq/demarq/broker/SortedMessages").before a0 Z = true) (ws : (Cond.selects "com/example/demarq/demarq/broker/SortedMessages" own_ieN own_ieN).before a0 Z = true)
    (wi : (Cond.instanceMethod own_lmN).before a0 Z = true) (wp : (Cond.privateMethod own_lmN).before a0 Z = true)
    (hrc : rm.cells = 0) (hrs : rm.slots = 0) (hf : rm.frames + 2 ≤ R.frames) (hl : W + 13 + (15 + rm.locals) ≤ R.locals) :
    BackW l R p e below s args (fun _ m' => m' = ⟨cK, 1⟩) 5 W (fun A a => a = #[.ref fa, .int ii] ∧ A.U.heap = h0 ∧ A.cells ≤ R.cells ∧ A.slots ≤ R.slots)
      (fun A a v B => v = some (.int rr) ∧ B.U.heap = h0 ∧ ∃ L, Fr n0 L ∧ B.locs = A.locs ++ L ∧ B.cells = A.cells ∧ B.slots = A.slots) := by
  intro m meth c A gj ig mk a X hg hsize hdg hW hwho hpre
  obtain ⟨U, L, cc, nn⟩ := A
  dsimp only [Pt.U, Pt.locs, Pt.cells, Pt.slots] at X hpre hwho ⊢
  obtain ⟨rfl, hU, hcl, hsl⟩ := hpre
  subst hwho
  have hZU : Z.Warmed39 U.vm := wtrans hZ X.warmed
  obtain ⟨kK, tk, file, methk, ck, cB, t, g0, g1, h1, h2, h3, h4, h5, h6, h7, h8, h9, h10, h11, h12, h13, h14, h15, h16, h17, h18, h19, h20, h21, h22, -, -, -⟩ := own_LamW hZU hL
  have hVA : Jvm.Free.Fw.VirtualAt e U cK 27 own_lmN cB 2 := Jvm.Free.Fw.VirtualAt.of_made X.admits h1 h3 (by rw [h4]; exact own_eM.1) h15 h16 h11 h12 h13 h14 (by decide) (mvT hZU wc) (mvT hZU wi) (own_privSel (z := own_ieN) (y := own_lmN) hZU ws rfl wi wp (by decide)) (sig := ⟨[.long, .int], some .boolean⟩) (by decide +kernel) rfl
  obtain ⟨cr, kr, hcr, hcrf, hcrk, hcrs, -⟩ := hoa
  have hcB : cr.cls = cB := Option.some.inj ((show U.vm.findClass own_SM = some cr.cls by rw [hZU.alike.findClass]; exact hcrf).symm.trans h11)
  obtain ⟨v, T', U₁, L₁, c₁, n₁, X', ⟨hv1, hv2, hv3, rfl, rfl⟩, hh, hv, -, steps⟩ := X.through hg hsize hdg #[.ref fa, .int ii] (R' := { frames := rm.frames + 1, cells := 0, slots := 0, locals := 15 + rm.locals }) h5 h6 h9
    (State.plainMethod.of_name fun k' hk' => by cases h1.symm.trans hk'; rw [h2]; decide +kernel) hf (by rw [h8]; show _ + (2 + 11) + (15 + rm.locals) ≤ _; omega) hcl hsl
    (Φ := fun v U₁ L₁ c₁ n₁ => v = some (.int rr) ∧ U₁.heap = h0 ∧ Fr n0 L₁ ∧ c₁ = 0 ∧ n₁ = 0)
    (fun U₀ hU₀ Y₀ => by
      have hvm : U₀.vm = U.vm := by rw [hU₀]; rfl
      have hheap : U₀.heap = h0 := by rw [hU₀]; exact hU
      rw [h8]
      rw [show entryFrame ⟨cK, 1⟩ #[.ref fa, .int ii] 2 = { method := ⟨cK, 1⟩, pc := 0, locals := #[.val (.ref fa), .val (.int ii)], stack := [], locked := none } from rfl]
      have k1 : Steps p.tables e (.java gj :: below) (U₀.setTop { method := ⟨cK, 1⟩, pc := 0, locals := #[.val (.ref fa), .val (.int ii)], stack := [], locked := none }) (U₀.setTop { method := ⟨cK, 1⟩, pc := 1, locals := #[.val (.ref fa), .val (.int ii)], stack := [.ref fa], locked := none }) := by
        jvm_step Y₀.here [hx, h7, own_fw0, Value.isRef]
        exact Steps.refl _
      have k2 := Y₀.getfieldR hx (g := { method := ⟨cK, 1⟩, pc := 1, locals := #[.val (.ref fa), .val (.int ii)], stack := [.ref fa], locked := none }) rfl (index := 17) (cF := cK) (a := fa) (field := g0) (cell := own_cell cK oa qq) (v := .ref oa) (rest := []) (by rw [hvm]; exact h17) h18 rfl (by rw [hheap]; exact hcell) (by simp [own_cell]) (by rw [h19]; rfl) (by rw [h7]; exact own_fw1) k1
      have k3 : Steps p.tables e (.java gj :: below) (U₀.setTop { method := ⟨cK, 1⟩, pc := 0, locals := #[.val (.ref fa), .val (.int ii)], stack := [], locked := none }) (U₀.setTop { method := ⟨cK, 1⟩, pc := 5, locals := #[.val (.ref fa), .val (.int ii)], stack := [.ref fa, .ref oa], locked := none }) := by
        refine k2.trans ?_
        jvm_step Y₀.here [hx, h7, own_fw4, Value.isRef]
        exact Steps.refl _
      have k4 := Y₀.getfieldR hx (g := { method := ⟨cK, 1⟩, pc := 5, locals := #[.val (.ref fa), .val (.int ii)], stack := [.ref fa, .ref oa], locked := none }) rfl (index := 19) (cF := cK) (a := fa) (field := g1) (cell := own_cell cK oa qq) (v := .long qq) (rest := [.ref oa]) (by rw [hvm]; exact h20) h21 rfl (by rw [hheap]; exact hcell) (by simp [own_cell]) (by rw [h22]; rfl) (by rw [h7]; exact own_fw5) k3
      have k5 : Steps p.tables e (.java gj :: below) (U₀.setTop { method := ⟨cK, 1⟩, pc := 0, locals := #[.val (.ref fa), .val (.int ii)], stack := [], locked := none }) (U₀.setTop { method := ⟨cK, 1⟩, pc := 9, locals := #[.val (.ref fa), .val (.int ii)], stack := [.int ii, .long qq, .ref oa], locked := none }) := by
        refine k4.trans ?_
        jvm_step Y₀.here [hx, h7, own_fw8]
        exact Steps.refl _
      obtain ⟨r, t', kr', kt, methr, metht, q1, q2, q3, q4, q5, q6, q7, q8, q9, q10, q11, q12, q13⟩ := hVA.of hvm
      obtain ⟨v, ⟨U₁, L₁, c₁, n₁⟩, Y₁, ⟨Lq, hq, e1, e2, e3⟩, kE⟩ := Y₀.virtualR hx (g := { method := ⟨cK, 1⟩, pc := 9, locals := #[.val (.ref fa), .val (.int ii)], stack := [.int ii, .long qq, .ref oa], locked := none }) rfl (by rw [h8]; rfl) (index := 27) (a := oa) (y := own_lmN) (cell := cr) (argsL := [.long qq, .int ii]) (rest := []) q1 q2 q3 q4 q5 q6 q7.symm rfl (by rw [hheap]; exact hcr) (fun q hq => by rw [hq] at hcrs; cases hcrs) (by rw [hcB]; exact q8) q9 q10 q11 q12 q13
        (backOf (W := 0) hrm (show Z.Warmed39 (U.calling gj ⟨cK, 1⟩ _).vm from hZU) wc wz (Nat.le_refl _) (by show 0 + (4 + 11) + rm.locals ≤ 15 + rm.locals; omega)) (by show 2 * 0 + 0 ≤ 0; decide)
        ⟨rfl, hheap, by rw [hrc]; exact Nat.le_refl _, by rw [hrs]; exact Nat.le_refl _⟩ (by rw [h7]; exact own_fw9) k5
      dsimp only [Pt.U, Pt.locs, Pt.cells, Pt.slots] at Y₁ kE hq e1 e2 e3
      obtain ⟨rfl, hF, hH⟩ := hQ _ _ _ hq
      subst e1 e2 e3
      refine ⟨_, U₁, _, _, _, Y₁, (fun h => by rw [h10] at h; cases h), ⟨rfl, hH, by simpa using hF, by rw [hrc], by rw [hrs]⟩, fun fs hleave => kE.trans (retOut Y₁ hx h10 hrr (Or.inl ⟨rfl, Or.inr (Or.inl rfl), _, rfl⟩) (by rw [h7]; exact own_fw12) hleave)⟩)
  exact ⟨v, ⟨T', L ++ L₁, cc + 0, nn + 0⟩, X', ⟨hv1, by show T'.heap = h0; rw [hh]; exact hv2, L₁, hv3, rfl, rfl, rfl⟩, steps⟩
theorem own_fnW (hZ : Z.Warmed39 s.vm) (w1 : (Cond.methodLink "com/example/demarq/demarq/broker/SortedMessages" 60 own_xi).before a0 Z = true) (w2 : (Cond.declares own_xi).before a0 Z = true) (w3 : (Cond.interfaceMethod "java/util/function/IntPredicate" "java/util/function/IntPredicate" "test" "(I)Z").before a0 Z = true) :
    ∀ w ∈ Jvm.Free.Fn.fnW "com/example/demarq/demarq/broker/SortedMessages" 60 own_xi, w.before args s = true := by
  intro w h
  simp only [Jvm.Free.Fn.fnW, List.mem_cons, List.not_mem_nil, or_false] at h
  rcases h with rfl | rfl | rfl
  · exact mvT hZ w1
  · exact mvT hZ w2
  · exact mvT hZ w3
variable {m : MethodId} {meth : Method} {c : Code} {T : State} {locs : List Loc} {cells slots : Nat} {h : Heap} {g : JFrame}
/-- the site makes a new object that holds the captured values -/
theorem own_makes (X : Stand p l e R s m args below meth c T locs cells slots) (hx : p.tables.exec = Jvm.exec) (hZ : Z.Warmed39 s.vm) {cK : ClassId} (hat : Z.lambdaAt? own_cbN 6 57 own_sh = some (cK, none)) (hL : own_Lam cK Z) (hm : s.methodNamed? own_cbN = some m) (eT : T.heap = h)
    {oa : Addr} {qq : Int64} {rest : List Value} (hg : g.method = m) (hsize : g.locals.size = c.maxLocals) (hpc : g.pc = 6) (hs : g.stack = .long qq :: .ref oa :: rest) (hd : decode c.code g.pc = .ok (.invokedynamic 57, 5))
    (hW : 2 * g.monitorRoom + (g.stack.map fun v => v.category).sum + 3072 ≤ R.locals) (hc : cells + 1 ≤ R.cells) (hl : slots + 2 ≤ R.slots) :
    ∃ T' h', Stand p l e R s m args below meth c T' locs (cells + 1) (slots + 2) ∧ T'.heap = h' ∧ Ext h h' ∧ h'[h.size]? = some (own_cell cK oa qq) ∧
      ∀ target, Steps p.tables e below (T'.setTop { g with pc := g.pc + 5, stack := .ref h.size :: rest }) target → Steps p.tables e below (T.setTop g) target := by
  obtain ⟨m', kS, cfS, i0, p0, lk, hm', hkS, hcfS, hshape, -, hfind, hmade, hcan, hlk⟩ := State.lambdaAt?_spec hat
  have hA := hZ.alike
  have hmm : m' = m := Option.some.inj (hm'.symm.trans ((show (Z.setVm s.vm).methodNamed? own_cbN = Z.methodNamed? own_cbN from State.methodNamed?_setVm hA _).symm.trans hm))
  subst hmm
  obtain ⟨rfl, -, -⟩ : lk = .makes cK ∧ none = (none : Option Addr) ∧ own_sh.captured ≠ [] := by
    rcases hlk with ⟨a, cell, -, -, h, -⟩ | h
    · exact absurd h (by decide)
    · exact h
  obtain ⟨bsm, nt, desc, site, hc', hnt, hsite, hpar⟩ := Lambda.shapeOf?_site hshape
  obtain ⟨kS', hkS', eS⟩ := hA.2.2 _ _ hkS
  obtain ⟨kK, -, -, -, -, -, -, -, -, hkK, -, -, -, -, -, -, -, -, -, -, -, -, -, -, -, -, -, -, -, -, -, hty, hkind, -⟩ := own_LamW hZ hL
  have hse : ((kK.instanceTypes.toList.zip [.ref oa, .long qq]).map fun (t, v) => narrow t v) = [.ref oa, .long qq] := by rw [hty]; rfl
  obtain ⟨X₁, st1⟩ := X.lambdaMakes hx hg hsize hd (vals := [.ref oa, .long qq]) (rest := rest) hkS' (by rw [eS, hpc]; exact hfind) (by rw [eS]; exact hcfS) hc' hnt (parseLong_of_parse hsite) (by rw [hpar]; rfl) hs hkK
    (by rw [X.admits.platform]; exact hW) hc (by rw [hse]; exact hl)
    (fun i v hv => by
      rw [hse] at hv
      match i, hv with
      | 0, hv => simp at hv; subst hv; simp [State.fitsSlot, State.slotType?, hkK, hkind, hty, fits]
      | 1, hv => simp at hv; subst hv; simp [State.fitsSlot, State.slotType?, hkK, hkind, hty, fits]
      | k + 2, hv => simp at hv)
  rw [hse] at X₁ st1
  subst eT
  refine ⟨_, _, X₁, rfl, ⟨by show T.heap.size ≤ (T.heap.push _).size; simp, fun a c h => ?_⟩, State.heap_pushCell_size _ _, st1⟩
  show (T.heap.push _)[a]? = _
  rw [Array.getElem?_push_lt (Array.getElem?_eq_some_iff.mp h).1]; exact (Array.getElem?_eq_getElem _).symm.trans h
end Fwd
theorem own_site {Z : State} {a0 : Array Value} (w : (Cond.lambdaSite own_cbN 6 57 own_sh).before a0 Z = true) : ∃ cK, Z.lambdaAt? own_cbN 6 57 own_sh = some (cK, none) := by
  obtain ⟨cK, one, hat⟩ := Cond.lambdaSite_spec w
  obtain ⟨m', kS, cfS, i0, p0, lk, hm', hkS, hcfS, hshape, -, hfind, hmade, hcan, hlk⟩ := State.lambdaAt?_spec hat
  rcases hlk with ⟨a, cell, -, -, h, -⟩ | ⟨-, h, -⟩
  · exact absurd h (by decide)
  · subst h; exact ⟨cK, hat⟩
theorem own_LamF {cK : ClassId} {U : State} (h : own_Lam cK U) : Jvm.Free.HMW.FnX own_xi cK ⟨cK, 1⟩ U := by
  obtain ⟨kK, tk, file, methk, ck, cB, t, g0, g1, h1, h2, h3, h4, h5, h6, h7, h8, h9, h10, h11, h12, h13, h14, h15, h16, h17, h18, h19, h20, h21, h22, h23, h24, h25⟩ := h
  exact h25
theorem own_irr (x : Int64) : ¬ (x < x) := Int64.lt_irrefl
theorem own_gt {x y : Int64} (h : ¬ (x < y)) (n : x ≠ y) : y < x := by
  rw [Int64.lt_iff_toInt_lt] at h ⊢
  have : x.toInt ≠ y.toInt := fun q => n (Int64.toInt_inj.mp q)
  omega
theorem own_adds (i x : Int32) (hx : x = ((i &&& (3 : Int32)) % (3 : Int32))) : x = 0 ∨ x = 1 ∨ x = 2 := by
  have m := c_mask i 3 2 (by decide) (by decide)
  have r := (c_irem (i &&& 3) 3 3 (by decide)).1 (by rw [m]; omega)
  rw [← hx, m] at r
  have q : x.toInt = 0 ∨ x.toInt = 1 ∨ x.toInt = 2 := by omega
  rcases q with q | q | q
  · exact Or.inl (Int32.toInt_inj.mp (q.trans rfl))
  · exact Or.inr (Or.inl (Int32.toInt_inj.mp (q.trans rfl)))
  · exact Or.inr (Or.inr (Int32.toInt_inj.mp (q.trans rfl)))
theorem own_ne (i0 i1 v : Int64) (h : v = (if i1 = i0 then (i0 + (1 : Int64)) else i1)) : v ≠ i0 := by
  intro q
  rw [q] at h
  split at h
  · have e : i0 + 0 = i0 + 1 := by simpa using h
    have := (Int64.add_right_inj i0).mp e
    exact absurd this (by decide)
  · exact absurd h.symm (by assumption)
theorem own_d1_0 : decode prog_12_method_1_code 0 = .ok (.aload_n 0, 1) := by decide +kernel
theorem own_d1_1 : decode prog_12_method_1_code 1 = .ok (.invokespecial 1, 3) := by decide +kernel
theorem own_d1_4 : decode prog_12_method_1_code 4 = .ok (.aload_n 0, 1) := by decide +kernel
theorem own_d1_5 : decode prog_12_method_1_code 5 = .ok (.bipush 16, 2) := by decide +kernel
theorem own_d1_7 : decode prog_12_method_1_code 7 = .ok (.anewarray 9, 3) := by decide +kernel
theorem own_d1_10 : decode prog_12_method_1_code 10 = .ok (.putfield 11, 3) := by decide +kernel
theorem own_d1_13 : decode prog_12_method_1_code 13 = .ok (.return_, 1) := by decide +kernel
theorem own_d3_0 : decode prog_7_method_1_code 0 = .ok (.aload_n 0, 1) := by decide +kernel
theorem own_d3_1 : decode prog_7_method_1_code 1 = .ok (.invokespecial 1, 3) := by decide +kernel
theorem own_d3_4 : decode prog_7_method_1_code 4 = .ok (.aload_n 0, 1) := by decide +kernel
theorem own_d3_5 : decode prog_7_method_1_code 5 = .ok (.lload_n 1, 1) := by decide +kernel
theorem own_d3_6 : decode prog_7_method_1_code 6 = .ok (.putfield 7, 3) := by decide +kernel
theorem own_d3_9 : decode prog_7_method_1_code 9 = .ok (.aload_n 0, 1) := by decide +kernel
theorem own_d3_10 : decode prog_7_method_1_code 10 = .ok (.aload_n 3, 1) := by decide +kernel
theorem own_d3_11 : decode prog_7_method_1_code 11 = .ok (.putfield 13, 3) := by decide +kernel
theorem own_d3_14 : decode prog_7_method_1_code 14 = .ok (.aload_n 0, 1) := by decide +kernel
theorem own_d3_15 : decode prog_7_method_1_code 15 = .ok (.iload 4, 2) := by decide +kernel
theorem own_d3_17 : decode prog_7_method_1_code 17 = .ok (.putfield 17, 3) := by decide +kernel
theorem own_d3_20 : decode prog_7_method_1_code 20 = .ok (.return_, 1) := by decide +kernel
theorem own_d4_0 : decode prog_12_method_2_code 0 = .ok (.aload_n 0, 1) := by decide +kernel
theorem own_d4_1 : decode prog_12_method_2_code 1 = .ok (.getfield 15, 3) := by decide +kernel
theorem own_d4_4 : decode prog_12_method_2_code 4 = .ok (.ifCond .ne 7, 3) := by decide +kernel
theorem own_d4_7 : decode prog_12_method_2_code 7 = .ok (.iconst 1, 1) := by decide +kernel
theorem own_d4_8 : decode prog_12_method_2_code 8 = .ok (.goto 4, 3) := by decide +kernel
theorem own_d4_11 : decode prog_12_method_2_code 11 = .ok (.iconst 0, 1) := by decide +kernel
theorem own_d4_12 : decode prog_12_method_2_code 12 = .ok (.ireturn, 1) := by decide +kernel
theorem own_d5_0 : decode prog_12_method_3_code 0 = .ok (.aload_n 0, 1) := by decide +kernel
theorem own_d5_1 : decode prog_12_method_3_code 1 = .ok (.getfield 15, 3) := by decide +kernel
theorem own_d5_4 : decode prog_12_method_3_code 4 = .ok (.aload_n 0, 1) := by decide +kernel
theorem own_d5_5 : decode prog_12_method_3_code 5 = .ok (.getfield 11, 3) := by decide +kernel
theorem own_d5_8 : decode prog_12_method_3_code 8 = .ok (.arraylength, 1) := by decide +kernel
theorem own_d5_9 : decode prog_12_method_3_code 9 = .ok (.if_icmp .ne 14, 3) := by decide +kernel
theorem own_d5_23 : decode prog_12_method_3_code 23 = .ok (.aload_n 0, 1) := by decide +kernel
theorem own_d5_24 : decode prog_12_method_3_code 24 = .ok (.getfield 15, 3) := by decide +kernel
theorem own_d5_27 : decode prog_12_method_3_code 27 = .ok (.ifCond .eq 24, 3) := by decide +kernel
theorem own_d5_30 : decode prog_12_method_3_code 30 = .ok (.aload_n 0, 1) := by decide +kernel
theorem own_d5_31 : decode prog_12_method_3_code 31 = .ok (.aload_n 0, 1) := by decide +kernel
theorem own_d5_32 : decode prog_12_method_3_code 32 = .ok (.getfield 15, 3) := by decide +kernel
theorem own_d5_35 : decode prog_12_method_3_code 35 = .ok (.iconst 1, 1) := by decide +kernel
theorem own_d5_36 : decode prog_12_method_3_code 36 = .ok (.isub, 1) := by decide +kernel
theorem own_d5_37 : decode prog_12_method_3_code 37 = .ok (.invokevirtual 23, 3) := by decide +kernel
theorem own_d5_40 : decode prog_12_method_3_code 40 = .ok (.invokevirtual 27, 3) := by decide +kernel
theorem own_d5_43 : decode prog_12_method_3_code 43 = .ok (.aload_n 1, 1) := by decide +kernel
theorem own_d5_44 : decode prog_12_method_3_code 44 = .ok (.invokevirtual 27, 3) := by decide +kernel
theorem own_d5_47 : decode prog_12_method_3_code 47 = .ok (.lcmp, 1) := by decide +kernel
theorem own_d5_48 : decode prog_12_method_3_code 48 = .ok (.ifCond .ge 10, 3) := by decide +kernel
theorem own_d5_51 : decode prog_12_method_3_code 51 = .ok (.aload_n 0, 1) := by decide +kernel
theorem own_d5_52 : decode prog_12_method_3_code 52 = .ok (.getfield 15, 3) := by decide +kernel
theorem own_d5_55 : decode prog_12_method_3_code 55 = .ok (.goto 11, 3) := by decide +kernel
theorem own_d5_58 : decode prog_12_method_3_code 58 = .ok (.aload_n 0, 1) := by decide +kernel
theorem own_d5_59 : decode prog_12_method_3_code 59 = .ok (.aload_n 1, 1) := by decide +kernel
theorem own_d5_60 : decode prog_12_method_3_code 60 = .ok (.invokevirtual 27, 3) := by decide +kernel
theorem own_d5_63 : decode prog_12_method_3_code 63 = .ok (.invokevirtual 31, 3) := by decide +kernel
theorem own_d5_66 : decode prog_12_method_3_code 66 = .ok (.istore_n 2, 1) := by decide +kernel
theorem own_d5_67 : decode prog_12_method_3_code 67 = .ok (.iload_n 2, 1) := by decide +kernel
theorem own_d5_68 : decode prog_12_method_3_code 68 = .ok (.aload_n 0, 1) := by decide +kernel
theorem own_d5_69 : decode prog_12_method_3_code 69 = .ok (.getfield 15, 3) := by decide +kernel
theorem own_d5_72 : decode prog_12_method_3_code 72 = .ok (.iload_n 2, 1) := by decide +kernel
theorem own_d5_73 : decode prog_12_method_3_code 73 = .ok (.isub, 1) := by decide +kernel
theorem own_d5_74 : decode prog_12_method_3_code 74 = .ok (.if_icmp .ge 46, 3) := by decide +kernel
theorem own_d5_77 : decode prog_12_method_3_code 77 = .ok (.aload_n 0, 1) := by decide +kernel
theorem own_d5_78 : decode prog_12_method_3_code 78 = .ok (.aload_n 0, 1) := by decide +kernel
theorem own_d5_79 : decode prog_12_method_3_code 79 = .ok (.aload_n 0, 1) := by decide +kernel
theorem own_d5_80 : decode prog_12_method_3_code 80 = .ok (.getfield 11, 3) := by decide +kernel
theorem own_d5_83 : decode prog_12_method_3_code 83 = .ok (.arraylength, 1) := by decide +kernel
theorem own_d5_84 : decode prog_12_method_3_code 84 = .ok (.iconst 1, 1) := by decide +kernel
theorem own_d5_85 : decode prog_12_method_3_code 85 = .ok (.isub, 1) := by decide +kernel
theorem own_d5_86 : decode prog_12_method_3_code 86 = .ok (.invokevirtual 35, 3) := by decide +kernel
theorem own_d5_89 : decode prog_12_method_3_code 89 = .ok (.putfield 39, 3) := by decide +kernel
theorem own_d5_92 : decode prog_12_method_3_code 92 = .ok (.iconst 0, 1) := by decide +kernel
theorem own_d5_93 : decode prog_12_method_3_code 93 = .ok (.istore_n 3, 1) := by decide +kernel
theorem own_d5_94 : decode prog_12_method_3_code 94 = .ok (.iload_n 3, 1) := by decide +kernel
theorem own_d5_95 : decode prog_12_method_3_code 95 = .ok (.iload_n 2, 1) := by decide +kernel
theorem own_d5_96 : decode prog_12_method_3_code 96 = .ok (.if_icmp .ge 21, 3) := by decide +kernel
theorem own_d5_117 : decode prog_12_method_3_code 117 = .ok (.goto 31, 3) := by decide +kernel
theorem own_d5_120 : decode prog_12_method_3_code 120 = .ok (.aload_n 0, 1) := by decide +kernel
theorem own_d5_121 : decode prog_12_method_3_code 121 = .ok (.getfield 15, 3) := by decide +kernel
theorem own_d5_124 : decode prog_12_method_3_code 124 = .ok (.istore_n 3, 1) := by decide +kernel
theorem own_d5_125 : decode prog_12_method_3_code 125 = .ok (.iload_n 3, 1) := by decide +kernel
theorem own_d5_126 : decode prog_12_method_3_code 126 = .ok (.iload_n 2, 1) := by decide +kernel
theorem own_d5_127 : decode prog_12_method_3_code 127 = .ok (.if_icmp .le 21, 3) := by decide +kernel
theorem own_d5_148 : decode prog_12_method_3_code 148 = .ok (.aload_n 0, 1) := by decide +kernel
theorem own_d5_149 : decode prog_12_method_3_code 149 = .ok (.iload_n 2, 1) := by decide +kernel
theorem own_d5_150 : decode prog_12_method_3_code 150 = .ok (.aload_n 1, 1) := by decide +kernel
theorem own_d5_151 : decode prog_12_method_3_code 151 = .ok (.invokevirtual 42, 3) := by decide +kernel
theorem own_d5_154 : decode prog_12_method_3_code 154 = .ok (.aload_n 0, 1) := by decide +kernel
theorem own_d5_155 : decode prog_12_method_3_code 155 = .ok (.dup, 1) := by decide +kernel
theorem own_d5_156 : decode prog_12_method_3_code 156 = .ok (.getfield 15, 3) := by decide +kernel
theorem own_d5_159 : decode prog_12_method_3_code 159 = .ok (.iconst 1, 1) := by decide +kernel
theorem own_d5_160 : decode prog_12_method_3_code 160 = .ok (.iadd, 1) := by decide +kernel
theorem own_d5_161 : decode prog_12_method_3_code 161 = .ok (.putfield 15, 3) := by decide +kernel
theorem own_d5_164 : decode prog_12_method_3_code 164 = .ok (.return_, 1) := by decide +kernel
theorem own_d6_0 : decode prog_12_method_12_code 0 = .ok (.aload_n 0, 1) := by decide +kernel
theorem own_d6_1 : decode prog_12_method_12_code 1 = .ok (.getfield 11, 3) := by decide +kernel
theorem own_d6_4 : decode prog_12_method_12_code 4 = .ok (.aload_n 0, 1) := by decide +kernel
theorem own_d6_5 : decode prog_12_method_12_code 5 = .ok (.iload_n 1, 1) := by decide +kernel
theorem own_d6_6 : decode prog_12_method_12_code 6 = .ok (.invokevirtual 35, 3) := by decide +kernel
theorem own_d6_9 : decode prog_12_method_12_code 9 = .ok (.aload_n 2, 1) := by decide +kernel
theorem own_d6_10 : decode prog_12_method_12_code 10 = .ok (.aastore, 1) := by decide +kernel
theorem own_d6_11 : decode prog_12_method_12_code 11 = .ok (.return_, 1) := by decide +kernel
theorem own_d7_0 : decode prog_12_method_13_code 0 = .ok (.aload_n 0, 1) := by decide +kernel
theorem own_d7_1 : decode prog_12_method_13_code 1 = .ok (.getfield 39, 3) := by decide +kernel
theorem own_d7_4 : decode prog_12_method_13_code 4 = .ok (.iload_n 1, 1) := by decide +kernel
theorem own_d7_5 : decode prog_12_method_13_code 5 = .ok (.iadd, 1) := by decide +kernel
theorem own_d7_6 : decode prog_12_method_13_code 6 = .ok (.aload_n 0, 1) := by decide +kernel
theorem own_d7_7 : decode prog_12_method_13_code 7 = .ok (.getfield 11, 3) := by decide +kernel
theorem own_d7_10 : decode prog_12_method_13_code 10 = .ok (.arraylength, 1) := by decide +kernel
theorem own_d7_11 : decode prog_12_method_13_code 11 = .ok (.irem, 1) := by decide +kernel
theorem own_d7_12 : decode prog_12_method_13_code 12 = .ok (.ireturn, 1) := by decide +kernel
theorem own_d8_0 : decode prog_12_method_4_code 0 = .ok (.aload_n 0, 1) := by decide +kernel
theorem own_d8_1 : decode prog_12_method_4_code 1 = .ok (.aload_n 1, 1) := by decide +kernel
theorem own_d8_2 : decode prog_12_method_4_code 2 = .ok (.invokevirtual 27, 3) := by decide +kernel
theorem own_d8_5 : decode prog_12_method_4_code 5 = .ok (.invokevirtual 31, 3) := by decide +kernel
theorem own_d8_8 : decode prog_12_method_4_code 8 = .ok (.istore_n 2, 1) := by decide +kernel
theorem own_d8_9 : decode prog_12_method_4_code 9 = .ok (.iload_n 2, 1) := by decide +kernel
theorem own_d8_10 : decode prog_12_method_4_code 10 = .ok (.aload_n 0, 1) := by decide +kernel
theorem own_d8_11 : decode prog_12_method_4_code 11 = .ok (.getfield 15, 3) := by decide +kernel
theorem own_d8_14 : decode prog_12_method_4_code 14 = .ok (.iconst 1, 1) := by decide +kernel
theorem own_d8_15 : decode prog_12_method_4_code 15 = .ok (.isub, 1) := by decide +kernel
theorem own_d8_16 : decode prog_12_method_4_code 16 = .ok (.iload_n 2, 1) := by decide +kernel
theorem own_d8_17 : decode prog_12_method_4_code 17 = .ok (.isub, 1) := by decide +kernel
theorem own_d8_18 : decode prog_12_method_4_code 18 = .ok (.if_icmp .ge 49, 3) := by decide +kernel
theorem own_d8_21 : decode prog_12_method_4_code 21 = .ok (.iload_n 2, 1) := by decide +kernel
theorem own_d8_22 : decode prog_12_method_4_code 22 = .ok (.istore_n 3, 1) := by decide +kernel
theorem own_d8_23 : decode prog_12_method_4_code 23 = .ok (.iload_n 3, 1) := by decide +kernel
theorem own_d8_24 : decode prog_12_method_4_code 24 = .ok (.ifCond .le 21, 3) := by decide +kernel
theorem own_d8_45 : decode prog_12_method_4_code 45 = .ok (.aload_n 0, 1) := by decide +kernel
theorem own_d8_46 : decode prog_12_method_4_code 46 = .ok (.getfield 11, 3) := by decide +kernel
theorem own_d8_49 : decode prog_12_method_4_code 49 = .ok (.aload_n 0, 1) := by decide +kernel
theorem own_d8_50 : decode prog_12_method_4_code 50 = .ok (.getfield 39, 3) := by decide +kernel
theorem own_d8_53 : decode prog_12_method_4_code 53 = .ok (.aconst_null, 1) := by decide +kernel
theorem own_d8_54 : decode prog_12_method_4_code 54 = .ok (.aastore, 1) := by decide +kernel
theorem own_d8_55 : decode prog_12_method_4_code 55 = .ok (.aload_n 0, 1) := by decide +kernel
theorem own_d8_56 : decode prog_12_method_4_code 56 = .ok (.aload_n 0, 1) := by decide +kernel
theorem own_d8_57 : decode prog_12_method_4_code 57 = .ok (.iconst 1, 1) := by decide +kernel
theorem own_d8_58 : decode prog_12_method_4_code 58 = .ok (.invokevirtual 35, 3) := by decide +kernel
theorem own_d8_61 : decode prog_12_method_4_code 61 = .ok (.putfield 39, 3) := by decide +kernel
theorem own_d8_64 : decode prog_12_method_4_code 64 = .ok (.goto 44, 3) := by decide +kernel
theorem own_d8_67 : decode prog_12_method_4_code 67 = .ok (.iload_n 2, 1) := by decide +kernel
theorem own_d8_68 : decode prog_12_method_4_code 68 = .ok (.istore_n 3, 1) := by decide +kernel
theorem own_d8_69 : decode prog_12_method_4_code 69 = .ok (.iload_n 3, 1) := by decide +kernel
theorem own_d8_70 : decode prog_12_method_4_code 70 = .ok (.aload_n 0, 1) := by decide +kernel
theorem own_d8_71 : decode prog_12_method_4_code 71 = .ok (.getfield 15, 3) := by decide +kernel
theorem own_d8_74 : decode prog_12_method_4_code 74 = .ok (.iconst 1, 1) := by decide +kernel
theorem own_d8_75 : decode prog_12_method_4_code 75 = .ok (.isub, 1) := by decide +kernel
theorem own_d8_76 : decode prog_12_method_4_code 76 = .ok (.if_icmp .ge 21, 3) := by decide +kernel
theorem own_d8_97 : decode prog_12_method_4_code 97 = .ok (.aload_n 0, 1) := by decide +kernel
theorem own_d8_98 : decode prog_12_method_4_code 98 = .ok (.aload_n 0, 1) := by decide +kernel
theorem own_d8_99 : decode prog_12_method_4_code 99 = .ok (.getfield 15, 3) := by decide +kernel
theorem own_d8_102 : decode prog_12_method_4_code 102 = .ok (.iconst 1, 1) := by decide +kernel
theorem own_d8_103 : decode prog_12_method_4_code 103 = .ok (.isub, 1) := by decide +kernel
theorem own_d8_104 : decode prog_12_method_4_code 104 = .ok (.aconst_null, 1) := by decide +kernel
theorem own_d8_105 : decode prog_12_method_4_code 105 = .ok (.invokevirtual 42, 3) := by decide +kernel
theorem own_d8_108 : decode prog_12_method_4_code 108 = .ok (.aload_n 0, 1) := by decide +kernel
theorem own_d8_109 : decode prog_12_method_4_code 109 = .ok (.dup, 1) := by decide +kernel
theorem own_d8_110 : decode prog_12_method_4_code 110 = .ok (.getfield 15, 3) := by decide +kernel
theorem own_d8_113 : decode prog_12_method_4_code 113 = .ok (.iconst 1, 1) := by decide +kernel
theorem own_d8_114 : decode prog_12_method_4_code 114 = .ok (.isub, 1) := by decide +kernel
theorem own_d8_115 : decode prog_12_method_4_code 115 = .ok (.putfield 15, 3) := by decide +kernel
theorem own_d8_118 : decode prog_12_method_4_code 118 = .ok (.aload_n 0, 1) := by decide +kernel
theorem own_d8_119 : decode prog_12_method_4_code 119 = .ok (.getfield 11, 3) := by decide +kernel
theorem own_d8_122 : decode prog_12_method_4_code 122 = .ok (.arraylength, 1) := by decide +kernel
theorem own_d8_123 : decode prog_12_method_4_code 123 = .ok (.bipush 16, 2) := by decide +kernel
theorem own_d8_125 : decode prog_12_method_4_code 125 = .ok (.if_icmp .le 28, 3) := by decide +kernel
theorem own_d8_153 : decode prog_12_method_4_code 153 = .ok (.return_, 1) := by decide +kernel
theorem own_d9_0 : decode prog_7_method_2_code 0 = .ok (.aload_n 0, 1) := by decide +kernel
theorem own_d9_1 : decode prog_7_method_2_code 1 = .ok (.getfield 7, 3) := by decide +kernel
theorem own_d9_4 : decode prog_7_method_2_code 4 = .ok (.lreturn, 1) := by decide +kernel
theorem own_d10_0 : decode prog_12_method_8_code 0 = .ok (.aload_n 0, 1) := by decide +kernel
theorem own_d10_1 : decode prog_12_method_8_code 1 = .ok (.getfield 15, 3) := by decide +kernel
theorem own_d10_4 : decode prog_12_method_8_code 4 = .ok (.aload_n 0, 1) := by decide +kernel
theorem own_d10_5 : decode prog_12_method_8_code 5 = .ok (.lload_n 1, 1) := by decide +kernel
theorem own_d10_6 : decode prog_12_method_8_code 6 = .ok (.invokedynamic 57, 5) := by decide +kernel
theorem own_d10_11 : decode prog_12_method_8_code 11 = .ok (.invokestatic 53, 3) := by decide +kernel
theorem own_d10_14 : decode prog_12_method_8_code 14 = .ok (.ireturn, 1) := by decide +kernel
theorem own_d11_0 : decode prog_12_method_9_code 0 = .ok (.iload_n 0, 1) := by decide +kernel
theorem own_d11_1 : decode prog_12_method_9_code 1 = .ok (.ifCond .eq 13, 3) := by decide +kernel
theorem own_d11_4 : decode prog_12_method_9_code 4 = .ok (.aload_n 1, 1) := by decide +kernel
theorem own_d11_5 : decode prog_12_method_9_code 5 = .ok (.iconst 0, 1) := by decide +kernel
theorem own_d11_6 : decode prog_12_method_9_code 6 = .ok (.invokeinterface 60 2, 5) := by decide +kernel
theorem own_d11_11 : decode prog_12_method_9_code 11 = .ok (.ifCond .eq 5, 3) := by decide +kernel
theorem own_d11_14 : decode prog_12_method_9_code 14 = .ok (.iconst 0, 1) := by decide +kernel
theorem own_d11_15 : decode prog_12_method_9_code 15 = .ok (.ireturn, 1) := by decide +kernel
theorem own_d11_16 : decode prog_12_method_9_code 16 = .ok (.iconst 0, 1) := by decide +kernel
theorem own_d11_17 : decode prog_12_method_9_code 17 = .ok (.istore_n 2, 1) := by decide +kernel
theorem own_d11_18 : decode prog_12_method_9_code 18 = .ok (.iload_n 0, 1) := by decide +kernel
theorem own_d11_19 : decode prog_12_method_9_code 19 = .ok (.istore_n 3, 1) := by decide +kernel
theorem own_d11_20 : decode prog_12_method_9_code 20 = .ok (.iload_n 2, 1) := by decide +kernel
theorem own_d11_21 : decode prog_12_method_9_code 21 = .ok (.iload_n 3, 1) := by decide +kernel
theorem own_d11_22 : decode prog_12_method_9_code 22 = .ok (.if_icmp .ge 35, 3) := by decide +kernel
theorem own_d11_25 : decode prog_12_method_9_code 25 = .ok (.iload_n 2, 1) := by decide +kernel
theorem own_d11_26 : decode prog_12_method_9_code 26 = .ok (.iload_n 3, 1) := by decide +kernel
theorem own_d11_27 : decode prog_12_method_9_code 27 = .ok (.iadd, 1) := by decide +kernel
theorem own_d11_28 : decode prog_12_method_9_code 28 = .ok (.iconst 1, 1) := by decide +kernel
theorem own_d11_29 : decode prog_12_method_9_code 29 = .ok (.iushr, 1) := by decide +kernel
theorem own_d11_30 : decode prog_12_method_9_code 30 = .ok (.istore 4, 2) := by decide +kernel
theorem own_d11_32 : decode prog_12_method_9_code 32 = .ok (.aload_n 1, 1) := by decide +kernel
theorem own_d11_33 : decode prog_12_method_9_code 33 = .ok (.iload 4, 2) := by decide +kernel
theorem own_d11_35 : decode prog_12_method_9_code 35 = .ok (.invokeinterface 60 2, 5) := by decide +kernel
theorem own_d11_40 : decode prog_12_method_9_code 40 = .ok (.ifCond .eq 9, 3) := by decide +kernel
theorem own_d11_43 : decode prog_12_method_9_code 43 = .ok (.iload 4, 2) := by decide +kernel
theorem own_d11_45 : decode prog_12_method_9_code 45 = .ok (.istore_n 3, 1) := by decide +kernel
theorem own_d11_46 : decode prog_12_method_9_code 46 = .ok (.goto 8, 3) := by decide +kernel
theorem own_d11_49 : decode prog_12_method_9_code 49 = .ok (.iload 4, 2) := by decide +kernel
theorem own_d11_51 : decode prog_12_method_9_code 51 = .ok (.iconst 1, 1) := by decide +kernel
theorem own_d11_52 : decode prog_12_method_9_code 52 = .ok (.iadd, 1) := by decide +kernel
theorem own_d11_53 : decode prog_12_method_9_code 53 = .ok (.istore_n 2, 1) := by decide +kernel
theorem own_d11_54 : decode prog_12_method_9_code 54 = .ok (.goto (-34), 3) := by decide +kernel
theorem own_d11_57 : decode prog_12_method_9_code 57 = .ok (.iload_n 2, 1) := by decide +kernel
theorem own_d11_58 : decode prog_12_method_9_code 58 = .ok (.ireturn, 1) := by decide +kernel
theorem own_d12_0 : decode prog_12_method_15_code 0 = .ok (.aload_n 0, 1) := by decide +kernel
theorem own_d12_1 : decode prog_12_method_15_code 1 = .ok (.iload_n 3, 1) := by decide +kernel
theorem own_d12_2 : decode prog_12_method_15_code 2 = .ok (.invokevirtual 23, 3) := by decide +kernel
theorem own_d12_5 : decode prog_12_method_15_code 5 = .ok (.invokevirtual 27, 3) := by decide +kernel
theorem own_d12_8 : decode prog_12_method_15_code 8 = .ok (.lload_n 1, 1) := by decide +kernel
theorem own_d12_9 : decode prog_12_method_15_code 9 = .ok (.lcmp, 1) := by decide +kernel
theorem own_d12_10 : decode prog_12_method_15_code 10 = .ok (.ifCond .lt 7, 3) := by decide +kernel
theorem own_d12_13 : decode prog_12_method_15_code 13 = .ok (.iconst 1, 1) := by decide +kernel
theorem own_d12_14 : decode prog_12_method_15_code 14 = .ok (.goto 4, 3) := by decide +kernel
theorem own_d12_17 : decode prog_12_method_15_code 17 = .ok (.iconst 0, 1) := by decide +kernel
theorem own_d12_18 : decode prog_12_method_15_code 18 = .ok (.ireturn, 1) := by decide +kernel
theorem own_d13_0 : decode prog_12_method_11_code 0 = .ok (.aload_n 0, 1) := by decide +kernel
theorem own_d13_1 : decode prog_12_method_11_code 1 = .ok (.getfield 11, 3) := by decide +kernel
theorem own_d13_4 : decode prog_12_method_11_code 4 = .ok (.aload_n 0, 1) := by decide +kernel
theorem own_d13_5 : decode prog_12_method_11_code 5 = .ok (.iload_n 1, 1) := by decide +kernel
theorem own_d13_6 : decode prog_12_method_11_code 6 = .ok (.invokevirtual 35, 3) := by decide +kernel
theorem own_d13_9 : decode prog_12_method_11_code 9 = .ok (.aaload, 1) := by decide +kernel
theorem own_d13_10 : decode prog_12_method_11_code 10 = .ok (.areturn, 1) := by decide +kernel
theorem own_pn0 : plainName "com/example/demarq/demarq/broker/SortedMessages" = true := by first | (simp [plainName, overriddenIn]; done) | decide +kernel
theorem own_pn1 : plainName "com/example/demarq/demarq/broker/Message" = true := by first | (simp [plainName, overriddenIn]; done) | decide +kernel
theorem own_pn2 : plainName "com/example/demarq/demarq/broker/SortedMessagesIsEmptyPinLaw" = true := by first | (simp [plainName, overriddenIn]; done) | decide +kernel
theorem own_pd0 : parseMethodDescriptor "(I)I" = some ⟨[.int], some .int⟩ := by decide +kernel
theorem own_pd1 : parseMethodDescriptor "(I)Lcom/example/demarq/demarq/broker/Message;" = some ⟨[.int], some (.object "com/example/demarq/demarq/broker/Message")⟩ := by decide +kernel
theorem own_pd2 : parseMethodDescriptor "()J" = some ⟨[], some .long⟩ := by decide +kernel
theorem own_pd3 : parseMethodDescriptor "(I)Z" = some ⟨[.int], some .boolean⟩ := by decide +kernel
theorem own_pd4 : parseMethodDescriptor "(ILjava/util/function/IntPredicate;)I" = some ⟨[.int, (.object "java/util/function/IntPredicate")], some .int⟩ := by decide +kernel
theorem own_pd5 : parseMethodDescriptor "(ILcom/example/demarq/demarq/broker/Message;)V" = some ⟨[.int, (.object "com/example/demarq/demarq/broker/Message")], none⟩ := by decide +kernel
theorem own_pd6 : parseMethodDescriptor "(J)I" = some ⟨[.long], some .int⟩ := by decide +kernel
theorem own_pd7 : parseMethodDescriptor "()V" = some ⟨[], none⟩ := by decide +kernel
theorem own_pd8 : parseMethodDescriptor "(J[BZ)V" = some ⟨[.long, (.array .byte), .boolean], none⟩ := by decide +kernel
theorem own_pd9 : parseMethodDescriptor "()Z" = some ⟨[], some .boolean⟩ := by decide +kernel
theorem own_pd10 : parseMethodDescriptor "(Lcom/example/demarq/demarq/broker/Message;)V" = some ⟨[(.object "com/example/demarq/demarq/broker/Message")], none⟩ := by decide +kernel
theorem own_ef7 (m : MethodId) (oa : Addr) (ii : Int32) : entryFrame m #[(.ref oa), (.int ii)] 2 = mkF m 0 #[.val (.ref oa), .val (.int ii)] [] := by first | (simp [entryFrame, mkF, argsToLocals, Value.category]; done) | rfl
def Q7 (Z : State) (oa : Addr) (ii : Int32) (ra : Addr) (kr : ClassId) (hs : List (Int32 × Value)) (hdx : Int32) (h0 : Heap) (n0 : Nat) (vr : Option Value) (hr : Heap) (Lr : List Loc) : Prop := vr = some (.int ((hdx + ii) % (16 : Int32))) ∧ Fr n0 Lr ∧ hr = h0
set_option maxRecDepth 65536 in
set_option maxHeartbeats 40000000 in
theorem rm7 (l : Launch) (Z : State) (a0 : Array Value) (hw : ∀ d ∈ tables_1, d.before a0 Z = true) (ws : List Jvm.Cond) (oa : Addr) (ii : Int32) (ra : Addr) (kr : ClassId) (hs : List (Int32 × Value)) (hdx : Int32) (h0 : Heap) (n0 : Nat) (Z0 : n0 ≤ h0.size) (F_oa_head : Fld Z h0 oa "com/example/demarq/demarq/broker/SortedMessages" "head" "I" (.int hdx)) (F_oa_ring : Fld Z h0 oa "com/example/demarq/demarq/broker/SortedMessages" "ring" "[Lcom/example/demarq/demarq/broker/Message;" (.ref ra)) (V_ra : Arh Z h0 ra kr (.object "com/example/demarq/demarq/broker/Message") (16 : Int32) hs [] .null) :
    MetFree l (⟨"com/example/demarq/demarq/broker/SortedMessages", "slot", "(I)I"⟩ : MethodName) (head1 (Jvm.Cond.code (⟨"com/example/demarq/demarq/broker/SortedMessages", "slot", "(I)I"⟩ : MethodName) prog_12_method_13_code 2 (some .int) :: ws) ({ frames := 0, cells := 0, slots := 0, locals := 0 } : Room)) (fun aQ UQ => aQ = #[(.ref oa), (.int ii)] ∧ Z.Warmed39 UQ.vm ∧ UQ.heap = h0) (fun _ _ _ _ _ => True) (fun _ UQ oQ VQ => ∃ vQ LQ, oQ = .returned vQ ∧ Q7 Z oa ii ra kr hs hdx h0 n0 vQ VQ.heap LQ ∧ FrameEnd UQ oQ VQ LQ ({ frames := 0, cells := 0, slots := 0, locals := 0 } : Room).cells ({ frames := 0, cells := 0, slots := 0, locals := 0 } : Room).slots) := by
  refine MetFree.of_bodySF (plainFor_of_name own_pn0) hisR ?_
  intro p e s m args below meth c s₁ Bd hml0 hP hK
  obtain ⟨rfl, hZ, hh⟩ := hP
  have hx := Bd.exec
  have hby := Bd.bytes
  have hml : c.maxLocals = 2 := hml0
  have hown : s.vm.findClass "com/example/demarq/demarq/broker/SortedMessages" = some m.cls := findClass_of_methodNamed Bd.named
  have hnm := (name_of_methodNamed Bd.named Bd.method).1
  have X0 : Stand p l e ({ frames := 0, cells := 0, slots := 0, locals := 0 } : Room) s m #[(.ref oa), (.int ii)] below meth c s₁ [] 0 0 := Stand.of_body Bd
  have e0 : s₁.heap = h0 := by rw [← hh, Bd.state]; rfl
  have N0 := Fr.nil n0
  show Go p e below (EndQ s below (Q7 Z oa ii ra kr hs hdx h0 n0) ({ frames := 0, cells := 0, slots := 0, locals := 0 } : Room).cells ({ frames := 0, cells := 0, slots := 0, locals := 0 } : Room).slots) s₁ (entryFrame m #[(.ref oa), (.int ii)] 2)
  obtain ⟨Φ, hΦ⟩ : ∃ Φ, Φ = EndQ s below (Q7 Z oa ii ra kr hs hdx h0 n0) ({ frames := 0, cells := 0, slots := 0, locals := 0 } : Room).cells ({ frames := 0, cells := 0, slots := 0, locals := 0 } : Room).slots := ⟨_, rfl⟩
  rw [← hΦ, own_ef7]
  show Go p e below Φ s₁ (mkF m 0 #[.val (.ref oa), .val (.int ii)] [])
  refine Go.of (fun t k => XS.aloadN X0.here hx rfl (hb hby own_d7_0) rfl rfl  k) ?_
  show Go p e below Φ s₁ (mkF m 1 #[.val (.ref oa), .val (.int ii)] [(.ref oa)])
  obtain ⟨T1, X1, e1, st1⟩ := getF X0 hx hZ hown (host := "") (Or.inl (hw _ (List.mem_of_getElem? (i := 46) rfl))) Via.refl e0 F_oa_head (g := (mkF m 1 #[.val (.ref oa), .val (.int ii)] [(.ref oa)])) rfl rfl (hb hby own_d7_1)
  refine Go.of st1 ?_
  show Go p e below Φ T1 (mkF m 4 #[.val (.ref oa), .val (.int ii)] [(.int hdx)])
  refine Go.of (fun t k => XS.iloadN X1.here hx rfl (hb hby own_d7_4) rfl  k) ?_
  show Go p e below Φ T1 (mkF m 5 #[.val (.ref oa), .val (.int ii)] [(.int ii), (.int hdx)])
  refine Go.of (fun t k => XS.iadd X1.here hx rfl (hb hby own_d7_5) rfl k) ?_
  show Go p e below Φ T1 (mkF m 6 #[.val (.ref oa), .val (.int ii)] [(.int (hdx + ii))])
  refine Go.of (fun t k => XS.aloadN X1.here hx rfl (hb hby own_d7_6) rfl rfl  k) ?_
  show Go p e below Φ T1 (mkF m 7 #[.val (.ref oa), .val (.int ii)] [(.ref oa), (.int (hdx + ii))])
  obtain ⟨T2, X2, e2, st2⟩ := getF X1 hx hZ hown (host := "") (Or.inl (hw _ (List.mem_of_getElem? (i := 11) rfl))) Via.refl e1 F_oa_ring (g := (mkF m 7 #[.val (.ref oa), .val (.int ii)] [(.ref oa), (.int (hdx + ii))])) rfl rfl (hb hby own_d7_7)
  refine Go.of st2 ?_
  show Go p e below Φ T2 (mkF m 10 #[.val (.ref oa), .val (.int ii)] [(.ref ra), (.int (hdx + ii))])
  obtain ⟨cl10, Ar10, q10, S10, N10, H10, G10⟩ := id V_ra
  refine Go.of (fun t k => X2.arraylength hx (own_at_ e2 Ar10.1) (State.isArrayOf_alike hZ.alike Ar10.2.1) (g := (mkF m 10 #[.val (.ref oa), .val (.int ii)] [(.ref ra), (.int (hdx + ii))])) rfl rfl (hb hby own_d7_10) t k) ?_
  rw [len_of S10 N10]
  show Go p e below Φ T2 (mkF m 11 #[.val (.ref oa), .val (.int ii)] [(.int (16 : Int32)), (.int (hdx + ii))])
  refine Go.of (fun t k => iremM X2 hx rfl (hb hby own_d7_11) rfl (by decide) k) ?_
  show Go p e below Φ T2 (mkF m 12 #[.val (.ref oa), .val (.int ii)] [(.int ((hdx + ii) % (16 : Int32)))])
  rw [hΦ]
  refine Go.ret X2 hx Bd.notSynchronized Bd.returns rfl (Or.inl ⟨rfl, Or.inl rfl, _, rfl⟩) (hb hby own_d7_12) (by decide) (by decide) ?_
  rw [e2]
  exact ⟨rfl, N0, rfl⟩
theorem own_ef13 (m : MethodId) (oa : Addr) (ii : Int32) : entryFrame m #[(.ref oa), (.int ii)] 2 = mkF m 0 #[.val (.ref oa), .val (.int ii)] [] := by first | (simp [entryFrame, mkF, argsToLocals, Value.category]; done) | rfl
def Q13 (Z : State) (oa : Addr) (ii : Int32) (ra : Addr) (kr : ClassId) (hs : List (Int32 × Value)) (ma : Addr) (hdx : Int32) (h0 : Heap) (n0 : Nat) (vr : Option Value) (hr : Heap) (Lr : List Loc) : Prop := vr = some (.ref ma) ∧ Fr n0 Lr ∧ hr = h0
set_option maxRecDepth 65536 in
set_option maxHeartbeats 40000000 in
theorem rm13 (l : Launch) (Z : State) (a0 : Array Value) (hw : ∀ d ∈ tables_1, d.before a0 Z = true) (ws : List Jvm.Cond) (oa : Addr) (ii : Int32) (ra : Addr) (kr : ClassId) (hs : List (Int32 × Value)) (ma : Addr) (hdx : Int32) (h0 : Heap) (n0 : Nat) (Z0 : n0 ≤ h0.size) (F_oa_head : Fld Z h0 oa "com/example/demarq/demarq/broker/SortedMessages" "head" "I" (.int hdx)) (F_oa_ring : Fld Z h0 oa "com/example/demarq/demarq/broker/SortedMessages" "ring" "[Lcom/example/demarq/demarq/broker/Message;" (.ref ra)) (V_ra : Arh Z h0 ra kr (.object "com/example/demarq/demarq/broker/Message") (16 : Int32) hs [] .null) (E_oa : Exa Z h0 oa "com/example/demarq/demarq/broker/SortedMessages") (hin : ¬ ((hdx + ii) % (16 : Int32)) < 0 ∧ ((hdx + ii) % (16 : Int32)) < (16 : Int32)) (hat : getH hs [] .null (((hdx + ii) % (16 : Int32))).toNatClampNeg = .ref ma) :
    MetFree l (⟨"com/example/demarq/demarq/broker/SortedMessages", "get", "(I)Lcom/example/demarq/demarq/broker/Message;"⟩ : MethodName) (head1 (Jvm.Cond.code (⟨"com/example/demarq/demarq/broker/SortedMessages", "get", "(I)Lcom/example/demarq/demarq/broker/Message;"⟩ : MethodName) prog_12_method_11_code 2 (some (.object "com/example/demarq/demarq/broker/Message")) :: ws) ({ frames := 1, cells := 0, slots := 0, locals := 14 } : Room)) (fun aQ UQ => aQ = #[(.ref oa), (.int ii)] ∧ Z.Warmed39 UQ.vm ∧ UQ.heap = h0) (fun _ _ _ _ _ => True) (fun _ UQ oQ VQ => ∃ vQ LQ, oQ = .returned vQ ∧ Q13 Z oa ii ra kr hs ma hdx h0 n0 vQ VQ.heap LQ ∧ FrameEnd UQ oQ VQ LQ ({ frames := 1, cells := 0, slots := 0, locals := 14 } : Room).cells ({ frames := 1, cells := 0, slots := 0, locals := 14 } : Room).slots) := by
  refine MetFree.of_bodySF (plainFor_of_name own_pn0) hisR ?_
  intro p e s m args below meth c s₁ Bd hml0 hP hK
  obtain ⟨rfl, hZ, hh⟩ := hP
  have hx := Bd.exec
  have hby := Bd.bytes
  have hml : c.maxLocals = 2 := hml0
  have hown : s.vm.findClass "com/example/demarq/demarq/broker/SortedMessages" = some m.cls := findClass_of_methodNamed Bd.named
  have hnm := (name_of_methodNamed Bd.named Bd.method).1
  have X0 : Stand p l e ({ frames := 1, cells := 0, slots := 0, locals := 14 } : Room) s m #[(.ref oa), (.int ii)] below meth c s₁ [] 0 0 := Stand.of_body Bd
  have e0 : s₁.heap = h0 := by rw [← hh, Bd.state]; rfl
  have N0 := Fr.nil n0
  show Go p e below (EndQ s below (Q13 Z oa ii ra kr hs ma hdx h0 n0) ({ frames := 1, cells := 0, slots := 0, locals := 14 } : Room).cells ({ frames := 1, cells := 0, slots := 0, locals := 14 } : Room).slots) s₁ (entryFrame m #[(.ref oa), (.int ii)] 2)
  obtain ⟨Φ, hΦ⟩ : ∃ Φ, Φ = EndQ s below (Q13 Z oa ii ra kr hs ma hdx h0 n0) ({ frames := 1, cells := 0, slots := 0, locals := 14 } : Room).cells ({ frames := 1, cells := 0, slots := 0, locals := 14 } : Room).slots := ⟨_, rfl⟩
  rw [← hΦ, own_ef13]
  show Go p e below Φ s₁ (mkF m 0 #[.val (.ref oa), .val (.int ii)] [])
  refine Go.of (fun t k => XS.aloadN X0.here hx rfl (hb hby own_d13_0) rfl rfl  k) ?_
  show Go p e below Φ s₁ (mkF m 1 #[.val (.ref oa), .val (.int ii)] [(.ref oa)])
  obtain ⟨T1, X1, e1, st1⟩ := getF X0 hx hZ hown (host := "") (Or.inl (hw _ (List.mem_of_getElem? (i := 11) rfl))) Via.refl e0 F_oa_ring (g := (mkF m 1 #[.val (.ref oa), .val (.int ii)] [(.ref oa)])) rfl rfl (hb hby own_d13_1)
  refine Go.of st1 ?_
  show Go p e below Φ T1 (mkF m 4 #[.val (.ref oa), .val (.int ii)] [(.ref ra)])
  refine Go.of (fun t k => XS.aloadN X1.here hx rfl (hb hby own_d13_4) rfl rfl  k) ?_
  show Go p e below Φ T1 (mkF m 5 #[.val (.ref oa), .val (.int ii)] [(.ref oa), (.ref ra)])
  refine Go.of (fun t k => XS.iloadN X1.here hx rfl (hb hby own_d13_5) rfl  k) ?_
  show Go p e below Φ T1 (mkF m 6 #[.val (.ref oa), .val (.int ii)] [(.int ii), (.ref oa), (.ref ra)])
  obtain ⟨cq2, q2, q2'⟩ := E_oa.cell
  obtain ⟨_, _, ⟨T2, L2, k2, n2⟩, -, X2, ⟨Lc2, hQ2, l2, y2, z2⟩, st2⟩ := X1.privateBack hx (y := (⟨"com/example/demarq/demarq/broker/SortedMessages", "slot", "(I)I"⟩ : MethodName)) hown (mvT hZ (hw _ (List.mem_of_getElem? (i := 42) rfl))) (mvT hZ (hw _ (List.mem_of_getElem? (i := 43) rfl))) (own_privSel (z := (⟨"com/example/demarq/demarq/broker/SortedMessages", "isEmpty", "()Z"⟩ : MethodName)) (y := (⟨"com/example/demarq/demarq/broker/SortedMessages", "slot", "(I)I"⟩ : MethodName)) hZ (hw _ (List.mem_of_getElem? (i := 29) rfl)) rfl (hw _ (List.mem_of_getElem? (i := 43) rfl)) (hw _ (List.mem_of_getElem? (i := 44) rfl)) (by decide)) (Cond.privateMethod_at (mvP hZ (hw _ (List.mem_of_getElem? (i := 44) rfl)) (args := #[]))) (mvT hZ (hw _ (List.mem_of_getElem? (i := 45) rfl))) (by decide) (backOf (W := 1) (rm7 l Z a0 hw [] oa ii ra kr hs hdx h0 n0 Z0 F_oa_head F_oa_ring V_ra) hZ (hw _ (List.mem_of_getElem? (i := 45) rfl)) (hw _ (List.mem_of_getElem? (i := 2) rfl)) (by decide) (by decide)) (g := (mkF m 6 #[.val (.ref oa), .val (.int ii)] [(.int ii), (.ref oa), (.ref ra)])) rfl (by rw [hml]; rfl) (Steps.refl _) (a := oa) (by rw [e1]; exact q2) q2' (argsL := [(.int ii)]) (rest := [(.ref ra)]) (lenOf own_pd0 rfl) rfl (by show 2 * 0 + _ ≤ _; exact Nat.le_of_eq rfl) (hb hby own_d13_6) (fun _ _ => ⟨rfl, e1, (by decide : 0 + 0 ≤ _), (by decide : 0 + 0 ≤ _)⟩)
  dsimp only [Pt.U, Pt.locs, Pt.cells, Pt.slots] at X2 l2 y2 z2 st2 hQ2
  subst l2 y2 z2
  obtain ⟨rfl, N2q, e2q⟩ := hQ2
  have N2 := Fr.app N0 N2q
  obtain ⟨lc2, X2, N2⟩ : ∃ lc, Stand p l e ({ frames := 1, cells := 0, slots := 0, locals := 14 } : Room) s m #[(.ref oa), (.int ii)] below meth c T2 lc 0 0 ∧ Fr n0 lc := ⟨_, X2, N2⟩
  refine Go.tr st2 ?_
  show Go p e below Φ T2 (mkF m 9 #[.val (.ref oa), .val (.int ii)] [(.int ((hdx + ii) % (16 : Int32))), (.ref ra)])
  obtain ⟨cl9, Ar9, q9, S9, N9, H9, G9⟩ := id V_ra
  have hin9 : ¬ (((hdx + ii) % (16 : Int32)) < 0 ∨ cl9.slots.size ≤ (((hdx + ii) % (16 : Int32))).toNatClampNeg) := inb_of S9 hin
  have hat9 : cl9.slots[(((hdx + ii) % (16 : Int32))).toNatClampNeg]? = some (.ref ma) := atH H9 hin9 hat
  refine Go.of (fun t k => X2.aaload hx (j := ((hdx + ii) % (16 : Int32))) (v := (.ref ma)) (own_at_ (e2q) Ar9.1) (State.isArrayOf_alike hZ.alike Ar9.2.1) rfl Ar9.2.2 hin9 hat9 (g := (mkF m 9 #[.val (.ref oa), .val (.int ii)] [(.int ((hdx + ii) % (16 : Int32))), (.ref ra)])) rfl rfl (hb hby own_d13_9) t k) ?_
  show Go p e below Φ T2 (mkF m 10 #[.val (.ref oa), .val (.int ii)] [(.ref ma)])
  rw [hΦ]
  refine Go.ret X2 hx Bd.notSynchronized Bd.returns rfl (Or.inr (Or.inr (Or.inr (Or.inr ⟨rfl, rfl, rfl⟩)))) (hb hby own_d13_10) (by decide) (by decide) ?_
  rw [(e2q)]
  exact ⟨rfl, N2, rfl⟩
theorem own_ef9 (m : MethodId) (ma : Addr) : entryFrame m #[(.ref ma)] 1 = mkF m 0 #[.val (.ref ma)] [] := by first | (simp [entryFrame, mkF, argsToLocals, Value.category]; done) | rfl
def Q9 (Z : State) (ma : Addr) (pp : Int64) (h0 : Heap) (n0 : Nat) (vr : Option Value) (hr : Heap) (Lr : List Loc) : Prop := vr = some (.long pp) ∧ Fr n0 Lr ∧ hr = h0
set_option maxRecDepth 65536 in
set_option maxHeartbeats 40000000 in
theorem rm9 (l : Launch) (Z : State) (a0 : Array Value) (hw : ∀ d ∈ tables_1, d.before a0 Z = true) (ws : List Jvm.Cond) (ma : Addr) (pp : Int64) (h0 : Heap) (n0 : Nat) (Z0 : n0 ≤ h0.size) (F_ma_position : Fld Z h0 ma "com/example/demarq/demarq/broker/Message" "position" "J" (.long pp)) :
    MetFree l (⟨"com/example/demarq/demarq/broker/Message", "position", "()J"⟩ : MethodName) (head1 (Jvm.Cond.code (⟨"com/example/demarq/demarq/broker/Message", "position", "()J"⟩ : MethodName) prog_7_method_2_code 1 (some .long) :: ws) ({ frames := 0, cells := 0, slots := 0, locals := 0 } : Room)) (fun aQ UQ => aQ = #[(.ref ma)] ∧ Z.Warmed39 UQ.vm ∧ UQ.heap = h0) (fun _ _ _ _ _ => True) (fun _ UQ oQ VQ => ∃ vQ LQ, oQ = .returned vQ ∧ Q9 Z ma pp h0 n0 vQ VQ.heap LQ ∧ FrameEnd UQ oQ VQ LQ ({ frames := 0, cells := 0, slots := 0, locals := 0 } : Room).cells ({ frames := 0, cells := 0, slots := 0, locals := 0 } : Room).slots) := by
  refine MetFree.of_bodySF (plainFor_of_name own_pn1) hisR ?_
  intro p e s m args below meth c s₁ Bd hml0 hP hK
  obtain ⟨rfl, hZ, hh⟩ := hP
  have hx := Bd.exec
  have hby := Bd.bytes
  have hml : c.maxLocals = 1 := hml0
  have hown : s.vm.findClass "com/example/demarq/demarq/broker/Message" = some m.cls := findClass_of_methodNamed Bd.named
  have hnm := (name_of_methodNamed Bd.named Bd.method).1
  have X0 : Stand p l e ({ frames := 0, cells := 0, slots := 0, locals := 0 } : Room) s m #[(.ref ma)] below meth c s₁ [] 0 0 := Stand.of_body Bd
  have e0 : s₁.heap = h0 := by rw [← hh, Bd.state]; rfl
  have N0 := Fr.nil n0
  show Go p e below (EndQ s below (Q9 Z ma pp h0 n0) ({ frames := 0, cells := 0, slots := 0, locals := 0 } : Room).cells ({ frames := 0, cells := 0, slots := 0, locals := 0 } : Room).slots) s₁ (entryFrame m #[(.ref ma)] 1)
  obtain ⟨Φ, hΦ⟩ : ∃ Φ, Φ = EndQ s below (Q9 Z ma pp h0 n0) ({ frames := 0, cells := 0, slots := 0, locals := 0 } : Room).cells ({ frames := 0, cells := 0, slots := 0, locals := 0 } : Room).slots := ⟨_, rfl⟩
  rw [← hΦ, own_ef9]
  show Go p e below Φ s₁ (mkF m 0 #[.val (.ref ma)] [])
  refine Go.of (fun t k => XS.aloadN X0.here hx rfl (hb hby own_d9_0) rfl rfl  k) ?_
  show Go p e below Φ s₁ (mkF m 1 #[.val (.ref ma)] [(.ref ma)])
  obtain ⟨T1, X1, e1, st1⟩ := getF X0 hx hZ hown (host := "") (Or.inl (hw _ (List.mem_of_getElem? (i := 20) rfl))) Via.refl e0 F_ma_position (g := (mkF m 1 #[.val (.ref ma)] [(.ref ma)])) rfl rfl (hb hby own_d9_1)
  refine Go.of st1 ?_
  show Go p e below Φ T1 (mkF m 4 #[.val (.ref ma)] [(.long pp)])
  rw [hΦ]
  refine Go.ret X1 hx Bd.notSynchronized Bd.returns rfl (Or.inr (Or.inl ⟨rfl, rfl, _, rfl⟩)) (hb hby own_d9_4) (by decide) (by decide) ?_
  rw [e1]
  exact ⟨rfl, N0, rfl⟩
theorem own_ef6r (m : MethodId) (oa : Addr) (ii : Int32) (va : Addr) : entryFrame m #[(.ref oa), (.int ii), (.ref va)] 3 = mkF m 0 #[.val (.ref oa), .val (.int ii), .val (.ref va)] [] := by first | (simp [entryFrame, mkF, argsToLocals, Value.category]; done) | rfl
def Q6r (Z : State) (oa : Addr) (ii : Int32) (va : Addr) (ra : Addr) (kr : ClassId) (hs : List (Int32 × Value)) (hdx : Int32) (h0 : Heap) (n0 : Nat) (vr : Option Value) (hr : Heap) (Lr : List Loc) : Prop := vr = none ∧ Fr n0 Lr ∧ Keep h0 hr [ra] ∧ Arh Z hr ra kr (.object "com/example/demarq/demarq/broker/Message") (16 : Int32) ((((hdx + ii) % (16 : Int32)), (.ref va)) :: hs) [] .null
set_option maxRecDepth 65536 in
set_option maxHeartbeats 40000000 in
theorem rm6r (l : Launch) (Z : State) (a0 : Array Value) (hw : ∀ d ∈ tables_1, d.before a0 Z = true) (ws : List Jvm.Cond) (oa : Addr) (ii : Int32) (va : Addr) (ra : Addr) (kr : ClassId) (hs : List (Int32 × Value)) (hdx : Int32) (h0 : Heap) (n0 : Nat) (Z0 : n0 ≤ h0.size) (F_oa_head : Fld Z h0 oa "com/example/demarq/demarq/broker/SortedMessages" "head" "I" (.int hdx)) (F_oa_ring : Fld Z h0 oa "com/example/demarq/demarq/broker/SortedMessages" "ring" "[Lcom/example/demarq/demarq/broker/Message;" (.ref ra)) (V_ra : Arh Z h0 ra kr (.object "com/example/demarq/demarq/broker/Message") (16 : Int32) hs [] .null) (E_oa : Exa Z h0 oa "com/example/demarq/demarq/broker/SortedMessages") (hin : ¬ ((hdx + ii) % (16 : Int32)) < 0 ∧ ((hdx + ii) % (16 : Int32)) < (16 : Int32)) (g_ra : n0 ≤ ra) (ne_oa_ra : oa ≠ ra) (Ov : Ovr Z kr "com/example/demarq/demarq/broker/Message") (E_va : Exa Z h0 va "com/example/demarq/demarq/broker/Message") :
    MetFree l (⟨"com/example/demarq/demarq/broker/SortedMessages", "set", "(ILcom/example/demarq/demarq/broker/Message;)V"⟩ : MethodName) (head1 (Jvm.Cond.code (⟨"com/example/demarq/demarq/broker/SortedMessages", "set", "(ILcom/example/demarq/demarq/broker/Message;)V"⟩ : MethodName) prog_12_method_12_code 3 none :: ws) ({ frames := 1, cells := 0, slots := 0, locals := 14 } : Room)) (fun aQ UQ => aQ = #[(.ref oa), (.int ii), (.ref va)] ∧ Z.Warmed39 UQ.vm ∧ UQ.heap = h0) (fun _ _ _ _ _ => True) (fun _ UQ oQ VQ => ∃ vQ LQ, oQ = .returned vQ ∧ Q6r Z oa ii va ra kr hs hdx h0 n0 vQ VQ.heap LQ ∧ FrameEnd UQ oQ VQ LQ ({ frames := 1, cells := 0, slots := 0, locals := 14 } : Room).cells ({ frames := 1, cells := 0, slots := 0, locals := 14 } : Room).slots) := by
  refine MetFree.of_bodySF (plainFor_of_name own_pn0) hisR ?_
  intro p e s m args below meth c s₁ Bd hml0 hP hK
  obtain ⟨rfl, hZ, hh⟩ := hP
  have hx := Bd.exec
  have hby := Bd.bytes
  have hml : c.maxLocals = 3 := hml0
  have hown : s.vm.findClass "com/example/demarq/demarq/broker/SortedMessages" = some m.cls := findClass_of_methodNamed Bd.named
  have hnm := (name_of_methodNamed Bd.named Bd.method).1
  have X0 : Stand p l e ({ frames := 1, cells := 0, slots := 0, locals := 14 } : Room) s m #[(.ref oa), (.int ii), (.ref va)] below meth c s₁ [] 0 0 := Stand.of_body Bd
  have e0 : s₁.heap = h0 := by rw [← hh, Bd.state]; rfl
  have N0 := Fr.nil n0
  show Go p e below (EndQ s below (Q6r Z oa ii va ra kr hs hdx h0 n0) ({ frames := 1, cells := 0, slots := 0, locals := 14 } : Room).cells ({ frames := 1, cells := 0, slots := 0, locals := 14 } : Room).slots) s₁ (entryFrame m #[(.ref oa), (.int ii), (.ref va)] 3)
  obtain ⟨Φ, hΦ⟩ : ∃ Φ, Φ = EndQ s below (Q6r Z oa ii va ra kr hs hdx h0 n0) ({ frames := 1, cells := 0, slots := 0, locals := 14 } : Room).cells ({ frames := 1, cells := 0, slots := 0, locals := 14 } : Room).slots := ⟨_, rfl⟩
  rw [← hΦ, own_ef6r]
  show Go p e below Φ s₁ (mkF m 0 #[.val (.ref oa), .val (.int ii), .val (.ref va)] [])
  refine Go.of (fun t k => XS.aloadN X0.here hx rfl (hb hby own_d6_0) rfl rfl  k) ?_
  show Go p e below Φ s₁ (mkF m 1 #[.val (.ref oa), .val (.int ii), .val (.ref va)] [(.ref oa)])
  obtain ⟨T1, X1, e1, st1⟩ := getF X0 hx hZ hown (host := "") (Or.inl (hw _ (List.mem_of_getElem? (i := 11) rfl))) Via.refl e0 F_oa_ring (g := (mkF m 1 #[.val (.ref oa), .val (.int ii), .val (.ref va)] [(.ref oa)])) rfl rfl (hb hby own_d6_1)
  refine Go.of st1 ?_
  show Go p e below Φ T1 (mkF m 4 #[.val (.ref oa), .val (.int ii), .val (.ref va)] [(.ref ra)])
  refine Go.of (fun t k => XS.aloadN X1.here hx rfl (hb hby own_d6_4) rfl rfl  k) ?_
  show Go p e below Φ T1 (mkF m 5 #[.val (.ref oa), .val (.int ii), .val (.ref va)] [(.ref oa), (.ref ra)])
  refine Go.of (fun t k => XS.iloadN X1.here hx rfl (hb hby own_d6_5) rfl  k) ?_
  show Go p e below Φ T1 (mkF m 6 #[.val (.ref oa), .val (.int ii), .val (.ref va)] [(.int ii), (.ref oa), (.ref ra)])
  obtain ⟨cq2, q2, q2'⟩ := E_oa.cell
  obtain ⟨_, _, ⟨T2, L2, k2, n2⟩, -, X2, ⟨Lc2, hQ2, l2, y2, z2⟩, st2⟩ := X1.privateBack hx (y := (⟨"com/example/demarq/demarq/broker/SortedMessages", "slot", "(I)I"⟩ : MethodName)) hown (mvT hZ (hw _ (List.mem_of_getElem? (i := 42) rfl))) (mvT hZ (hw _ (List.mem_of_getElem? (i := 43) rfl))) (own_privSel (z := (⟨"com/example/demarq/demarq/broker/SortedMessages", "isEmpty", "()Z"⟩ : MethodName)) (y := (⟨"com/example/demarq/demarq/broker/SortedMessages", "slot", "(I)I"⟩ : MethodName)) hZ (hw _ (List.mem_of_getElem? (i := 29) rfl)) rfl (hw _ (List.mem_of_getElem? (i := 43) rfl)) (hw _ (List.mem_of_getElem? (i := 44) rfl)) (by decide)) (Cond.privateMethod_at (mvP hZ (hw _ (List.mem_of_getElem? (i := 44) rfl)) (args := #[]))) (mvT hZ (hw _ (List.mem_of_getElem? (i := 45) rfl))) (by decide) (backOf (W := 1) (rm7 l Z a0 hw [] oa ii ra kr hs hdx h0 n0 Z0 F_oa_head F_oa_ring V_ra) hZ (hw _ (List.mem_of_getElem? (i := 45) rfl)) (hw _ (List.mem_of_getElem? (i := 2) rfl)) (by decide) (by decide)) (g := (mkF m 6 #[.val (.ref oa), .val (.int ii), .val (.ref va)] [(.int ii), (.ref oa), (.ref ra)])) rfl (by rw [hml]; rfl) (Steps.refl _) (a := oa) (by rw [e1]; exact q2) q2' (argsL := [(.int ii)]) (rest := [(.ref ra)]) (lenOf own_pd0 rfl) rfl (by show 2 * 0 + _ ≤ _; exact Nat.le_of_eq rfl) (hb hby own_d6_6) (fun _ _ => ⟨rfl, e1, (by decide : 0 + 0 ≤ _), (by decide : 0 + 0 ≤ _)⟩)
  dsimp only [Pt.U, Pt.locs, Pt.cells, Pt.slots] at X2 l2 y2 z2 st2 hQ2
  subst l2 y2 z2
  obtain ⟨rfl, N2q, e2q⟩ := hQ2
  have N2 := Fr.app N0 N2q
  obtain ⟨lc2, X2, N2⟩ : ∃ lc, Stand p l e ({ frames := 1, cells := 0, slots := 0, locals := 14 } : Room) s m #[(.ref oa), (.int ii), (.ref va)] below meth c T2 lc 0 0 ∧ Fr n0 lc := ⟨_, X2, N2⟩
  refine Go.tr st2 ?_
  show Go p e below Φ T2 (mkF m 9 #[.val (.ref oa), .val (.int ii), .val (.ref va)] [(.int ((hdx + ii) % (16 : Int32))), (.ref ra)])
  refine Go.of (fun t k => XS.aloadN X2.here hx rfl (hb hby own_d6_9) rfl rfl  k) ?_
  show Go p e below Φ T2 (mkF m 10 #[.val (.ref oa), .val (.int ii), .val (.ref va)] [(.ref va), (.int ((hdx + ii) % (16 : Int32))), (.ref ra)])
  obtain ⟨cl10, Ar10, q10, S10, N10, H10, G10⟩ := id V_ra
  have hin10 : ¬ (((hdx + ii) % (16 : Int32)) < 0 ∨ cl10.slots.size ≤ (((hdx + ii) % (16 : Int32))).toNatClampNeg) := inb_of S10 hin
  obtain ⟨T3, h3, X3, e3, W3, st3⟩ := stR X2 hx hZ (e2q) Ar10 (j := ((hdx + ii) % (16 : Int32))) hin10 rfl (Sto.ofV Ar10 q10 Ov (Ins.self E_va)) (g := (mkF m 10 #[.val (.ref oa), .val (.int ii), .val (.ref va)] [(.ref va), (.int ((hdx + ii) % (16 : Int32))), (.ref ra)])) rfl rfl (hb hby own_d6_10)
  have V_ra : Arh Z h3 ra kr (.object "com/example/demarq/demarq/broker/Message") (16 : Int32) ((((hdx + ii) % (16 : Int32)), (.ref va)) :: hs) [] .null := Arh.push Ar10 q10 S10 N10 H10 G10 rfl W3 hin10
  have F_oa_head := F_oa_head.other W3 (Or.inl ne_oa_ra)
  have F_oa_ring := F_oa_ring.other W3 (Or.inl ne_oa_ra)
  have E_oa := E_oa.wr W3
  have E_va := E_va.wr W3
  have N3 := Fr.snoc X3 N2 g_ra
  have K3 : Keep h0 h3 [ra] := (Keep.refl h0 [ra]).wr W3 (Or.inl (List.mem_of_getElem? (i := 0) rfl))
  have Z3 := Nat.le_trans Z0 (Keep.of_wr W3).1
  obtain ⟨lc3, X3, N3⟩ : ∃ lc, Stand p l e ({ frames := 1, cells := 0, slots := 0, locals := 14 } : Room) s m #[(.ref oa), (.int ii), (.ref va)] below meth c T3 lc 0 0 ∧ Fr n0 lc := ⟨_, X3, N3⟩
  refine Go.of st3 ?_
  show Go p e below Φ T3 (mkF m 11 #[.val (.ref oa), .val (.int ii), .val (.ref va)] [])
  rw [hΦ]
  refine Go.retV X3 hx Bd.notSynchronized Bd.returns (hb hby own_d6_11) (by decide) (by decide) ?_
  rw [e3]
  exact ⟨rfl, N3, K3, V_ra⟩
theorem own_ef6n (m : MethodId) (oa : Addr) (ii : Int32) : entryFrame m #[(.ref oa), (.int ii), .null] 3 = mkF m 0 #[.val (.ref oa), .val (.int ii), .val .null] [] := by first | (simp [entryFrame, mkF, argsToLocals, Value.category]; done) | rfl
def Q6n (Z : State) (oa : Addr) (ii : Int32) (ra : Addr) (kr : ClassId) (hs : List (Int32 × Value)) (hdx : Int32) (h0 : Heap) (n0 : Nat) (vr : Option Value) (hr : Heap) (Lr : List Loc) : Prop := vr = none ∧ Fr n0 Lr ∧ Keep h0 hr [ra] ∧ Arh Z hr ra kr (.object "com/example/demarq/demarq/broker/Message") (16 : Int32) ((((hdx + ii) % (16 : Int32)), .null) :: hs) [] .null
set_option maxRecDepth 65536 in
set_option maxHeartbeats 40000000 in
theorem rm6n (l : Launch) (Z : State) (a0 : Array Value) (hw : ∀ d ∈ tables_1, d.before a0 Z = true) (ws : List Jvm.Cond) (oa : Addr) (ii : Int32) (ra : Addr) (kr : ClassId) (hs : List (Int32 × Value)) (hdx : Int32) (h0 : Heap) (n0 : Nat) (Z0 : n0 ≤ h0.size) (F_oa_head : Fld Z h0 oa "com/example/demarq/demarq/broker/SortedMessages" "head" "I" (.int hdx)) (F_oa_ring : Fld Z h0 oa "com/example/demarq/demarq/broker/SortedMessages" "ring" "[Lcom/example/demarq/demarq/broker/Message;" (.ref ra)) (V_ra : Arh Z h0 ra kr (.object "com/example/demarq/demarq/broker/Message") (16 : Int32) hs [] .null) (E_oa : Exa Z h0 oa "com/example/demarq/demarq/broker/SortedMessages") (hin : ¬ ((hdx + ii) % (16 : Int32)) < 0 ∧ ((hdx + ii) % (16 : Int32)) < (16 : Int32)) (g_ra : n0 ≤ ra) (ne_oa_ra : oa ≠ ra) :
    MetFree l (⟨"com/example/demarq/demarq/broker/SortedMessages", "set", "(ILcom/example/demarq/demarq/broker/Message;)V"⟩ : MethodName) (head1 (Jvm.Cond.code (⟨"com/example/demarq/demarq/broker/SortedMessages", "set", "(ILcom/example/demarq/demarq/broker/Message;)V"⟩ : MethodName) prog_12_method_12_code 3 none :: ws) ({ frames := 1, cells := 0, slots := 0, locals := 14 } : Room)) (fun aQ UQ => aQ = #[(.ref oa), (.int ii), .null] ∧ Z.Warmed39 UQ.vm ∧ UQ.heap = h0) (fun _ _ _ _ _ => True) (fun _ UQ oQ VQ => ∃ vQ LQ, oQ = .returned vQ ∧ Q6n Z oa ii ra kr hs hdx h0 n0 vQ VQ.heap LQ ∧ FrameEnd UQ oQ VQ LQ ({ frames := 1, cells := 0, slots := 0, locals := 14 } : Room).cells ({ frames := 1, cells := 0, slots := 0, locals := 14 } : Room).slots) := by
  refine MetFree.of_bodySF (plainFor_of_name own_pn0) hisR ?_
  intro p e s m args below meth c s₁ Bd hml0 hP hK
  obtain ⟨rfl, hZ, hh⟩ := hP
  have hx := Bd.exec
  have hby := Bd.bytes
  have hml : c.maxLocals = 3 := hml0
  have hown : s.vm.findClass "com/example/demarq/demarq/broker/SortedMessages" = some m.cls := findClass_of_methodNamed Bd.named
  have hnm := (name_of_methodNamed Bd.named Bd.method).1
  have X0 : Stand p l e ({ frames := 1, cells := 0, slots := 0, locals := 14 } : Room) s m #[(.ref oa), (.int ii), .null] below meth c s₁ [] 0 0 := Stand.of_body Bd
  have e0 : s₁.heap = h0 := by rw [← hh, Bd.state]; rfl
  have N0 := Fr.nil n0
  show Go p e below (EndQ s below (Q6n Z oa ii ra kr hs hdx h0 n0) ({ frames := 1, cells := 0, slots := 0, locals := 14 } : Room).cells ({ frames := 1, cells := 0, slots := 0, locals := 14 } : Room).slots) s₁ (entryFrame m #[(.ref oa), (.int ii), .null] 3)
  obtain ⟨Φ, hΦ⟩ : ∃ Φ, Φ = EndQ s below (Q6n Z oa ii ra kr hs hdx h0 n0) ({ frames := 1, cells := 0, slots := 0, locals := 14 } : Room).cells ({ frames := 1, cells := 0, slots := 0, locals := 14 } : Room).slots := ⟨_, rfl⟩
  rw [← hΦ, own_ef6n]
  show Go p e below Φ s₁ (mkF m 0 #[.val (.ref oa), .val (.int ii), .val .null] [])
  refine Go.of (fun t k => XS.aloadN X0.here hx rfl (hb hby own_d6_0) rfl rfl  k) ?_
  show Go p e below Φ s₁ (mkF m 1 #[.val (.ref oa), .val (.int ii), .val .null] [(.ref oa)])
  obtain ⟨T1, X1, e1, st1⟩ := getF X0 hx hZ hown (host := "") (Or.inl (hw _ (List.mem_of_getElem? (i := 11) rfl))) Via.refl e0 F_oa_ring (g := (mkF m 1 #[.val (.ref oa), .val (.int ii), .val .null] [(.ref oa)])) rfl rfl (hb hby own_d6_1)
  refine Go.of st1 ?_
  show Go p e below Φ T1 (mkF m 4 #[.val (.ref oa), .val (.int ii), .val .null] [(.ref ra)])
  refine Go.of (fun t k => XS.aloadN X1.here hx rfl (hb hby own_d6_4) rfl rfl  k) ?_
  show Go p e below Φ T1 (mkF m 5 #[.val (.ref oa), .val (.int ii), .val .null] [(.ref oa), (.ref ra)])
  refine Go.of (fun t k => XS.iloadN X1.here hx rfl (hb hby own_d6_5) rfl  k) ?_
  show Go p e below Φ T1 (mkF m 6 #[.val (.ref oa), .val (.int ii), .val .null] [(.int ii), (.ref oa), (.ref ra)])
  obtain ⟨cq2, q2, q2'⟩ := E_oa.cell
  obtain ⟨_, _, ⟨T2, L2, k2, n2⟩, -, X2, ⟨Lc2, hQ2, l2, y2, z2⟩, st2⟩ := X1.privateBack hx (y := (⟨"com/example/demarq/demarq/broker/SortedMessages", "slot", "(I)I"⟩ : MethodName)) hown (mvT hZ (hw _ (List.mem_of_getElem? (i := 42) rfl))) (mvT hZ (hw _ (List.mem_of_getElem? (i := 43) rfl))) (own_privSel (z := (⟨"com/example/demarq/demarq/broker/SortedMessages", "isEmpty", "()Z"⟩ : MethodName)) (y := (⟨"com/example/demarq/demarq/broker/SortedMessages", "slot", "(I)I"⟩ : MethodName)) hZ (hw _ (List.mem_of_getElem? (i := 29) rfl)) rfl (hw _ (List.mem_of_getElem? (i := 43) rfl)) (hw _ (List.mem_of_getElem? (i := 44) rfl)) (by decide)) (Cond.privateMethod_at (mvP hZ (hw _ (List.mem_of_getElem? (i := 44) rfl)) (args := #[]))) (mvT hZ (hw _ (List.mem_of_getElem? (i := 45) rfl))) (by decide) (backOf (W := 1) (rm7 l Z a0 hw [] oa ii ra kr hs hdx h0 n0 Z0 F_oa_head F_oa_ring V_ra) hZ (hw _ (List.mem_of_getElem? (i := 45) rfl)) (hw _ (List.mem_of_getElem? (i := 2) rfl)) (by decide) (by decide)) (g := (mkF m 6 #[.val (.ref oa), .val (.int ii), .val .null] [(.int ii), (.ref oa), (.ref ra)])) rfl (by rw [hml]; rfl) (Steps.refl _) (a := oa) (by rw [e1]; exact q2) q2' (argsL := [(.int ii)]) (rest := [(.ref ra)]) (lenOf own_pd0 rfl) rfl (by show 2 * 0 + _ ≤ _; exact Nat.le_of_eq rfl) (hb hby own_d6_6) (fun _ _ => ⟨rfl, e1, (by decide : 0 + 0 ≤ _), (by decide : 0 + 0 ≤ _)⟩)
  dsimp only [Pt.U, Pt.locs, Pt.cells, Pt.slots] at X2 l2 y2 z2 st2 hQ2
  subst l2 y2 z2
  obtain ⟨rfl, N2q, e2q⟩ := hQ2
  have N2 := Fr.app N0 N2q
  obtain ⟨lc2, X2, N2⟩ : ∃ lc, Stand p l e ({ frames := 1, cells := 0, slots := 0, locals := 14 } : Room) s m #[(.ref oa), (.int ii), .null] below meth c T2 lc 0 0 ∧ Fr n0 lc := ⟨_, X2, N2⟩
  refine Go.tr st2 ?_
  show Go p e below Φ T2 (mkF m 9 #[.val (.ref oa), .val (.int ii), .val .null] [(.int ((hdx + ii) % (16 : Int32))), (.ref ra)])
  refine Go.of (fun t k => XS.aloadN X2.here hx rfl (hb hby own_d6_9) rfl rfl  k) ?_
  show Go p e below Φ T2 (mkF m 10 #[.val (.ref oa), .val (.int ii), .val .null] [.null, (.int ((hdx + ii) % (16 : Int32))), (.ref ra)])
  obtain ⟨cl10, Ar10, q10, S10, N10, H10, G10⟩ := id V_ra
  have hin10 : ¬ (((hdx + ii) % (16 : Int32)) < 0 ∨ cl10.slots.size ≤ (((hdx + ii) % (16 : Int32))).toNatClampNeg) := inb_of S10 hin
  obtain ⟨T3, h3, X3, e3, W3, st3⟩ := stR X2 hx hZ (e2q) Ar10 (j := ((hdx + ii) % (16 : Int32))) hin10 rfl (Or.inl rfl) (g := (mkF m 10 #[.val (.ref oa), .val (.int ii), .val .null] [.null, (.int ((hdx + ii) % (16 : Int32))), (.ref ra)])) rfl rfl (hb hby own_d6_10)
  have V_ra : Arh Z h3 ra kr (.object "com/example/demarq/demarq/broker/Message") (16 : Int32) ((((hdx + ii) % (16 : Int32)), .null) :: hs) [] .null := Arh.push Ar10 q10 S10 N10 H10 G10 rfl W3 hin10
  have F_oa_head := F_oa_head.other W3 (Or.inl ne_oa_ra)
  have F_oa_ring := F_oa_ring.other W3 (Or.inl ne_oa_ra)
  have E_oa := E_oa.wr W3
  have N3 := Fr.snoc X3 N2 g_ra
  have K3 : Keep h0 h3 [ra] := (Keep.refl h0 [ra]).wr W3 (Or.inl (List.mem_of_getElem? (i := 0) rfl))
  have Z3 := Nat.le_trans Z0 (Keep.of_wr W3).1
  obtain ⟨lc3, X3, N3⟩ : ∃ lc, Stand p l e ({ frames := 1, cells := 0, slots := 0, locals := 14 } : Room) s m #[(.ref oa), (.int ii), .null] below meth c T3 lc 0 0 ∧ Fr n0 lc := ⟨_, X3, N3⟩
  refine Go.of st3 ?_
  show Go p e below Φ T3 (mkF m 11 #[.val (.ref oa), .val (.int ii), .val .null] [])
  rw [hΦ]
  refine Go.retV X3 hx Bd.notSynchronized Bd.returns (hb hby own_d6_11) (by decide) (by decide) ?_
  rw [e3]
  exact ⟨rfl, N3, K3, V_ra⟩
theorem own_ef12t (m : MethodId) (oa : Addr) (qq : Int64) (ii : Int32) : entryFrame m #[(.ref oa), (.long qq), (.int ii)] 4 = mkF m 0 #[.val (.ref oa), .val (.long qq), .second, .val (.int ii)] [] := by first | (simp [entryFrame, mkF, argsToLocals, Value.category]; done) | rfl
def Q12t (Z : State) (oa : Addr) (qq : Int64) (ii : Int32) (ra : Addr) (kr : ClassId) (hs : List (Int32 × Value)) (ma : Addr) (hdx : Int32) (pp : Int64) (h0 : Heap) (n0 : Nat) (vr : Option Value) (hr : Heap) (Lr : List Loc) : Prop := vr = some (.int (1 : Int32)) ∧ Fr n0 Lr ∧ hr = h0
set_option maxRecDepth 65536 in
set_option maxHeartbeats 40000000 in
theorem rm12t (l : Launch) (Z : State) (a0 : Array Value) (hw : ∀ d ∈ tables_1, d.before a0 Z = true) (ws : List Jvm.Cond) (oa : Addr) (qq : Int64) (ii : Int32) (ra : Addr) (kr : ClassId) (hs : List (Int32 × Value)) (ma : Addr) (hdx : Int32) (pp : Int64) (h0 : Heap) (n0 : Nat) (Z0 : n0 ≤ h0.size) (F_oa_head : Fld Z h0 oa "com/example/demarq/demarq/broker/SortedMessages" "head" "I" (.int hdx)) (F_oa_ring : Fld Z h0 oa "com/example/demarq/demarq/broker/SortedMessages" "ring" "[Lcom/example/demarq/demarq/broker/Message;" (.ref ra)) (V_ra : Arh Z h0 ra kr (.object "com/example/demarq/demarq/broker/Message") (16 : Int32) hs [] .null) (E_oa : Exa Z h0 oa "com/example/demarq/demarq/broker/SortedMessages") (hin : ¬ ((hdx + ii) % (16 : Int32)) < 0 ∧ ((hdx + ii) % (16 : Int32)) < (16 : Int32)) (hat : getH hs [] .null (((hdx + ii) % (16 : Int32))).toNatClampNeg = .ref ma) (E_ma : Exa Z h0 ma "com/example/demarq/demarq/broker/Message") (F_ma_position : Fld Z h0 ma "com/example/demarq/demarq/broker/Message" "position" "J" (.long pp)) (hcmp : ¬ (pp < qq)) :
    MetFree l (⟨"com/example/demarq/demarq/broker/SortedMessages", "lambda$countBelow$1", "(JI)Z"⟩ : MethodName) (head1 (Jvm.Cond.code (⟨"com/example/demarq/demarq/broker/SortedMessages", "lambda$countBelow$1", "(JI)Z"⟩ : MethodName) prog_12_method_15_code 4 (some .boolean) :: ws) ({ frames := 2, cells := 0, slots := 0, locals := 27 } : Room)) (fun aQ UQ => aQ = #[(.ref oa), (.long qq), (.int ii)] ∧ Z.Warmed39 UQ.vm ∧ UQ.heap = h0) (fun _ _ _ _ _ => True) (fun _ UQ oQ VQ => ∃ vQ LQ, oQ = .returned vQ ∧ Q12t Z oa qq ii ra kr hs ma hdx pp h0 n0 vQ VQ.heap LQ ∧ FrameEnd UQ oQ VQ LQ ({ frames := 2, cells := 0, slots := 0, locals := 27 } : Room).cells ({ frames := 2, cells := 0, slots := 0, locals := 27 } : Room).slots) := by
  refine MetFree.of_bodySF (plainFor_of_name own_pn0) hisR ?_
  intro p e s m args below meth c s₁ Bd hml0 hP hK
  obtain ⟨rfl, hZ, hh⟩ := hP
  have hx := Bd.exec
  have hby := Bd.bytes
  have hml : c.maxLocals = 4 := hml0
  have hown : s.vm.findClass "com/example/demarq/demarq/broker/SortedMessages" = some m.cls := findClass_of_methodNamed Bd.named
  have hnm := (name_of_methodNamed Bd.named Bd.method).1
  have X0 : Stand p l e ({ frames := 2, cells := 0, slots := 0, locals := 27 } : Room) s m #[(.ref oa), (.long qq), (.int ii)] below meth c s₁ [] 0 0 := Stand.of_body Bd
  have e0 : s₁.heap = h0 := by rw [← hh, Bd.state]; rfl
  have N0 := Fr.nil n0
  show Go p e below (EndQ s below (Q12t Z oa qq ii ra kr hs ma hdx pp h0 n0) ({ frames := 2, cells := 0, slots := 0, locals := 27 } : Room).cells ({ frames := 2, cells := 0, slots := 0, locals := 27 } : Room).slots) s₁ (entryFrame m #[(.ref oa), (.long qq), (.int ii)] 4)
  obtain ⟨Φ, hΦ⟩ : ∃ Φ, Φ = EndQ s below (Q12t Z oa qq ii ra kr hs ma hdx pp h0 n0) ({ frames := 2, cells := 0, slots := 0, locals := 27 } : Room).cells ({ frames := 2, cells := 0, slots := 0, locals := 27 } : Room).slots := ⟨_, rfl⟩
  rw [← hΦ, own_ef12t]
  show Go p e below Φ s₁ (mkF m 0 #[.val (.ref oa), .val (.long qq), .second, .val (.int ii)] [])
  refine Go.of (fun t k => XS.aloadN X0.here hx rfl (hb hby own_d12_0) rfl rfl  k) ?_
  show Go p e below Φ s₁ (mkF m 1 #[.val (.ref oa), .val (.long qq), .second, .val (.int ii)] [(.ref oa)])
  refine Go.of (fun t k => XS.iloadN X0.here hx rfl (hb hby own_d12_1) rfl  k) ?_
  show Go p e below Φ s₁ (mkF m 2 #[.val (.ref oa), .val (.long qq), .second, .val (.int ii)] [(.int ii), (.ref oa)])
  obtain ⟨cq1, q1, q1'⟩ := E_oa.cell
  obtain ⟨_, _, ⟨T1, L1, k1, n1⟩, -, X1, ⟨Lc1, hQ1, l1, y1, z1⟩, st1⟩ := X0.privateBack hx (y := (⟨"com/example/demarq/demarq/broker/SortedMessages", "get", "(I)Lcom/example/demarq/demarq/broker/Message;"⟩ : MethodName)) hown (mvT hZ (hw _ (List.mem_of_getElem? (i := 76) rfl))) (mvT hZ (hw _ (List.mem_of_getElem? (i := 77) rfl))) (own_privSel (z := (⟨"com/example/demarq/demarq/broker/SortedMessages", "isEmpty", "()Z"⟩ : MethodName)) (y := (⟨"com/example/demarq/demarq/broker/SortedMessages", "get", "(I)Lcom/example/demarq/demarq/broker/Message;"⟩ : MethodName)) hZ (hw _ (List.mem_of_getElem? (i := 29) rfl)) rfl (hw _ (List.mem_of_getElem? (i := 77) rfl)) (hw _ (List.mem_of_getElem? (i := 78) rfl)) (by decide)) (Cond.privateMethod_at (mvP hZ (hw _ (List.mem_of_getElem? (i := 78) rfl)) (args := #[]))) (mvT hZ (hw _ (List.mem_of_getElem? (i := 79) rfl))) (by decide) (backOf (W := 0) (rm13 l Z a0 hw [] oa ii ra kr hs ma hdx h0 n0 Z0 F_oa_head F_oa_ring V_ra E_oa hin hat) hZ (hw _ (List.mem_of_getElem? (i := 79) rfl)) (hw _ (List.mem_of_getElem? (i := 2) rfl)) (by decide) (by decide)) (g := (mkF m 2 #[.val (.ref oa), .val (.long qq), .second, .val (.int ii)] [(.int ii), (.ref oa)])) rfl (by rw [hml]; rfl) (Steps.refl _) (a := oa) (by rw [e0]; exact q1) q1' (argsL := [(.int ii)]) (rest := []) (lenOf own_pd1 rfl) rfl (by show 2 * 0 + _ ≤ _; exact Nat.le_of_eq rfl) (hb hby own_d12_2) (fun _ _ => ⟨rfl, e0, (by decide : 0 + 0 ≤ _), (by decide : 0 + 0 ≤ _)⟩)
  dsimp only [Pt.U, Pt.locs, Pt.cells, Pt.slots] at X1 l1 y1 z1 st1 hQ1
  subst l1 y1 z1
  obtain ⟨rfl, N1q, e1q⟩ := hQ1
  have N1 := Fr.app N0 N1q
  obtain ⟨lc1, X1, N1⟩ : ∃ lc, Stand p l e ({ frames := 2, cells := 0, slots := 0, locals := 27 } : Room) s m #[(.ref oa), (.long qq), (.int ii)] below meth c T1 lc 0 0 ∧ Fr n0 lc := ⟨_, X1, N1⟩
  refine Go.tr st1 ?_
  show Go p e below Φ T1 (mkF m 5 #[.val (.ref oa), .val (.long qq), .second, .val (.int ii)] [(.ref ma)])
  obtain ⟨cq2, kq2, q2a, q2b, q2c⟩ := isOf hZ (e1q) E_ma
  obtain ⟨_, _, ⟨T2, L2, k2, n2⟩, -, X2, ⟨Lc2, hQ2, l2, y2, z2⟩, st2⟩ := X1.virtualBack hx (y := (⟨"com/example/demarq/demarq/broker/Message", "position", "()J"⟩ : MethodName)) (z := (⟨"com/example/demarq/demarq/broker/Message", "position", "()J"⟩ : MethodName)) hown (mvT hZ (hw _ (List.mem_of_getElem? (i := 54) rfl))) (mvT hZ (hw _ (List.mem_of_getElem? (i := 55) rfl))) (notFace_of_selects (args := #[]) (mvT hZ (hw _ (List.mem_of_getElem? (i := 57) rfl)))) (mvT hZ (hw _ (List.mem_of_getElem? (i := 57) rfl))) (mvT hZ (hw _ (List.mem_of_getElem? (i := 56) rfl))) (by decide) (backOf (W := 0) (rm9 l Z a0 hw [] ma pp h0 n0 Z0 F_ma_position) hZ (hw _ (List.mem_of_getElem? (i := 58) rfl)) (hw _ (List.mem_of_getElem? (i := 15) rfl)) (by decide) (by decide)) q2a q2c (g := (mkF m 5 #[.val (.ref oa), .val (.long qq), .second, .val (.int ii)] [(.ref ma)])) rfl (by rw [hml]; rfl) (Steps.refl _) (argsL := []) (rest := []) (lenOf own_pd2 rfl) rfl (by show 2 * 0 + _ ≤ _; exact Nat.le_of_eq rfl) (hb hby own_d12_5) (fun _ _ => ⟨rfl, (e1q), (by decide : 0 + 0 ≤ _), (by decide : 0 + 0 ≤ _)⟩)
  dsimp only [Pt.U, Pt.locs, Pt.cells, Pt.slots] at X2 l2 y2 z2 st2 hQ2
  subst l2 y2 z2
  obtain ⟨rfl, N2q, e2q⟩ := hQ2
  have N2 := Fr.app N1 N2q
  obtain ⟨lc2, X2, N2⟩ : ∃ lc, Stand p l e ({ frames := 2, cells := 0, slots := 0, locals := 27 } : Room) s m #[(.ref oa), (.long qq), (.int ii)] below meth c T2 lc 0 0 ∧ Fr n0 lc := ⟨_, X2, N2⟩
  refine Go.tr st2 ?_
  show Go p e below Φ T2 (mkF m 8 #[.val (.ref oa), .val (.long qq), .second, .val (.int ii)] [(.long pp)])
  refine Go.of (fun t k => XS.lloadN X2.here hx rfl (hb hby own_d12_8) rfl  k) ?_
  show Go p e below Φ T2 (mkF m 9 #[.val (.ref oa), .val (.long qq), .second, .val (.int ii)] [(.long qq), (.long pp)])
  refine Go.of (fun t k => XT.lcmp X2.here hx rfl (hb hby own_d12_9) rfl k) ?_
  show Go p e below Φ T2 (mkF m 10 #[.val (.ref oa), .val (.long qq), .second, .val (.int ii)] [(.int (XT.cmpL pp qq))])
  refine Go.of (fun t k => XS.ifNo X2.here hx rfl (hb hby own_d12_10) rfl (XT.ll_lt_f hcmp) k) ?_
  show Go p e below Φ T2 (mkF m 13 #[.val (.ref oa), .val (.long qq), .second, .val (.int ii)] [])
  refine Go.of (fun t k => XS.iconst X2.here hx rfl (hb hby own_d12_13) k) ?_
  show Go p e below Φ T2 (mkF m 14 #[.val (.ref oa), .val (.long qq), .second, .val (.int ii)] [(.int (1 : Int32))])
  refine Go.of (fun t k => XS.goto X2.here hx rfl (pc0 := 14) (pc' := 18) rfl (hb hby own_d12_14) (by decide) (by decide) k) ?_
  show Go p e below Φ T2 (mkF m 18 #[.val (.ref oa), .val (.long qq), .second, .val (.int ii)] [(.int (1 : Int32))])
  rw [hΦ]
  refine Go.ret X2 hx Bd.notSynchronized Bd.returns rfl (Or.inl ⟨rfl, Or.inr (Or.inl rfl), _, rfl⟩) (hb hby own_d12_18) (by decide) (by decide) ?_
  rw [(e2q)]
  exact ⟨rfl, N2, rfl⟩
theorem own_ef12f (m : MethodId) (oa : Addr) (qq : Int64) (ii : Int32) : entryFrame m #[(.ref oa), (.long qq), (.int ii)] 4 = mkF m 0 #[.val (.ref oa), .val (.long qq), .second, .val (.int ii)] [] := by first | (simp [entryFrame, mkF, argsToLocals, Value.category]; done) | rfl
def Q12f (Z : State) (oa : Addr) (qq : Int64) (ii : Int32) (ra : Addr) (kr : ClassId) (hs : List (Int32 × Value)) (ma : Addr) (hdx : Int32) (pp : Int64) (h0 : Heap) (n0 : Nat) (vr : Option Value) (hr : Heap) (Lr : List Loc) : Prop := vr = some (.int (0 : Int32)) ∧ Fr n0 Lr ∧ hr = h0
set_option maxRecDepth 65536 in
set_option maxHeartbeats 40000000 in
theorem rm12f (l : Launch) (Z : State) (a0 : Array Value) (hw : ∀ d ∈ tables_1, d.before a0 Z = true) (ws : List Jvm.Cond) (oa : Addr) (qq : Int64) (ii : Int32) (ra : Addr) (kr : ClassId) (hs : List (Int32 × Value)) (ma : Addr) (hdx : Int32) (pp : Int64) (h0 : Heap) (n0 : Nat) (Z0 : n0 ≤ h0.size) (F_oa_head : Fld Z h0 oa "com/example/demarq/demarq/broker/SortedMessages" "head" "I" (.int hdx)) (F_oa_ring : Fld Z h0 oa "com/example/demarq/demarq/broker/SortedMessages" "ring" "[Lcom/example/demarq/demarq/broker/Message;" (.ref ra)) (V_ra : Arh Z h0 ra kr (.object "com/example/demarq/demarq/broker/Message") (16 : Int32) hs [] .null) (E_oa : Exa Z h0 oa "com/example/demarq/demarq/broker/SortedMessages") (hin : ¬ ((hdx + ii) % (16 : Int32)) < 0 ∧ ((hdx + ii) % (16 : Int32)) < (16 : Int32)) (hat : getH hs [] .null (((hdx + ii) % (16 : Int32))).toNatClampNeg = .ref ma) (E_ma : Exa Z h0 ma "com/example/demarq/demarq/broker/Message") (F_ma_position : Fld Z h0 ma "com/example/demarq/demarq/broker/Message" "position" "J" (.long pp)) (hcmp : pp < qq) :
    MetFree l (⟨"com/example/demarq/demarq/broker/SortedMessages", "lambda$countBelow$1", "(JI)Z"⟩ : MethodName) (head1 (Jvm.Cond.code (⟨"com/example/demarq/demarq/broker/SortedMessages", "lambda$countBelow$1", "(JI)Z"⟩ : MethodName) prog_12_method_15_code 4 (some .boolean) :: ws) ({ frames := 2, cells := 0, slots := 0, locals := 27 } : Room)) (fun aQ UQ => aQ = #[(.ref oa), (.long qq), (.int ii)] ∧ Z.Warmed39 UQ.vm ∧ UQ.heap = h0) (fun _ _ _ _ _ => True) (fun _ UQ oQ VQ => ∃ vQ LQ, oQ = .returned vQ ∧ Q12f Z oa qq ii ra kr hs ma hdx pp h0 n0 vQ VQ.heap LQ ∧ FrameEnd UQ oQ VQ LQ ({ frames := 2, cells := 0, slots := 0, locals := 27 } : Room).cells ({ frames := 2, cells := 0, slots := 0, locals := 27 } : Room).slots) := by
  refine MetFree.of_bodySF (plainFor_of_name own_pn0) hisR ?_
  intro p e s m args below meth c s₁ Bd hml0 hP hK
  obtain ⟨rfl, hZ, hh⟩ := hP
  have hx := Bd.exec
  have hby := Bd.bytes
  have hml : c.maxLocals = 4 := hml0
  have hown : s.vm.findClass "com/example/demarq/demarq/broker/SortedMessages" = some m.cls := findClass_of_methodNamed Bd.named
  have hnm := (name_of_methodNamed Bd.named Bd.method).1
  have X0 : Stand p l e ({ frames := 2, cells := 0, slots := 0, locals := 27 } : Room) s m #[(.ref oa), (.long qq), (.int ii)] below meth c s₁ [] 0 0 := Stand.of_body Bd
  have e0 : s₁.heap = h0 := by rw [← hh, Bd.state]; rfl
  have N0 := Fr.nil n0
  show Go p e below (EndQ s below (Q12f Z oa qq ii ra kr hs ma hdx pp h0 n0) ({ frames := 2, cells := 0, slots := 0, locals := 27 } : Room).cells ({ frames := 2, cells := 0, slots := 0, locals := 27 } : Room).slots) s₁ (entryFrame m #[(.ref oa), (.long qq), (.int ii)] 4)
  obtain ⟨Φ, hΦ⟩ : ∃ Φ, Φ = EndQ s below (Q12f Z oa qq ii ra kr hs ma hdx pp h0 n0) ({ frames := 2, cells := 0, slots := 0, locals := 27 } : Room).cells ({ frames := 2, cells := 0, slots := 0, locals := 27 } : Room).slots := ⟨_, rfl⟩
  rw [← hΦ, own_ef12f]
  show Go p e below Φ s₁ (mkF m 0 #[.val (.ref oa), .val (.long qq), .second, .val (.int ii)] [])
  refine Go.of (fun t k => XS.aloadN X0.here hx rfl (hb hby own_d12_0) rfl rfl  k) ?_
  show Go p e below Φ s₁ (mkF m 1 #[.val (.ref oa), .val (.long qq), .second, .val (.int ii)] [(.ref oa)])
  refine Go.of (fun t k => XS.iloadN X0.here hx rfl (hb hby own_d12_1) rfl  k) ?_
  show Go p e below Φ s₁ (mkF m 2 #[.val (.ref oa), .val (.long qq), .second, .val (.int ii)] [(.int ii), (.ref oa)])
  obtain ⟨cq1, q1, q1'⟩ := E_oa.cell
  obtain ⟨_, _, ⟨T1, L1, k1, n1⟩, -, X1, ⟨Lc1, hQ1, l1, y1, z1⟩, st1⟩ := X0.privateBack hx (y := (⟨"com/example/demarq/demarq/broker/SortedMessages", "get", "(I)Lcom/example/demarq/demarq/broker/Message;"⟩ : MethodName)) hown (mvT hZ (hw _ (List.mem_of_getElem? (i := 76) rfl))) (mvT hZ (hw _ (List.mem_of_getElem? (i := 77) rfl))) (own_privSel (z := (⟨"com/example/demarq/demarq/broker/SortedMessages", "isEmpty", "()Z"⟩ : MethodName)) (y := (⟨"com/example/demarq/demarq/broker/SortedMessages", "get", "(I)Lcom/example/demarq/demarq/broker/Message;"⟩ : MethodName)) hZ (hw _ (List.mem_of_getElem? (i := 29) rfl)) rfl (hw _ (List.mem_of_getElem? (i := 77) rfl)) (hw _ (List.mem_of_getElem? (i := 78) rfl)) (by decide)) (Cond.privateMethod_at (mvP hZ (hw _ (List.mem_of_getElem? (i := 78) rfl)) (args := #[]))) (mvT hZ (hw _ (List.mem_of_getElem? (i := 79) rfl))) (by decide) (backOf (W := 0) (rm13 l Z a0 hw [] oa ii ra kr hs ma hdx h0 n0 Z0 F_oa_head F_oa_ring V_ra E_oa hin hat) hZ (hw _ (List.mem_of_getElem? (i := 79) rfl)) (hw _ (List.mem_of_getElem? (i := 2) rfl)) (by decide) (by decide)) (g := (mkF m 2 #[.val (.ref oa), .val (.long qq), .second, .val (.int ii)] [(.int ii), (.ref oa)])) rfl (by rw [hml]; rfl) (Steps.refl _) (a := oa) (by rw [e0]; exact q1) q1' (argsL := [(.int ii)]) (rest := []) (lenOf own_pd1 rfl) rfl (by show 2 * 0 + _ ≤ _; exact Nat.le_of_eq rfl) (hb hby own_d12_2) (fun _ _ => ⟨rfl, e0, (by decide : 0 + 0 ≤ _), (by decide : 0 + 0 ≤ _)⟩)
  dsimp only [Pt.U, Pt.locs, Pt.cells, Pt.slots] at X1 l1 y1 z1 st1 hQ1
  subst l1 y1 z1
  obtain ⟨rfl, N1q, e1q⟩ := hQ1
  have N1 := Fr.app N0 N1q
  obtain ⟨lc1, X1, N1⟩ : ∃ lc, Stand p l e ({ frames := 2, cells := 0, slots := 0, locals := 27 } : Room) s m #[(.ref oa), (.long qq), (.int ii)] below meth c T1 lc 0 0 ∧ Fr n0 lc := ⟨_, X1, N1⟩
  refine Go.tr st1 ?_
  show Go p e below Φ T1 (mkF m 5 #[.val (.ref oa), .val (.long qq), .second, .val (.int ii)] [(.ref ma)])
  obtain ⟨cq2, kq2, q2a, q2b, q2c⟩ := isOf hZ (e1q) E_ma
  obtain ⟨_, _, ⟨T2, L2, k2, n2⟩, -, X2, ⟨Lc2, hQ2, l2, y2, z2⟩, st2⟩ := X1.virtualBack hx (y := (⟨"com/example/demarq/demarq/broker/Message", "position", "()J"⟩ : MethodName)) (z := (⟨"com/example/demarq/demarq/broker/Message", "position", "()J"⟩ : MethodName)) hown (mvT hZ (hw _ (List.mem_of_getElem? (i := 54) rfl))) (mvT hZ (hw _ (List.mem_of_getElem? (i := 55) rfl))) (notFace_of_selects (args := #[]) (mvT hZ (hw _ (List.mem_of_getElem? (i := 57) rfl)))) (mvT hZ (hw _ (List.mem_of_getElem? (i := 57) rfl))) (mvT hZ (hw _ (List.mem_of_getElem? (i := 56) rfl))) (by decide) (backOf (W := 0) (rm9 l Z a0 hw [] ma pp h0 n0 Z0 F_ma_position) hZ (hw _ (List.mem_of_getElem? (i := 58) rfl)) (hw _ (List.mem_of_getElem? (i := 15) rfl)) (by decide) (by decide)) q2a q2c (g := (mkF m 5 #[.val (.ref oa), .val (.long qq), .second, .val (.int ii)] [(.ref ma)])) rfl (by rw [hml]; rfl) (Steps.refl _) (argsL := []) (rest := []) (lenOf own_pd2 rfl) rfl (by show 2 * 0 + _ ≤ _; exact Nat.le_of_eq rfl) (hb hby own_d12_5) (fun _ _ => ⟨rfl, (e1q), (by decide : 0 + 0 ≤ _), (by decide : 0 + 0 ≤ _)⟩)
  dsimp only [Pt.U, Pt.locs, Pt.cells, Pt.slots] at X2 l2 y2 z2 st2 hQ2
  subst l2 y2 z2
  obtain ⟨rfl, N2q, e2q⟩ := hQ2
  have N2 := Fr.app N1 N2q
  obtain ⟨lc2, X2, N2⟩ : ∃ lc, Stand p l e ({ frames := 2, cells := 0, slots := 0, locals := 27 } : Room) s m #[(.ref oa), (.long qq), (.int ii)] below meth c T2 lc 0 0 ∧ Fr n0 lc := ⟨_, X2, N2⟩
  refine Go.tr st2 ?_
  show Go p e below Φ T2 (mkF m 8 #[.val (.ref oa), .val (.long qq), .second, .val (.int ii)] [(.long pp)])
  refine Go.of (fun t k => XS.lloadN X2.here hx rfl (hb hby own_d12_8) rfl  k) ?_
  show Go p e below Φ T2 (mkF m 9 #[.val (.ref oa), .val (.long qq), .second, .val (.int ii)] [(.long qq), (.long pp)])
  refine Go.of (fun t k => XT.lcmp X2.here hx rfl (hb hby own_d12_9) rfl k) ?_
  show Go p e below Φ T2 (mkF m 10 #[.val (.ref oa), .val (.long qq), .second, .val (.int ii)] [(.int (XT.cmpL pp qq))])
  refine Go.of (fun t k => XS.ifYes X2.here hx rfl (pc0 := 10) (pc' := 17) rfl (hb hby own_d12_10) rfl (XT.ll_lt_t hcmp) (by decide) (by decide) k) ?_
  show Go p e below Φ T2 (mkF m 17 #[.val (.ref oa), .val (.long qq), .second, .val (.int ii)] [])
  refine Go.of (fun t k => XS.iconst X2.here hx rfl (hb hby own_d12_17) k) ?_
  show Go p e below Φ T2 (mkF m 18 #[.val (.ref oa), .val (.long qq), .second, .val (.int ii)] [(.int (0 : Int32))])
  rw [hΦ]
  refine Go.ret X2 hx Bd.notSynchronized Bd.returns rfl (Or.inl ⟨rfl, Or.inr (Or.inl rfl), _, rfl⟩) (hb hby own_d12_18) (by decide) (by decide) ?_
  rw [(e2q)]
  exact ⟨rfl, N2, rfl⟩
theorem own_ef11z (m : MethodId) (nn : Int32) (fa : Addr) : entryFrame m #[(.int nn), (.ref fa)] 5 = mkF m 0 #[.val (.int nn), .val (.ref fa), .unset, .unset, .unset] [] := by first | (simp [entryFrame, mkF, argsToLocals, Value.category]; done) | rfl
def Q11z (Z : State) (nn : Int32) (fa : Addr) (oa : Addr) (qq : Int64) (cK : ClassId) (ra : Addr) (kr : ClassId) (hs : List (Int32 × Value)) (xa : Addr) (hdx : Int32) (px : Int64) (h0 : Heap) (n0 : Nat) (vr : Option Value) (hr : Heap) (Lr : List Loc) : Prop := vr = some (.int (0 : Int32)) ∧ Fr n0 Lr ∧ hr = h0
set_option maxRecDepth 65536 in
set_option maxHeartbeats 40000000 in
theorem rm11z (l : Launch) (Z : State) (a0 : Array Value) (hw : ∀ d ∈ tables_1, d.before a0 Z = true) (ws : List Jvm.Cond) (nn : Int32) (fa : Addr) (oa : Addr) (qq : Int64) (cK : ClassId) (ra : Addr) (kr : ClassId) (hs : List (Int32 × Value)) (xa : Addr) (hdx : Int32) (px : Int64) (h0 : Heap) (n0 : Nat) (Z0 : n0 ≤ h0.size) (F_oa_head : Fld Z h0 oa "com/example/demarq/demarq/broker/SortedMessages" "head" "I" (.int hdx)) (F_oa_ring : Fld Z h0 oa "com/example/demarq/demarq/broker/SortedMessages" "ring" "[Lcom/example/demarq/demarq/broker/Message;" (.ref ra)) (V_ra : Arh Z h0 ra kr (.object "com/example/demarq/demarq/broker/Message") (16 : Int32) hs [] .null) (E_oa : Exa Z h0 oa "com/example/demarq/demarq/broker/SortedMessages") (hin0 : ¬ ((hdx + (0 : Int32)) % (16 : Int32)) < 0 ∧ ((hdx + (0 : Int32)) % (16 : Int32)) < (16 : Int32)) (hat0 : getH hs [] .null (((hdx + (0 : Int32)) % (16 : Int32))).toNatClampNeg = .ref xa) (E_xa : Exa Z h0 xa "com/example/demarq/demarq/broker/Message") (F_xa_position : Fld Z h0 xa "com/example/demarq/demarq/broker/Message" "position" "J" (.long px)) (hcmp : ¬ (px < qq)) (hnz : ¬ (nn = (0 : Int32))) (hM : h0[fa]? = some (own_cell cK oa qq)) (hL : own_Lam cK Z) :
    MetFree l (⟨"com/example/demarq/demarq/broker/SortedMessages", "lowestIndex", "(ILjava/util/function/IntPredicate;)I"⟩ : MethodName) (head1 (Jvm.Cond.code (⟨"com/example/demarq/demarq/broker/SortedMessages", "lowestIndex", "(ILjava/util/function/IntPredicate;)I"⟩ : MethodName) prog_12_method_9_code 5 (some .int) :: ws) ({ frames := 4, cells := 0, slots := 0, locals := 55 } : Room)) (fun aQ UQ => aQ = #[(.int nn), (.ref fa)] ∧ Z.Warmed39 UQ.vm ∧ UQ.heap = h0) (fun _ _ _ _ _ => True) (fun _ UQ oQ VQ => ∃ vQ LQ, oQ = .returned vQ ∧ Q11z Z nn fa oa qq cK ra kr hs xa hdx px h0 n0 vQ VQ.heap LQ ∧ FrameEnd UQ oQ VQ LQ ({ frames := 4, cells := 0, slots := 0, locals := 55 } : Room).cells ({ frames := 4, cells := 0, slots := 0, locals := 55 } : Room).slots) := by
  refine MetFree.of_bodySF (plainFor_of_name own_pn0) hisR ?_
  intro p e s m args below meth c s₁ Bd hml0 hP hK
  obtain ⟨rfl, hZ, hh⟩ := hP
  have hx := Bd.exec
  have hby := Bd.bytes
  have hml : c.maxLocals = 5 := hml0
  have hown : s.vm.findClass "com/example/demarq/demarq/broker/SortedMessages" = some m.cls := findClass_of_methodNamed Bd.named
  have hnm := (name_of_methodNamed Bd.named Bd.method).1
  have X0 : Stand p l e ({ frames := 4, cells := 0, slots := 0, locals := 55 } : Room) s m #[(.int nn), (.ref fa)] below meth c s₁ [] 0 0 := Stand.of_body Bd
  have e0 : s₁.heap = h0 := by rw [← hh, Bd.state]; rfl
  have N0 := Fr.nil n0
  show Go p e below (EndQ s below (Q11z Z nn fa oa qq cK ra kr hs xa hdx px h0 n0) ({ frames := 4, cells := 0, slots := 0, locals := 55 } : Room).cells ({ frames := 4, cells := 0, slots := 0, locals := 55 } : Room).slots) s₁ (entryFrame m #[(.int nn), (.ref fa)] 5)
  obtain ⟨Φ, hΦ⟩ : ∃ Φ, Φ = EndQ s below (Q11z Z nn fa oa qq cK ra kr hs xa hdx px h0 n0) ({ frames := 4, cells := 0, slots := 0, locals := 55 } : Room).cells ({ frames := 4, cells := 0, slots := 0, locals := 55 } : Room).slots := ⟨_, rfl⟩
  rw [← hΦ, own_ef11z]
  show Go p e below Φ s₁ (mkF m 0 #[.val (.int nn), .val (.ref fa), .unset, .unset, .unset] [])
  refine Go.of (fun t k => XS.iloadN X0.here hx rfl (hb hby own_d11_0) rfl  k) ?_
  show Go p e below Φ s₁ (mkF m 1 #[.val (.int nn), .val (.ref fa), .unset, .unset, .unset] [(.int nn)])
  refine Go.of (fun t k => XS.ifNo X0.here hx rfl (hb hby own_d11_1) rfl (XT.i0_eq_f hnz) k) ?_
  show Go p e below Φ s₁ (mkF m 4 #[.val (.int nn), .val (.ref fa), .unset, .unset, .unset] [])
  refine Go.of (fun t k => XS.aloadN X0.here hx rfl (hb hby own_d11_4) rfl rfl  k) ?_
  show Go p e below Φ s₁ (mkF m 5 #[.val (.int nn), .val (.ref fa), .unset, .unset, .unset] [(.ref fa)])
  refine Go.of (fun t k => XS.iconst X0.here hx rfl (hb hby own_d11_5) k) ?_
  show Go p e below Φ s₁ (mkF m 6 #[.val (.int nn), .val (.ref fa), .unset, .unset, .unset] [(.int (0 : Int32)), (.ref fa)])
  obtain ⟨_, _, ⟨T1, L1, k1, n1⟩, -, X1, ⟨rfl, e1q, Lc1, N1q, l1, y1, z1⟩, st1⟩ := Jvm.Stand.fnAt X0 hx (xi := own_xi) hown (own_fnW hZ (hw _ (List.mem_of_getElem? (i := 70) rfl)) (hw _ (List.mem_of_getElem? (i := 71) rfl)) (hw _ (List.mem_of_getElem? (i := 72) rfl))) (by decide) (own_LamF (own_LamW hZ hL)) (own_fwd (W := 0) hx hZ hL (rm12t l Z a0 hw [] oa qq (0 : Int32) ra kr hs xa hdx px h0 n0 Z0 F_oa_head F_oa_ring V_ra E_oa hin0 hat0 E_xa F_xa_position hcmp) (fun _ _ _ q => q) rfl hM E_oa (hw _ (List.mem_of_getElem? (i := 75) rfl)) (hw _ (List.mem_of_getElem? (i := 2) rfl)) (hw _ (List.mem_of_getElem? (i := 29) rfl)) (hw _ (List.mem_of_getElem? (i := 73) rfl)) (hw _ (List.mem_of_getElem? (i := 74) rfl)) rfl rfl (by decide) (by decide)) (fun _ _ => rfl) ⟨own_cell cK oa qq, own_at_ e0 hM, rfl, rfl⟩ (g := (mkF m 6 #[.val (.int nn), .val (.ref fa), .unset, .unset, .unset] [(.int (0 : Int32)), (.ref fa)])) rfl (by rw [hml]; rfl) (Steps.refl _) (argsL := [(.int (0 : Int32))]) (rest := []) (lenOf own_pd3 rfl) rfl (by show 2 * 0 + _ ≤ _; exact Nat.le_of_eq rfl) (hb hby own_d11_6) (fun _ _ => ⟨rfl, e0, Nat.zero_le _, Nat.zero_le _⟩)
  dsimp only [Pt.U, Pt.locs, Pt.cells, Pt.slots] at X1 l1 y1 z1 st1 e1q
  subst l1 y1 z1
  have N1 := Fr.app N0 N1q
  obtain ⟨lc1, X1, N1⟩ : ∃ lc, Stand p l e ({ frames := 4, cells := 0, slots := 0, locals := 55 } : Room) s m #[(.int nn), (.ref fa)] below meth c T1 lc 0 0 ∧ Fr n0 lc := ⟨_, X1, N1⟩
  refine Go.tr st1 ?_
  show Go p e below Φ T1 (mkF m 11 #[.val (.int nn), .val (.ref fa), .unset, .unset, .unset] [(.int (1 : Int32))])
  refine Go.of (fun t k => XS.ifNo X1.here hx rfl (hb hby own_d11_11) rfl (XT.i0_eq_f (by decide)) k) ?_
  show Go p e below Φ T1 (mkF m 14 #[.val (.int nn), .val (.ref fa), .unset, .unset, .unset] [])
  refine Go.of (fun t k => XS.iconst X1.here hx rfl (hb hby own_d11_14) k) ?_
  show Go p e below Φ T1 (mkF m 15 #[.val (.int nn), .val (.ref fa), .unset, .unset, .unset] [(.int (0 : Int32))])
  rw [hΦ]
  refine Go.ret X1 hx Bd.notSynchronized Bd.returns rfl (Or.inl ⟨rfl, Or.inl rfl, _, rfl⟩) (hb hby own_d11_15) (by decide) (by decide) ?_
  rw [e1q]
  exact ⟨rfl, N1, rfl⟩
theorem own_ef11o (m : MethodId) (fa : Addr) : entryFrame m #[(.int (2 : Int32)), (.ref fa)] 5 = mkF m 0 #[.val (.int (2 : Int32)), .val (.ref fa), .unset, .unset, .unset] [] := by first | (simp [entryFrame, mkF, argsToLocals, Value.category]; done) | rfl
def Q11o (Z : State) (fa : Addr) (oa : Addr) (qq : Int64) (cK : ClassId) (ra : Addr) (kr : ClassId) (hs : List (Int32 × Value)) (xa : Addr) (ya : Addr) (hdx : Int32) (px : Int64) (py : Int64) (h0 : Heap) (n0 : Nat) (vr : Option Value) (hr : Heap) (Lr : List Loc) : Prop := vr = some (.int (1 : Int32)) ∧ Fr n0 Lr ∧ hr = h0
set_option maxRecDepth 65536 in
set_option maxHeartbeats 40000000 in
theorem rm11o (l : Launch) (Z : State) (a0 : Array Value) (hw : ∀ d ∈ tables_1, d.before a0 Z = true) (ws : List Jvm.Cond) (fa : Addr) (oa : Addr) (qq : Int64) (cK : ClassId) (ra : Addr) (kr : ClassId) (hs : List (Int32 × Value)) (xa : Addr) (ya : Addr) (hdx : Int32) (px : Int64) (py : Int64) (h0 : Heap) (n0 : Nat) (Z0 : n0 ≤ h0.size) (F_oa_head : Fld Z h0 oa "com/example/demarq/demarq/broker/SortedMessages" "head" "I" (.int hdx)) (F_oa_ring : Fld Z h0 oa "com/example/demarq/demarq/broker/SortedMessages" "ring" "[Lcom/example/demarq/demarq/broker/Message;" (.ref ra)) (V_ra : Arh Z h0 ra kr (.object "com/example/demarq/demarq/broker/Message") (16 : Int32) hs [] .null) (E_oa : Exa Z h0 oa "com/example/demarq/demarq/broker/SortedMessages") (hin0 : ¬ ((hdx + (0 : Int32)) % (16 : Int32)) < 0 ∧ ((hdx + (0 : Int32)) % (16 : Int32)) < (16 : Int32)) (hat0 : getH hs [] .null (((hdx + (0 : Int32)) % (16 : Int32))).toNatClampNeg = .ref xa) (E_xa : Exa Z h0 xa "com/example/demarq/demarq/broker/Message") (F_xa_position : Fld Z h0 xa "com/example/demarq/demarq/broker/Message" "position" "J" (.long px)) (hin1 : ¬ ((hdx + (1 : Int32)) % (16 : Int32)) < 0 ∧ ((hdx + (1 : Int32)) % (16 : Int32)) < (16 : Int32)) (hat1 : getH hs [] .null (((hdx + (1 : Int32)) % (16 : Int32))).toNatClampNeg = .ref ya) (E_ya : Exa Z h0 ya "com/example/demarq/demarq/broker/Message") (F_ya_position : Fld Z h0 ya "com/example/demarq/demarq/broker/Message" "position" "J" (.long py)) (hlt : px < qq) (hge : ¬ (py < qq)) (hM : h0[fa]? = some (own_cell cK oa qq)) (hL : own_Lam cK Z) :
    MetFree l (⟨"com/example/demarq/demarq/broker/SortedMessages", "lowestIndex", "(ILjava/util/function/IntPredicate;)I"⟩ : MethodName) (head1 (Jvm.Cond.code (⟨"com/example/demarq/demarq/broker/SortedMessages", "lowestIndex", "(ILjava/util/function/IntPredicate;)I"⟩ : MethodName) prog_12_method_9_code 5 (some .int) :: ws) ({ frames := 4, cells := 0, slots := 0, locals := 55 } : Room)) (fun aQ UQ => aQ = #[(.int (2 : Int32)), (.ref fa)] ∧ Z.Warmed39 UQ.vm ∧ UQ.heap = h0) (fun _ _ _ _ _ => True) (fun _ UQ oQ VQ => ∃ vQ LQ, oQ = .returned vQ ∧ Q11o Z fa oa qq cK ra kr hs xa ya hdx px py h0 n0 vQ VQ.heap LQ ∧ FrameEnd UQ oQ VQ LQ ({ frames := 4, cells := 0, slots := 0, locals := 55 } : Room).cells ({ frames := 4, cells := 0, slots := 0, locals := 55 } : Room).slots) := by
  refine MetFree.of_bodySF (plainFor_of_name own_pn0) hisR ?_
  intro p e s m args below meth c s₁ Bd hml0 hP hK
  obtain ⟨rfl, hZ, hh⟩ := hP
  have hx := Bd.exec
  have hby := Bd.bytes
  have hml : c.maxLocals = 5 := hml0
  have hown : s.vm.findClass "com/example/demarq/demarq/broker/SortedMessages" = some m.cls := findClass_of_methodNamed Bd.named
  have hnm := (name_of_methodNamed Bd.named Bd.method).1
  have X0 : Stand p l e ({ frames := 4, cells := 0, slots := 0, locals := 55 } : Room) s m #[(.int (2 : Int32)), (.ref fa)] below meth c s₁ [] 0 0 := Stand.of_body Bd
  have e0 : s₁.heap = h0 := by rw [← hh, Bd.state]; rfl
  have N0 := Fr.nil n0
  show Go p e below (EndQ s below (Q11o Z fa oa qq cK ra kr hs xa ya hdx px py h0 n0) ({ frames := 4, cells := 0, slots := 0, locals := 55 } : Room).cells ({ frames := 4, cells := 0, slots := 0, locals := 55 } : Room).slots) s₁ (entryFrame m #[(.int (2 : Int32)), (.ref fa)] 5)
  obtain ⟨Φ, hΦ⟩ : ∃ Φ, Φ = EndQ s below (Q11o Z fa oa qq cK ra kr hs xa ya hdx px py h0 n0) ({ frames := 4, cells := 0, slots := 0, locals := 55 } : Room).cells ({ frames := 4, cells := 0, slots := 0, locals := 55 } : Room).slots := ⟨_, rfl⟩
  rw [← hΦ, own_ef11o]
  show Go p e below Φ s₁ (mkF m 0 #[.val (.int (2 : Int32)), .val (.ref fa), .unset, .unset, .unset] [])
  refine Go.of (fun t k => XS.iloadN X0.here hx rfl (hb hby own_d11_0) rfl  k) ?_
  show Go p e below Φ s₁ (mkF m 1 #[.val (.int (2 : Int32)), .val (.ref fa), .unset, .unset, .unset] [(.int (2 : Int32))])
  refine Go.of (fun t k => XS.ifNo X0.here hx rfl (hb hby own_d11_1) rfl (XT.i0_eq_f (by decide)) k) ?_
  show Go p e below Φ s₁ (mkF m 4 #[.val (.int (2 : Int32)), .val (.ref fa), .unset, .unset, .unset] [])
  refine Go.of (fun t k => XS.aloadN X0.here hx rfl (hb hby own_d11_4) rfl rfl  k) ?_
  show Go p e below Φ s₁ (mkF m 5 #[.val (.int (2 : Int32)), .val (.ref fa), .unset, .unset, .unset] [(.ref fa)])
  refine Go.of (fun t k => XS.iconst X0.here hx rfl (hb hby own_d11_5) k) ?_
  show Go p e below Φ s₁ (mkF m 6 #[.val (.int (2 : Int32)), .val (.ref fa), .unset, .unset, .unset] [(.int (0 : Int32)), (.ref fa)])
  obtain ⟨_, _, ⟨T1, L1, k1, n1⟩, -, X1, ⟨rfl, e1q, Lc1, N1q, l1, y1, z1⟩, st1⟩ := Jvm.Stand.fnAt X0 hx (xi := own_xi) hown (own_fnW hZ (hw _ (List.mem_of_getElem? (i := 70) rfl)) (hw _ (List.mem_of_getElem? (i := 71) rfl)) (hw _ (List.mem_of_getElem? (i := 72) rfl))) (by decide) (own_LamF (own_LamW hZ hL)) (own_fwd (W := 0) hx hZ hL (rm12f l Z a0 hw [] oa qq (0 : Int32) ra kr hs xa hdx px h0 n0 Z0 F_oa_head F_oa_ring V_ra E_oa hin0 hat0 E_xa F_xa_position hlt) (fun _ _ _ q => q) rfl hM E_oa (hw _ (List.mem_of_getElem? (i := 75) rfl)) (hw _ (List.mem_of_getElem? (i := 2) rfl)) (hw _ (List.mem_of_getElem? (i := 29) rfl)) (hw _ (List.mem_of_getElem? (i := 73) rfl)) (hw _ (List.mem_of_getElem? (i := 74) rfl)) rfl rfl (by decide) (by decide)) (fun _ _ => rfl) ⟨own_cell cK oa qq, own_at_ e0 hM, rfl, rfl⟩ (g := (mkF m 6 #[.val (.int (2 : Int32)), .val (.ref fa), .unset, .unset, .unset] [(.int (0 : Int32)), (.ref fa)])) rfl (by rw [hml]; rfl) (Steps.refl _) (argsL := [(.int (0 : Int32))]) (rest := []) (lenOf own_pd3 rfl) rfl (by show 2 * 0 + _ ≤ _; exact Nat.le_of_eq rfl) (hb hby own_d11_6) (fun _ _ => ⟨rfl, e0, Nat.zero_le _, Nat.zero_le _⟩)
  dsimp only [Pt.U, Pt.locs, Pt.cells, Pt.slots] at X1 l1 y1 z1 st1 e1q
  subst l1 y1 z1
  have N1 := Fr.app N0 N1q
  obtain ⟨lc1, X1, N1⟩ : ∃ lc, Stand p l e ({ frames := 4, cells := 0, slots := 0, locals := 55 } : Room) s m #[(.int (2 : Int32)), (.ref fa)] below meth c T1 lc 0 0 ∧ Fr n0 lc := ⟨_, X1, N1⟩
  refine Go.tr st1 ?_
  show Go p e below Φ T1 (mkF m 11 #[.val (.int (2 : Int32)), .val (.ref fa), .unset, .unset, .unset] [(.int (0 : Int32))])
  refine Go.of (fun t k => XS.ifYes X1.here hx rfl (pc0 := 11) (pc' := 16) rfl (hb hby own_d11_11) rfl (XT.i0_eq_t rfl) (by decide) (by decide) k) ?_
  show Go p e below Φ T1 (mkF m 16 #[.val (.int (2 : Int32)), .val (.ref fa), .unset, .unset, .unset] [])
  refine Go.of (fun t k => XS.iconst X1.here hx rfl (hb hby own_d11_16) k) ?_
  show Go p e below Φ T1 (mkF m 17 #[.val (.int (2 : Int32)), .val (.ref fa), .unset, .unset, .unset] [(.int (0 : Int32))])
  refine Go.of (fun t k => XS.istoreN X1.here hx rfl (hb hby own_d11_17) rfl (l' := #[.val (.int (2 : Int32)), .val (.ref fa), .val (.int (0 : Int32)), .unset, .unset]) rfl k) ?_
  show Go p e below Φ T1 (mkF m 18 #[.val (.int (2 : Int32)), .val (.ref fa), .val (.int (0 : Int32)), .unset, .unset] [])
  refine Go.of (fun t k => XS.iloadN X1.here hx rfl (hb hby own_d11_18) rfl  k) ?_
  show Go p e below Φ T1 (mkF m 19 #[.val (.int (2 : Int32)), .val (.ref fa), .val (.int (0 : Int32)), .unset, .unset] [(.int (2 : Int32))])
  refine Go.of (fun t k => XS.istoreN X1.here hx rfl (hb hby own_d11_19) rfl (l' := #[.val (.int (2 : Int32)), .val (.ref fa), .val (.int (0 : Int32)), .val (.int (2 : Int32)), .unset]) rfl k) ?_
  show Go p e below Φ T1 (mkF m 20 #[.val (.int (2 : Int32)), .val (.ref fa), .val (.int (0 : Int32)), .val (.int (2 : Int32)), .unset] [])
  refine Go.of (fun t k => XS.iloadN X1.here hx rfl (hb hby own_d11_20) rfl  k) ?_
  show Go p e below Φ T1 (mkF m 21 #[.val (.int (2 : Int32)), .val (.ref fa), .val (.int (0 : Int32)), .val (.int (2 : Int32)), .unset] [(.int (0 : Int32))])
  refine Go.of (fun t k => XS.iloadN X1.here hx rfl (hb hby own_d11_21) rfl  k) ?_
  show Go p e below Φ T1 (mkF m 22 #[.val (.int (2 : Int32)), .val (.ref fa), .val (.int (0 : Int32)), .val (.int (2 : Int32)), .unset] [(.int (2 : Int32)), (.int (0 : Int32))])
  refine Go.of (fun t k => XS.icmpNo X1.here hx rfl (hb hby own_d11_22) rfl (XT.ii_ge_f (by decide)) k) ?_
  show Go p e below Φ T1 (mkF m 25 #[.val (.int (2 : Int32)), .val (.ref fa), .val (.int (0 : Int32)), .val (.int (2 : Int32)), .unset] [])
  refine Go.of (fun t k => XS.iloadN X1.here hx rfl (hb hby own_d11_25) rfl  k) ?_
  show Go p e below Φ T1 (mkF m 26 #[.val (.int (2 : Int32)), .val (.ref fa), .val (.int (0 : Int32)), .val (.int (2 : Int32)), .unset] [(.int (0 : Int32))])
  refine Go.of (fun t k => XS.iloadN X1.here hx rfl (hb hby own_d11_26) rfl  k) ?_
  show Go p e below Φ T1 (mkF m 27 #[.val (.int (2 : Int32)), .val (.ref fa), .val (.int (0 : Int32)), .val (.int (2 : Int32)), .unset] [(.int (2 : Int32)), (.int (0 : Int32))])
  refine Go.of (fun t k => XS.iadd X1.here hx rfl (hb hby own_d11_27) rfl k) ?_
  show Go p e below Φ T1 (mkF m 28 #[.val (.int (2 : Int32)), .val (.ref fa), .val (.int (0 : Int32)), .val (.int (2 : Int32)), .unset] [(.int (2 : Int32))])
  refine Go.of (fun t k => XS.iconst X1.here hx rfl (hb hby own_d11_28) k) ?_
  show Go p e below Φ T1 (mkF m 29 #[.val (.int (2 : Int32)), .val (.ref fa), .val (.int (0 : Int32)), .val (.int (2 : Int32)), .unset] [(.int (1 : Int32)), (.int (2 : Int32))])
  refine Go.of (fun t k => XS.iushr X1.here hx rfl (hb hby own_d11_29) rfl k) ?_
  show Go p e below Φ T1 (mkF m 30 #[.val (.int (2 : Int32)), .val (.ref fa), .val (.int (0 : Int32)), .val (.int (2 : Int32)), .unset] [(.int (1 : Int32))])
  refine Go.of (fun t k => XS.istore X1.here hx rfl (hb hby own_d11_30) rfl (l' := #[.val (.int (2 : Int32)), .val (.ref fa), .val (.int (0 : Int32)), .val (.int (2 : Int32)), .val (.int (1 : Int32))]) rfl k) ?_
  show Go p e below Φ T1 (mkF m 32 #[.val (.int (2 : Int32)), .val (.ref fa), .val (.int (0 : Int32)), .val (.int (2 : Int32)), .val (.int (1 : Int32))] [])
  refine Go.of (fun t k => XS.aloadN X1.here hx rfl (hb hby own_d11_32) rfl rfl  k) ?_
  show Go p e below Φ T1 (mkF m 33 #[.val (.int (2 : Int32)), .val (.ref fa), .val (.int (0 : Int32)), .val (.int (2 : Int32)), .val (.int (1 : Int32))] [(.ref fa)])
  refine Go.of (fun t k => XS.iload X1.here hx rfl (hb hby own_d11_33) rfl  k) ?_
  show Go p e below Φ T1 (mkF m 35 #[.val (.int (2 : Int32)), .val (.ref fa), .val (.int (0 : Int32)), .val (.int (2 : Int32)), .val (.int (1 : Int32))] [(.int (1 : Int32)), (.ref fa)])
  obtain ⟨_, _, ⟨T2, L2, k2, n2⟩, -, X2, ⟨rfl, e2q, Lc2, N2q, l2, y2, z2⟩, st2⟩ := Jvm.Stand.fnAt X1 hx (xi := own_xi) hown (own_fnW hZ (hw _ (List.mem_of_getElem? (i := 70) rfl)) (hw _ (List.mem_of_getElem? (i := 71) rfl)) (hw _ (List.mem_of_getElem? (i := 72) rfl))) (by decide) (own_LamF (own_LamW hZ hL)) (own_fwd (W := 0) hx hZ hL (rm12t l Z a0 hw [] oa qq (1 : Int32) ra kr hs ya hdx py h0 n0 Z0 F_oa_head F_oa_ring V_ra E_oa hin1 hat1 E_ya F_ya_position hge) (fun _ _ _ q => q) rfl hM E_oa (hw _ (List.mem_of_getElem? (i := 75) rfl)) (hw _ (List.mem_of_getElem? (i := 2) rfl)) (hw _ (List.mem_of_getElem? (i := 29) rfl)) (hw _ (List.mem_of_getElem? (i := 73) rfl)) (hw _ (List.mem_of_getElem? (i := 74) rfl)) rfl rfl (by decide) (by decide)) (fun _ _ => rfl) ⟨own_cell cK oa qq, own_at_ e1q hM, rfl, rfl⟩ (g := (mkF m 35 #[.val (.int (2 : Int32)), .val (.ref fa), .val (.int (0 : Int32)), .val (.int (2 : Int32)), .val (.int (1 : Int32))] [(.int (1 : Int32)), (.ref fa)])) rfl (by rw [hml]; rfl) (Steps.refl _) (argsL := [(.int (1 : Int32))]) (rest := []) (lenOf own_pd3 rfl) rfl (by show 2 * 0 + _ ≤ _; exact Nat.le_of_eq rfl) (hb hby own_d11_35) (fun _ _ => ⟨rfl, e1q, Nat.zero_le _, Nat.zero_le _⟩)
  dsimp only [Pt.U, Pt.locs, Pt.cells, Pt.slots] at X2 l2 y2 z2 st2 e2q
  subst l2 y2 z2
  have N2 := Fr.app N1 N2q
  obtain ⟨lc2, X2, N2⟩ : ∃ lc, Stand p l e ({ frames := 4, cells := 0, slots := 0, locals := 55 } : Room) s m #[(.int (2 : Int32)), (.ref fa)] below meth c T2 lc 0 0 ∧ Fr n0 lc := ⟨_, X2, N2⟩
  refine Go.tr st2 ?_
  show Go p e below Φ T2 (mkF m 40 #[.val (.int (2 : Int32)), .val (.ref fa), .val (.int (0 : Int32)), .val (.int (2 : Int32)), .val (.int (1 : Int32))] [(.int (1 : Int32))])
  refine Go.of (fun t k => XS.ifNo X2.here hx rfl (hb hby own_d11_40) rfl (XT.i0_eq_f (by decide)) k) ?_
  show Go p e below Φ T2 (mkF m 43 #[.val (.int (2 : Int32)), .val (.ref fa), .val (.int (0 : Int32)), .val (.int (2 : Int32)), .val (.int (1 : Int32))] [])
  refine Go.of (fun t k => XS.iload X2.here hx rfl (hb hby own_d11_43) rfl  k) ?_
  show Go p e below Φ T2 (mkF m 45 #[.val (.int (2 : Int32)), .val (.ref fa), .val (.int (0 : Int32)), .val (.int (2 : Int32)), .val (.int (1 : Int32))] [(.int (1 : Int32))])
  refine Go.of (fun t k => XS.istoreN X2.here hx rfl (hb hby own_d11_45) rfl (l' := #[.val (.int (2 : Int32)), .val (.ref fa), .val (.int (0 : Int32)), .val (.int (1 : Int32)), .val (.int (1 : Int32))]) rfl k) ?_
  show Go p e below Φ T2 (mkF m 46 #[.val (.int (2 : Int32)), .val (.ref fa), .val (.int (0 : Int32)), .val (.int (1 : Int32)), .val (.int (1 : Int32))] [])
  refine Go.of (fun t k => XS.goto X2.here hx rfl (pc0 := 46) (pc' := 54) rfl (hb hby own_d11_46) (by decide) (by decide) k) ?_
  show Go p e below Φ T2 (mkF m 54 #[.val (.int (2 : Int32)), .val (.ref fa), .val (.int (0 : Int32)), .val (.int (1 : Int32)), .val (.int (1 : Int32))] [])
  refine Go.of (fun t k => XS.goto X2.here hx rfl (pc0 := 54) (pc' := 20) rfl (hb hby own_d11_54) (by decide) (by decide) k) ?_
  show Go p e below Φ T2 (mkF m 20 #[.val (.int (2 : Int32)), .val (.ref fa), .val (.int (0 : Int32)), .val (.int (1 : Int32)), .val (.int (1 : Int32))] [])
  refine Go.of (fun t k => XS.iloadN X2.here hx rfl (hb hby own_d11_20) rfl  k) ?_
  show Go p e below Φ T2 (mkF m 21 #[.val (.int (2 : Int32)), .val (.ref fa), .val (.int (0 : Int32)), .val (.int (1 : Int32)), .val (.int (1 : Int32))] [(.int (0 : Int32))])
  refine Go.of (fun t k => XS.iloadN X2.here hx rfl (hb hby own_d11_21) rfl  k) ?_
  show Go p e below Φ T2 (mkF m 22 #[.val (.int (2 : Int32)), .val (.ref fa), .val (.int (0 : Int32)), .val (.int (1 : Int32)), .val (.int (1 : Int32))] [(.int (1 : Int32)), (.int (0 : Int32))])
  refine Go.of (fun t k => XS.icmpNo X2.here hx rfl (hb hby own_d11_22) rfl (XT.ii_ge_f (by decide)) k) ?_
  show Go p e below Φ T2 (mkF m 25 #[.val (.int (2 : Int32)), .val (.ref fa), .val (.int (0 : Int32)), .val (.int (1 : Int32)), .val (.int (1 : Int32))] [])
  refine Go.of (fun t k => XS.iloadN X2.here hx rfl (hb hby own_d11_25) rfl  k) ?_
  show Go p e below Φ T2 (mkF m 26 #[.val (.int (2 : Int32)), .val (.ref fa), .val (.int (0 : Int32)), .val (.int (1 : Int32)), .val (.int (1 : Int32))] [(.int (0 : Int32))])
  refine Go.of (fun t k => XS.iloadN X2.here hx rfl (hb hby own_d11_26) rfl  k) ?_
  show Go p e below Φ T2 (mkF m 27 #[.val (.int (2 : Int32)), .val (.ref fa), .val (.int (0 : Int32)), .val (.int (1 : Int32)), .val (.int (1 : Int32))] [(.int (1 : Int32)), (.int (0 : Int32))])
  refine Go.of (fun t k => XS.iadd X2.here hx rfl (hb hby own_d11_27) rfl k) ?_
  show Go p e below Φ T2 (mkF m 28 #[.val (.int (2 : Int32)), .val (.ref fa), .val (.int (0 : Int32)), .val (.int (1 : Int32)), .val (.int (1 : Int32))] [(.int (1 : Int32))])
  refine Go.of (fun t k => XS.iconst X2.here hx rfl (hb hby own_d11_28) k) ?_
  show Go p e below Φ T2 (mkF m 29 #[.val (.int (2 : Int32)), .val (.ref fa), .val (.int (0 : Int32)), .val (.int (1 : Int32)), .val (.int (1 : Int32))] [(.int (1 : Int32)), (.int (1 : Int32))])
  refine Go.of (fun t k => XS.iushr X2.here hx rfl (hb hby own_d11_29) rfl k) ?_
  show Go p e below Φ T2 (mkF m 30 #[.val (.int (2 : Int32)), .val (.ref fa), .val (.int (0 : Int32)), .val (.int (1 : Int32)), .val (.int (1 : Int32))] [(.int (0 : Int32))])
  refine Go.of (fun t k => XS.istore X2.here hx rfl (hb hby own_d11_30) rfl (l' := #[.val (.int (2 : Int32)), .val (.ref fa), .val (.int (0 : Int32)), .val (.int (1 : Int32)), .val (.int (0 : Int32))]) rfl k) ?_
  show Go p e below Φ T2 (mkF m 32 #[.val (.int (2 : Int32)), .val (.ref fa), .val (.int (0 : Int32)), .val (.int (1 : Int32)), .val (.int (0 : Int32))] [])
  refine Go.of (fun t k => XS.aloadN X2.here hx rfl (hb hby own_d11_32) rfl rfl  k) ?_
  show Go p e below Φ T2 (mkF m 33 #[.val (.int (2 : Int32)), .val (.ref fa), .val (.int (0 : Int32)), .val (.int (1 : Int32)), .val (.int (0 : Int32))] [(.ref fa)])
  refine Go.of (fun t k => XS.iload X2.here hx rfl (hb hby own_d11_33) rfl  k) ?_
  show Go p e below Φ T2 (mkF m 35 #[.val (.int (2 : Int32)), .val (.ref fa), .val (.int (0 : Int32)), .val (.int (1 : Int32)), .val (.int (0 : Int32))] [(.int (0 : Int32)), (.ref fa)])
  obtain ⟨_, _, ⟨T3, L3, k3, n3⟩, -, X3, ⟨rfl, e3q, Lc3, N3q, l3, y3, z3⟩, st3⟩ := Jvm.Stand.fnAt X2 hx (xi := own_xi) hown (own_fnW hZ (hw _ (List.mem_of_getElem? (i := 70) rfl)) (hw _ (List.mem_of_getElem? (i := 71) rfl)) (hw _ (List.mem_of_getElem? (i := 72) rfl))) (by decide) (own_LamF (own_LamW hZ hL)) (own_fwd (W := 0) hx hZ hL (rm12f l Z a0 hw [] oa qq (0 : Int32) ra kr hs xa hdx px h0 n0 Z0 F_oa_head F_oa_ring V_ra E_oa hin0 hat0 E_xa F_xa_position hlt) (fun _ _ _ q => q) rfl hM E_oa (hw _ (List.mem_of_getElem? (i := 75) rfl)) (hw _ (List.mem_of_getElem? (i := 2) rfl)) (hw _ (List.mem_of_getElem? (i := 29) rfl)) (hw _ (List.mem_of_getElem? (i := 73) rfl)) (hw _ (List.mem_of_getElem? (i := 74) rfl)) rfl rfl (by decide) (by decide)) (fun _ _ => rfl) ⟨own_cell cK oa qq, own_at_ e2q hM, rfl, rfl⟩ (g := (mkF m 35 #[.val (.int (2 : Int32)), .val (.ref fa), .val (.int (0 : Int32)), .val (.int (1 : Int32)), .val (.int (0 : Int32))] [(.int (0 : Int32)), (.ref fa)])) rfl (by rw [hml]; rfl) (Steps.refl _) (argsL := [(.int (0 : Int32))]) (rest := []) (lenOf own_pd3 rfl) rfl (by show 2 * 0 + _ ≤ _; exact Nat.le_of_eq rfl) (hb hby own_d11_35) (fun _ _ => ⟨rfl, e2q, Nat.zero_le _, Nat.zero_le _⟩)
  dsimp only [Pt.U, Pt.locs, Pt.cells, Pt.slots] at X3 l3 y3 z3 st3 e3q
  subst l3 y3 z3
  have N3 := Fr.app N2 N3q
  obtain ⟨lc3, X3, N3⟩ : ∃ lc, Stand p l e ({ frames := 4, cells := 0, slots := 0, locals := 55 } : Room) s m #[(.int (2 : Int32)), (.ref fa)] below meth c T3 lc 0 0 ∧ Fr n0 lc := ⟨_, X3, N3⟩
  refine Go.tr st3 ?_
  show Go p e below Φ T3 (mkF m 40 #[.val (.int (2 : Int32)), .val (.ref fa), .val (.int (0 : Int32)), .val (.int (1 : Int32)), .val (.int (0 : Int32))] [(.int (0 : Int32))])
  refine Go.of (fun t k => XS.ifYes X3.here hx rfl (pc0 := 40) (pc' := 49) rfl (hb hby own_d11_40) rfl (XT.i0_eq_t rfl) (by decide) (by decide) k) ?_
  show Go p e below Φ T3 (mkF m 49 #[.val (.int (2 : Int32)), .val (.ref fa), .val (.int (0 : Int32)), .val (.int (1 : Int32)), .val (.int (0 : Int32))] [])
  refine Go.of (fun t k => XS.iload X3.here hx rfl (hb hby own_d11_49) rfl  k) ?_
  show Go p e below Φ T3 (mkF m 51 #[.val (.int (2 : Int32)), .val (.ref fa), .val (.int (0 : Int32)), .val (.int (1 : Int32)), .val (.int (0 : Int32))] [(.int (0 : Int32))])
  refine Go.of (fun t k => XS.iconst X3.here hx rfl (hb hby own_d11_51) k) ?_
  show Go p e below Φ T3 (mkF m 52 #[.val (.int (2 : Int32)), .val (.ref fa), .val (.int (0 : Int32)), .val (.int (1 : Int32)), .val (.int (0 : Int32))] [(.int (1 : Int32)), (.int (0 : Int32))])
  refine Go.of (fun t k => XS.iadd X3.here hx rfl (hb hby own_d11_52) rfl k) ?_
  show Go p e below Φ T3 (mkF m 53 #[.val (.int (2 : Int32)), .val (.ref fa), .val (.int (0 : Int32)), .val (.int (1 : Int32)), .val (.int (0 : Int32))] [(.int (1 : Int32))])
  refine Go.of (fun t k => XS.istoreN X3.here hx rfl (hb hby own_d11_53) rfl (l' := #[.val (.int (2 : Int32)), .val (.ref fa), .val (.int (1 : Int32)), .val (.int (1 : Int32)), .val (.int (0 : Int32))]) rfl k) ?_
  show Go p e below Φ T3 (mkF m 54 #[.val (.int (2 : Int32)), .val (.ref fa), .val (.int (1 : Int32)), .val (.int (1 : Int32)), .val (.int (0 : Int32))] [])
  refine Go.of (fun t k => XS.goto X3.here hx rfl (pc0 := 54) (pc' := 20) rfl (hb hby own_d11_54) (by decide) (by decide) k) ?_
  show Go p e below Φ T3 (mkF m 20 #[.val (.int (2 : Int32)), .val (.ref fa), .val (.int (1 : Int32)), .val (.int (1 : Int32)), .val (.int (0 : Int32))] [])
  refine Go.of (fun t k => XS.iloadN X3.here hx rfl (hb hby own_d11_20) rfl  k) ?_
  show Go p e below Φ T3 (mkF m 21 #[.val (.int (2 : Int32)), .val (.ref fa), .val (.int (1 : Int32)), .val (.int (1 : Int32)), .val (.int (0 : Int32))] [(.int (1 : Int32))])
  refine Go.of (fun t k => XS.iloadN X3.here hx rfl (hb hby own_d11_21) rfl  k) ?_
  show Go p e below Φ T3 (mkF m 22 #[.val (.int (2 : Int32)), .val (.ref fa), .val (.int (1 : Int32)), .val (.int (1 : Int32)), .val (.int (0 : Int32))] [(.int (1 : Int32)), (.int (1 : Int32))])
  refine Go.of (fun t k => XS.icmpYes X3.here hx rfl (pc0 := 22) (pc' := 57) rfl (hb hby own_d11_22) rfl (XT.ii_ge_t (by decide)) (by decide) (by decide) k) ?_
  show Go p e below Φ T3 (mkF m 57 #[.val (.int (2 : Int32)), .val (.ref fa), .val (.int (1 : Int32)), .val (.int (1 : Int32)), .val (.int (0 : Int32))] [])
  refine Go.of (fun t k => XS.iloadN X3.here hx rfl (hb hby own_d11_57) rfl  k) ?_
  show Go p e below Φ T3 (mkF m 58 #[.val (.int (2 : Int32)), .val (.ref fa), .val (.int (1 : Int32)), .val (.int (1 : Int32)), .val (.int (0 : Int32))] [(.int (1 : Int32))])
  rw [hΦ]
  refine Go.ret X3 hx Bd.notSynchronized Bd.returns rfl (Or.inl ⟨rfl, Or.inl rfl, _, rfl⟩) (hb hby own_d11_58) (by decide) (by decide) ?_
  rw [e3q]
  exact ⟨rfl, N3, rfl⟩
theorem own_ef10z (m : MethodId) (oa : Addr) (qq : Int64) : entryFrame m #[(.ref oa), (.long qq)] 3 = mkF m 0 #[.val (.ref oa), .val (.long qq), .second] [] := by first | (simp [entryFrame, mkF, argsToLocals, Value.category]; done) | rfl
def Q10z (Z : State) (oa : Addr) (qq : Int64) (ra : Addr) (kr : ClassId) (hs : List (Int32 × Value)) (xa : Addr) (hdx : Int32) (nn : Int32) (px : Int64) (h0 : Heap) (n0 : Nat) (vr : Option Value) (hr : Heap) (Lr : List Loc) : Prop := vr = some (.int (0 : Int32)) ∧ Fr n0 Lr ∧ Keep h0 hr []
set_option maxRecDepth 65536 in
set_option maxHeartbeats 40000000 in
theorem rm10z (l : Launch) (Z : State) (a0 : Array Value) (hw : ∀ d ∈ tables_1, d.before a0 Z = true) (ws : List Jvm.Cond) (oa : Addr) (qq : Int64) (ra : Addr) (kr : ClassId) (hs : List (Int32 × Value)) (xa : Addr) (hdx : Int32) (nn : Int32) (px : Int64) (h0 : Heap) (n0 : Nat) (Z0 : n0 ≤ h0.size) (F_oa_head : Fld Z h0 oa "com/example/demarq/demarq/broker/SortedMessages" "head" "I" (.int hdx)) (F_oa_ring : Fld Z h0 oa "com/example/demarq/demarq/broker/SortedMessages" "ring" "[Lcom/example/demarq/demarq/broker/Message;" (.ref ra)) (V_ra : Arh Z h0 ra kr (.object "com/example/demarq/demarq/broker/Message") (16 : Int32) hs [] .null) (F_oa_size : Fld Z h0 oa "com/example/demarq/demarq/broker/SortedMessages" "size" "I" (.int nn)) (E_oa : Exa Z h0 oa "com/example/demarq/demarq/broker/SortedMessages") (hin0 : ¬ ((hdx + (0 : Int32)) % (16 : Int32)) < 0 ∧ ((hdx + (0 : Int32)) % (16 : Int32)) < (16 : Int32)) (hat0 : getH hs [] .null (((hdx + (0 : Int32)) % (16 : Int32))).toNatClampNeg = .ref xa) (E_xa : Exa Z h0 xa "com/example/demarq/demarq/broker/Message") (F_xa_position : Fld Z h0 xa "com/example/demarq/demarq/broker/Message" "position" "J" (.long px)) (hcmp : ¬ (px < qq)) (hnz : ¬ (nn = (0 : Int32))) :
    MetFree l (⟨"com/example/demarq/demarq/broker/SortedMessages", "countBelow", "(J)I"⟩ : MethodName) (head1 (Jvm.Cond.code (⟨"com/example/demarq/demarq/broker/SortedMessages", "countBelow", "(J)I"⟩ : MethodName) prog_12_method_8_code 3 (some .int) :: ws) ({ frames := 5, cells := 1, slots := 2, locals := 3076 } : Room)) (fun aQ UQ => aQ = #[(.ref oa), (.long qq)] ∧ Z.Warmed39 UQ.vm ∧ UQ.heap = h0) (fun _ _ _ _ _ => True) (fun _ UQ oQ VQ => ∃ vQ LQ, oQ = .returned vQ ∧ Q10z Z oa qq ra kr hs xa hdx nn px h0 n0 vQ VQ.heap LQ ∧ FrameEnd UQ oQ VQ LQ ({ frames := 5, cells := 1, slots := 2, locals := 3076 } : Room).cells ({ frames := 5, cells := 1, slots := 2, locals := 3076 } : Room).slots) := by
  refine MetFree.of_bodySF (plainFor_of_name own_pn0) hisR ?_
  intro p e s m args below meth c s₁ Bd hml0 hP hK
  obtain ⟨rfl, hZ, hh⟩ := hP
  have hx := Bd.exec
  have hby := Bd.bytes
  have hml : c.maxLocals = 3 := hml0
  have hown : s.vm.findClass "com/example/demarq/demarq/broker/SortedMessages" = some m.cls := findClass_of_methodNamed Bd.named
  have hnm := (name_of_methodNamed Bd.named Bd.method).1
  have X0 : Stand p l e ({ frames := 5, cells := 1, slots := 2, locals := 3076 } : Room) s m #[(.ref oa), (.long qq)] below meth c s₁ [] 0 0 := Stand.of_body Bd
  have e0 : s₁.heap = h0 := by rw [← hh, Bd.state]; rfl
  have N0 := Fr.nil n0
  show Go p e below (EndQ s below (Q10z Z oa qq ra kr hs xa hdx nn px h0 n0) ({ frames := 5, cells := 1, slots := 2, locals := 3076 } : Room).cells ({ frames := 5, cells := 1, slots := 2, locals := 3076 } : Room).slots) s₁ (entryFrame m #[(.ref oa), (.long qq)] 3)
  obtain ⟨Φ, hΦ⟩ : ∃ Φ, Φ = EndQ s below (Q10z Z oa qq ra kr hs xa hdx nn px h0 n0) ({ frames := 5, cells := 1, slots := 2, locals := 3076 } : Room).cells ({ frames := 5, cells := 1, slots := 2, locals := 3076 } : Room).slots := ⟨_, rfl⟩
  rw [← hΦ, own_ef10z]
  show Go p e below Φ s₁ (mkF m 0 #[.val (.ref oa), .val (.long qq), .second] [])
  refine Go.of (fun t k => XS.aloadN X0.here hx rfl (hb hby own_d10_0) rfl rfl  k) ?_
  show Go p e below Φ s₁ (mkF m 1 #[.val (.ref oa), .val (.long qq), .second] [(.ref oa)])
  obtain ⟨T1, X1, e1, st1⟩ := getF X0 hx hZ hown (host := "") (Or.inl (hw _ (List.mem_of_getElem? (i := 31) rfl))) Via.refl e0 F_oa_size (g := (mkF m 1 #[.val (.ref oa), .val (.long qq), .second] [(.ref oa)])) rfl rfl (hb hby own_d10_1)
  refine Go.of st1 ?_
  show Go p e below Φ T1 (mkF m 4 #[.val (.ref oa), .val (.long qq), .second] [(.int nn)])
  refine Go.of (fun t k => XS.aloadN X1.here hx rfl (hb hby own_d10_4) rfl rfl  k) ?_
  show Go p e below Φ T1 (mkF m 5 #[.val (.ref oa), .val (.long qq), .second] [(.ref oa), (.int nn)])
  refine Go.of (fun t k => XS.lloadN X1.here hx rfl (hb hby own_d10_5) rfl  k) ?_
  show Go p e below Φ T1 (mkF m 6 #[.val (.ref oa), .val (.long qq), .second] [(.long qq), (.ref oa), (.int nn)])
  obtain ⟨cK, hsite⟩ := own_site (hw _ (List.mem_of_getElem? (i := 63) rfl))
  have hL := own_LamZ hsite (hw _ (List.mem_of_getElem? (i := 66) rfl)) (hw _ (List.mem_of_getElem? (i := 72) rfl)) (hw _ (List.mem_of_getElem? (i := 73) rfl))
  obtain ⟨T2, h2, X2, e2, E2, A2, st2⟩ := own_makes X1 hx hZ hsite hL Bd.named e1 (g := (mkF m 6 #[.val (.ref oa), .val (.long qq), .second] [(.long qq), (.ref oa), (.int nn)])) rfl (by rw [hml]; rfl) rfl rfl (hb hby own_d10_6) (Nat.le_of_ble_eq_true rfl) (by decide) (by decide)
  obtain ⟨b2, g2⟩ : ∃ z, z = h0.size := ⟨_, rfl⟩
  rw [← g2] at A2 st2
  have ne_oa_b2 : oa ≠ b2 := Nat.ne_of_lt (Nat.lt_of_lt_of_le F_oa_head.lt (Nat.le_of_eq g2.symm))
  have ne_ra_b2 : ra ≠ b2 := Nat.ne_of_lt (Nat.lt_of_lt_of_le V_ra.lt (Nat.le_of_eq g2.symm))
  have ne_xa_b2 : xa ≠ b2 := Nat.ne_of_lt (Nat.lt_of_lt_of_le E_xa.lt (Nat.le_of_eq g2.symm))
  have g_b2 : n0 ≤ b2 := Nat.le_trans Z0 (Nat.le_of_eq g2.symm)
  have sz_b2 : h0.size ≤ b2 := Nat.le_trans (Keep.refl h0 []).1 (Nat.le_of_eq g2.symm)
  have K2 := (Keep.refl h0 []).ext E2
  have Z2 := Nat.le_trans Z0 E2.1
  have F_oa_head := F_oa_head.ext E2
  have F_oa_ring := F_oa_ring.ext E2
  have V_ra := V_ra.ext E2
  have F_oa_size := F_oa_size.ext E2
  have E_oa := E_oa.ext E2
  have E_xa := E_xa.ext E2
  have F_xa_position := F_xa_position.ext E2
  refine Go.of st2 ?_
  show Go p e below Φ T2 (mkF m 11 #[.val (.ref oa), .val (.long qq), .second] [(.ref b2), (.int nn)])
  obtain ⟨_, _, ⟨T3, L3, k3, n3⟩, -, X3, ⟨Lc3, hQ3, l3, y3, z3⟩, st3⟩ := Jvm.LawKit.callS X2 hx (y := (⟨"com/example/demarq/demarq/broker/SortedMessages", "lowestIndex", "(ILjava/util/function/IntPredicate;)I"⟩ : MethodName)) hown (mvT hZ (hw _ (List.mem_of_getElem? (i := 67) rfl))) (mvT hZ (hw _ (List.mem_of_getElem? (i := 68) rfl))) (mvT hZ (hw _ (List.mem_of_getElem? (i := 2) rfl))) (mvT hZ (hw _ (List.mem_of_getElem? (i := 69) rfl))) (by decide) (backOf (W := 0) (rm11z l Z a0 hw [] nn b2 oa qq cK ra kr hs xa hdx px h2 n0 Z2 F_oa_head F_oa_ring V_ra E_oa hin0 hat0 E_xa F_xa_position hcmp hnz A2 hL) hZ (hw _ (List.mem_of_getElem? (i := 69) rfl)) (hw _ (List.mem_of_getElem? (i := 2) rfl)) (by decide) (by decide)) (g := (mkF m 11 #[.val (.ref oa), .val (.long qq), .second] [(.ref b2), (.int nn)])) rfl (by rw [hml]; rfl) (argsL := [(.int nn), (.ref b2)]) (rest := []) (lenOf own_pd4 rfl) rfl (by show 2 * 0 + _ ≤ _; exact Nat.le_of_eq rfl) (hb hby own_d10_11) (fun _ _ => ⟨rfl, e2, (by decide : 1 + 0 ≤ _), (by decide : 2 + 0 ≤ _)⟩)
  dsimp only [Pt.U, Pt.locs, Pt.cells, Pt.slots] at X3 l3 y3 z3 st3 hQ3
  subst l3 y3 z3
  obtain ⟨rfl, N3q, e3q⟩ := hQ3
  have N3 := Fr.app N0 N3q
  obtain ⟨lc3, X3, N3⟩ : ∃ lc, Stand p l e ({ frames := 5, cells := 1, slots := 2, locals := 3076 } : Room) s m #[(.ref oa), (.long qq)] below meth c T3 lc 1 2 ∧ Fr n0 lc := ⟨_, X3, N3⟩
  refine Go.of st3 ?_
  show Go p e below Φ T3 (mkF m 14 #[.val (.ref oa), .val (.long qq), .second] [(.int (0 : Int32))])
  rw [hΦ]
  refine Go.ret X3 hx Bd.notSynchronized Bd.returns rfl (Or.inl ⟨rfl, Or.inl rfl, _, rfl⟩) (hb hby own_d10_14) (by decide) (by decide) ?_
  rw [(e3q)]
  exact ⟨rfl, N3, K2⟩
theorem own_ef10o (m : MethodId) (oa : Addr) (qq : Int64) : entryFrame m #[(.ref oa), (.long qq)] 3 = mkF m 0 #[.val (.ref oa), .val (.long qq), .second] [] := by first | (simp [entryFrame, mkF, argsToLocals, Value.category]; done) | rfl
def Q10o (Z : State) (oa : Addr) (qq : Int64) (ra : Addr) (kr : ClassId) (hs : List (Int32 × Value)) (xa : Addr) (ya : Addr) (hdx : Int32) (px : Int64) (py : Int64) (h0 : Heap) (n0 : Nat) (vr : Option Value) (hr : Heap) (Lr : List Loc) : Prop := vr = some (.int (1 : Int32)) ∧ Fr n0 Lr ∧ Keep h0 hr []
set_option maxRecDepth 65536 in
set_option maxHeartbeats 40000000 in
theorem rm10o (l : Launch) (Z : State) (a0 : Array Value) (hw : ∀ d ∈ tables_1, d.before a0 Z = true) (ws : List Jvm.Cond) (oa : Addr) (qq : Int64) (ra : Addr) (kr : ClassId) (hs : List (Int32 × Value)) (xa : Addr) (ya : Addr) (hdx : Int32) (px : Int64) (py : Int64) (h0 : Heap) (n0 : Nat) (Z0 : n0 ≤ h0.size) (F_oa_head : Fld Z h0 oa "com/example/demarq/demarq/broker/SortedMessages" "head" "I" (.int hdx)) (F_oa_ring : Fld Z h0 oa "com/example/demarq/demarq/broker/SortedMessages" "ring" "[Lcom/example/demarq/demarq/broker/Message;" (.ref ra)) (V_ra : Arh Z h0 ra kr (.object "com/example/demarq/demarq/broker/Message") (16 : Int32) hs [] .null) (F_oa_size : Fld Z h0 oa "com/example/demarq/demarq/broker/SortedMessages" "size" "I" (.int (2 : Int32))) (E_oa : Exa Z h0 oa "com/example/demarq/demarq/broker/SortedMessages") (hin0 : ¬ ((hdx + (0 : Int32)) % (16 : Int32)) < 0 ∧ ((hdx + (0 : Int32)) % (16 : Int32)) < (16 : Int32)) (hat0 : getH hs [] .null (((hdx + (0 : Int32)) % (16 : Int32))).toNatClampNeg = .ref xa) (E_xa : Exa Z h0 xa "com/example/demarq/demarq/broker/Message") (F_xa_position : Fld Z h0 xa "com/example/demarq/demarq/broker/Message" "position" "J" (.long px)) (hin1 : ¬ ((hdx + (1 : Int32)) % (16 : Int32)) < 0 ∧ ((hdx + (1 : Int32)) % (16 : Int32)) < (16 : Int32)) (hat1 : getH hs [] .null (((hdx + (1 : Int32)) % (16 : Int32))).toNatClampNeg = .ref ya) (E_ya : Exa Z h0 ya "com/example/demarq/demarq/broker/Message") (F_ya_position : Fld Z h0 ya "com/example/demarq/demarq/broker/Message" "position" "J" (.long py)) (hlt : px < qq) (hge : ¬ (py < qq)) :
    MetFree l (⟨"com/example/demarq/demarq/broker/SortedMessages", "countBelow", "(J)I"⟩ : MethodName) (head1 (Jvm.Cond.code (⟨"com/example/demarq/demarq/broker/SortedMessages", "countBelow", "(J)I"⟩ : MethodName) prog_12_method_8_code 3 (some .int) :: ws) ({ frames := 5, cells := 1, slots := 2, locals := 3076 } : Room)) (fun aQ UQ => aQ = #[(.ref oa), (.long qq)] ∧ Z.Warmed39 UQ.vm ∧ UQ.heap = h0) (fun _ _ _ _ _ => True) (fun _ UQ oQ VQ => ∃ vQ LQ, oQ = .returned vQ ∧ Q10o Z oa qq ra kr hs xa ya hdx px py h0 n0 vQ VQ.heap LQ ∧ FrameEnd UQ oQ VQ LQ ({ frames := 5, cells := 1, slots := 2, locals := 3076 } : Room).cells ({ frames := 5, cells := 1, slots := 2, locals := 3076 } : Room).slots) := by
  refine MetFree.of_bodySF (plainFor_of_name own_pn0) hisR ?_
  intro p e s m args below meth c s₁ Bd hml0 hP hK
  obtain ⟨rfl, hZ, hh⟩ := hP
  have hx := Bd.exec
  have hby := Bd.bytes
  have hml : c.maxLocals = 3 := hml0
  have hown : s.vm.findClass "com/example/demarq/demarq/broker/SortedMessages" = some m.cls := findClass_of_methodNamed Bd.named
  have hnm := (name_of_methodNamed Bd.named Bd.method).1
  have X0 : Stand p l e ({ frames := 5, cells := 1, slots := 2, locals := 3076 } : Room) s m #[(.ref oa), (.long qq)] below meth c s₁ [] 0 0 := Stand.of_body Bd
  have e0 : s₁.heap = h0 := by rw [← hh, Bd.state]; rfl
  have N0 := Fr.nil n0
  show Go p e below (EndQ s below (Q10o Z oa qq ra kr hs xa ya hdx px py h0 n0) ({ frames := 5, cells := 1, slots := 2, locals := 3076 } : Room).cells ({ frames := 5, cells := 1, slots := 2, locals := 3076 } : Room).slots) s₁ (entryFrame m #[(.ref oa), (.long qq)] 3)
  obtain ⟨Φ, hΦ⟩ : ∃ Φ, Φ = EndQ s below (Q10o Z oa qq ra kr hs xa ya hdx px py h0 n0) ({ frames := 5, cells := 1, slots := 2, locals := 3076 } : Room).cells ({ frames := 5, cells := 1, slots := 2, locals := 3076 } : Room).slots := ⟨_, rfl⟩
  rw [← hΦ, own_ef10o]
  show Go p e below Φ s₁ (mkF m 0 #[.val (.ref oa), .val (.long qq), .second] [])
  refine Go.of (fun t k => XS.aloadN X0.here hx rfl (hb hby own_d10_0) rfl rfl  k) ?_
  show Go p e below Φ s₁ (mkF m 1 #[.val (.ref oa), .val (.long qq), .second] [(.ref oa)])
  obtain ⟨T1, X1, e1, st1⟩ := getF X0 hx hZ hown (host := "") (Or.inl (hw _ (List.mem_of_getElem? (i := 31) rfl))) Via.refl e0 F_oa_size (g := (mkF m 1 #[.val (.ref oa), .val (.long qq), .second] [(.ref oa)])) rfl rfl (hb hby own_d10_1)
  refine Go.of st1 ?_
  show Go p e below Φ T1 (mkF m 4 #[.val (.ref oa), .val (.long qq), .second] [(.int (2 : Int32))])
  refine Go.of (fun t k => XS.aloadN X1.here hx rfl (hb hby own_d10_4) rfl rfl  k) ?_
  show Go p e below Φ T1 (mkF m 5 #[.val (.ref oa), .val (.long qq), .second] [(.ref oa), (.int (2 : Int32))])
  refine Go.of (fun t k => XS.lloadN X1.here hx rfl (hb hby own_d10_5) rfl  k) ?_
  show Go p e below Φ T1 (mkF m 6 #[.val (.ref oa), .val (.long qq), .second] [(.long qq), (.ref oa), (.int (2 : Int32))])
  obtain ⟨cK, hsite⟩ := own_site (hw _ (List.mem_of_getElem? (i := 63) rfl))
  have hL := own_LamZ hsite (hw _ (List.mem_of_getElem? (i := 66) rfl)) (hw _ (List.mem_of_getElem? (i := 72) rfl)) (hw _ (List.mem_of_getElem? (i := 73) rfl))
  obtain ⟨T2, h2, X2, e2, E2, A2, st2⟩ := own_makes X1 hx hZ hsite hL Bd.named e1 (g := (mkF m 6 #[.val (.ref oa), .val (.long qq), .second] [(.long qq), (.ref oa), (.int (2 : Int32))])) rfl (by rw [hml]; rfl) rfl rfl (hb hby own_d10_6) (Nat.le_of_ble_eq_true rfl) (by decide) (by decide)
  obtain ⟨b2, g2⟩ : ∃ z, z = h0.size := ⟨_, rfl⟩
  rw [← g2] at A2 st2
  have ne_oa_b2 : oa ≠ b2 := Nat.ne_of_lt (Nat.lt_of_lt_of_le F_oa_head.lt (Nat.le_of_eq g2.symm))
  have ne_ra_b2 : ra ≠ b2 := Nat.ne_of_lt (Nat.lt_of_lt_of_le V_ra.lt (Nat.le_of_eq g2.symm))
  have ne_xa_b2 : xa ≠ b2 := Nat.ne_of_lt (Nat.lt_of_lt_of_le E_xa.lt (Nat.le_of_eq g2.symm))
  have ne_ya_b2 : ya ≠ b2 := Nat.ne_of_lt (Nat.lt_of_lt_of_le E_ya.lt (Nat.le_of_eq g2.symm))
  have g_b2 : n0 ≤ b2 := Nat.le_trans Z0 (Nat.le_of_eq g2.symm)
  have sz_b2 : h0.size ≤ b2 := Nat.le_trans (Keep.refl h0 []).1 (Nat.le_of_eq g2.symm)
  have K2 := (Keep.refl h0 []).ext E2
  have Z2 := Nat.le_trans Z0 E2.1
  have F_oa_head := F_oa_head.ext E2
  have F_oa_ring := F_oa_ring.ext E2
  have V_ra := V_ra.ext E2
  have F_oa_size := F_oa_size.ext E2
  have E_oa := E_oa.ext E2
  have E_xa := E_xa.ext E2
  have F_xa_position := F_xa_position.ext E2
  have E_ya := E_ya.ext E2
  have F_ya_position := F_ya_position.ext E2
  refine Go.of st2 ?_
  show Go p e below Φ T2 (mkF m 11 #[.val (.ref oa), .val (.long qq), .second] [(.ref b2), (.int (2 : Int32))])
  obtain ⟨_, _, ⟨T3, L3, k3, n3⟩, -, X3, ⟨Lc3, hQ3, l3, y3, z3⟩, st3⟩ := Jvm.LawKit.callS X2 hx (y := (⟨"com/example/demarq/demarq/broker/SortedMessages", "lowestIndex", "(ILjava/util/function/IntPredicate;)I"⟩ : MethodName)) hown (mvT hZ (hw _ (List.mem_of_getElem? (i := 67) rfl))) (mvT hZ (hw _ (List.mem_of_getElem? (i := 68) rfl))) (mvT hZ (hw _ (List.mem_of_getElem? (i := 2) rfl))) (mvT hZ (hw _ (List.mem_of_getElem? (i := 69) rfl))) (by decide) (backOf (W := 0) (rm11o l Z a0 hw [] b2 oa qq cK ra kr hs xa ya hdx px py h2 n0 Z2 F_oa_head F_oa_ring V_ra E_oa hin0 hat0 E_xa F_xa_position hin1 hat1 E_ya F_ya_position hlt hge A2 hL) hZ (hw _ (List.mem_of_getElem? (i := 69) rfl)) (hw _ (List.mem_of_getElem? (i := 2) rfl)) (by decide) (by decide)) (g := (mkF m 11 #[.val (.ref oa), .val (.long qq), .second] [(.ref b2), (.int (2 : Int32))])) rfl (by rw [hml]; rfl) (argsL := [(.int (2 : Int32)), (.ref b2)]) (rest := []) (lenOf own_pd4 rfl) rfl (by show 2 * 0 + _ ≤ _; exact Nat.le_of_eq rfl) (hb hby own_d10_11) (fun _ _ => ⟨rfl, e2, (by decide : 1 + 0 ≤ _), (by decide : 2 + 0 ≤ _)⟩)
  dsimp only [Pt.U, Pt.locs, Pt.cells, Pt.slots] at X3 l3 y3 z3 st3 hQ3
  subst l3 y3 z3
  obtain ⟨rfl, N3q, e3q⟩ := hQ3
  have N3 := Fr.app N0 N3q
  obtain ⟨lc3, X3, N3⟩ : ∃ lc, Stand p l e ({ frames := 5, cells := 1, slots := 2, locals := 3076 } : Room) s m #[(.ref oa), (.long qq)] below meth c T3 lc 1 2 ∧ Fr n0 lc := ⟨_, X3, N3⟩
  refine Go.of st3 ?_
  show Go p e below Φ T3 (mkF m 14 #[.val (.ref oa), .val (.long qq), .second] [(.int (1 : Int32))])
  rw [hΦ]
  refine Go.ret X3 hx Bd.notSynchronized Bd.returns rfl (Or.inl ⟨rfl, Or.inl rfl, _, rfl⟩) (hb hby own_d10_14) (by decide) (by decide) ?_
  rw [(e3q)]
  exact ⟨rfl, N3, K2⟩
theorem own_ef1 (m : MethodId) (oa : Addr) : entryFrame m #[(.ref oa)] 1 = mkF m 0 #[.val (.ref oa)] [] := by first | (simp [entryFrame, mkF, argsToLocals, Value.category]; done) | rfl
def Q1 (Z : State) (oa : Addr) (h0 : Heap) (n0 : Nat) (vr : Option Value) (hr : Heap) (Lr : List Loc) : Prop := ∃ (br : Addr) (kr : ClassId), vr = none ∧ Fr n0 Lr ∧ Keep h0 hr [oa] ∧ Fld Z hr oa "com/example/demarq/demarq/broker/SortedMessages" "ring" "[Lcom/example/demarq/demarq/broker/Message;" (.ref br) ∧ Fld Z hr oa "com/example/demarq/demarq/broker/SortedMessages" "size" "I" (.int (0 : Int32)) ∧ Fld Z hr oa "com/example/demarq/demarq/broker/SortedMessages" "head" "I" (.int (0 : Int32)) ∧ Arh Z hr br kr (.object "com/example/demarq/demarq/broker/Message") (16 : Int32) [] [] .null ∧ Ovr Z kr "com/example/demarq/demarq/broker/Message" ∧ h0.size ≤ br
set_option maxRecDepth 65536 in
set_option maxHeartbeats 40000000 in
theorem rm1 (l : Launch) (Z : State) (a0 : Array Value) (hw : ∀ d ∈ tables_1, d.before a0 Z = true) (ws : List Jvm.Cond) (oa : Addr) (h0 : Heap) (n0 : Nat) (Z0 : n0 ≤ h0.size) (F_oa_ring : Fld Z h0 oa "com/example/demarq/demarq/broker/SortedMessages" "ring" "[Lcom/example/demarq/demarq/broker/Message;" .null) (F_oa_size : Fld Z h0 oa "com/example/demarq/demarq/broker/SortedMessages" "size" "I" (.int (0 : Int32))) (F_oa_head : Fld Z h0 oa "com/example/demarq/demarq/broker/SortedMessages" "head" "I" (.int (0 : Int32))) (E_oa : Exa Z h0 oa "com/example/demarq/demarq/broker/SortedMessages") (g_oa : n0 ≤ oa) :
    MetFree l (⟨"com/example/demarq/demarq/broker/SortedMessages", "<init>", "()V"⟩ : MethodName) (head1 (Jvm.Cond.code (⟨"com/example/demarq/demarq/broker/SortedMessages", "<init>", "()V"⟩ : MethodName) prog_12_method_1_code 1 none :: ws) ({ frames := 1, cells := 1, slots := 16, locals := 12 } : Room)) (fun aQ UQ => aQ = #[(.ref oa)] ∧ Z.Warmed39 UQ.vm ∧ UQ.heap = h0) (fun _ _ _ _ _ => True) (fun _ UQ oQ VQ => ∃ vQ LQ, oQ = .returned vQ ∧ Q1 Z oa h0 n0 vQ VQ.heap LQ ∧ FrameEnd UQ oQ VQ LQ ({ frames := 1, cells := 1, slots := 16, locals := 12 } : Room).cells ({ frames := 1, cells := 1, slots := 16, locals := 12 } : Room).slots) := by
  refine MetFree.of_bodySF (plainFor_of_name own_pn0) hisR ?_
  intro p e s m args below meth c s₁ Bd hml0 hP hK
  obtain ⟨rfl, hZ, hh⟩ := hP
  have hx := Bd.exec
  have hby := Bd.bytes
  have hml : c.maxLocals = 1 := hml0
  have hown : s.vm.findClass "com/example/demarq/demarq/broker/SortedMessages" = some m.cls := findClass_of_methodNamed Bd.named
  have hnm := (name_of_methodNamed Bd.named Bd.method).1
  have X0 : Stand p l e ({ frames := 1, cells := 1, slots := 16, locals := 12 } : Room) s m #[(.ref oa)] below meth c s₁ [] 0 0 := Stand.of_body Bd
  have e0 : s₁.heap = h0 := by rw [← hh, Bd.state]; rfl
  have N0 := Fr.nil n0
  show Go p e below (EndQ s below (Q1 Z oa h0 n0) ({ frames := 1, cells := 1, slots := 16, locals := 12 } : Room).cells ({ frames := 1, cells := 1, slots := 16, locals := 12 } : Room).slots) s₁ (entryFrame m #[(.ref oa)] 1)
  obtain ⟨Φ, hΦ⟩ : ∃ Φ, Φ = EndQ s below (Q1 Z oa h0 n0) ({ frames := 1, cells := 1, slots := 16, locals := 12 } : Room).cells ({ frames := 1, cells := 1, slots := 16, locals := 12 } : Room).slots := ⟨_, rfl⟩
  rw [← hΦ, own_ef1]
  show Go p e below Φ s₁ (mkF m 0 #[.val (.ref oa)] [])
  refine Go.of (fun t k => XS.aloadN X0.here hx rfl (hb hby own_d1_0) rfl rfl  k) ?_
  show Go p e below Φ s₁ (mkF m 1 #[.val (.ref oa)] [(.ref oa)])
  obtain ⟨T1, X1, e1, st1⟩ := initO X0 hx hZ hown (hw _ (List.mem_of_getElem? (i := 6) rfl)) (hw _ (List.mem_of_getElem? (i := 7) rfl)) (hw _ (List.mem_of_getElem? (i := 8) rfl)) e0 (g := (mkF m 1 #[.val (.ref oa)] [(.ref oa)])) rfl (by rw [hml]; rfl) rfl (hb hby own_d1_1) (by decide) (W := 0) (by show 2 * 0 + _ ≤ _; exact Nat.le_of_eq rfl) (by decide)
  refine Go.of st1 ?_
  show Go p e below Φ T1 (mkF m 4 #[.val (.ref oa)] [])
  refine Go.of (fun t k => XS.aloadN X1.here hx rfl (hb hby own_d1_4) rfl rfl  k) ?_
  show Go p e below Φ T1 (mkF m 5 #[.val (.ref oa)] [(.ref oa)])
  refine Go.of (fun t k => XS.bipush X1.here hx rfl (hb hby own_d1_5) k) ?_
  show Go p e below Φ T1 (mkF m 7 #[.val (.ref oa)] [(.int (16 : Int32)), (.ref oa)])
  obtain ⟨T2, h2, k2, X2, e2, E2, A2, Ov2, st2⟩ := newR X1 hx hZ hown (hw _ (List.mem_of_getElem? (i := 9) rfl)) (hw _ (List.mem_of_getElem? (i := 10) rfl)) e1 (g := (mkF m 7 #[.val (.ref oa)] [(.int (16 : Int32)), (.ref oa)])) rfl (hb hby own_d1_7) rfl (by decide) (cap := 16) (by decide) (by decide) (by decide) (by decide)
  obtain ⟨b2, g2⟩ : ∃ z, z = h0.size := ⟨_, rfl⟩
  rw [← g2] at A2 st2
  have ne_oa_b2 : oa ≠ b2 := Nat.ne_of_lt (Nat.lt_of_lt_of_le F_oa_ring.lt (Nat.le_of_eq g2.symm))
  have g_b2 : n0 ≤ b2 := Nat.le_trans Z0 (Nat.le_of_eq g2.symm)
  have sz_b2 : h0.size ≤ b2 := Nat.le_trans (Keep.refl h0 [oa]).1 (Nat.le_of_eq g2.symm)
  have K2 := (Keep.refl h0 [oa]).ext E2
  have Z2 := Nat.le_trans Z0 E2.1
  have F_oa_ring := F_oa_ring.ext E2
  have F_oa_size := F_oa_size.ext E2
  have F_oa_head := F_oa_head.ext E2
  have E_oa := E_oa.ext E2
  have V_b2 : Arh Z h2 b2 k2 (.object "com/example/demarq/demarq/broker/Message") (16 : Int32) [] [] .null := (Arv.new A2 (by decide)).arh
  refine Go.of st2 ?_
  show Go p e below Φ T2 (mkF m 10 #[.val (.ref oa)] [(.ref b2), (.ref oa)])
  obtain ⟨T3, h3, X3, e3, W3, st3⟩ := putF X2 hx hZ hown (host := "") (Or.inl (hw _ (List.mem_of_getElem? (i := 11) rfl))) Via.refl e2 F_oa_ring E_oa (Or.inl (hw _ (List.mem_of_getElem? (i := 12) rfl))) (hw _ (List.mem_of_getElem? (i := 1) rfl)) (ty := (.array (.object "com/example/demarq/demarq/broker/Message"))) (by decide) rfl rfl (g := (mkF m 10 #[.val (.ref oa)] [(.ref b2), (.ref oa)])) rfl rfl (hb hby own_d1_10)
  have N3 := Fr.snoc X3 N0 g_oa
  have F_oa_ring := F_oa_ring.same W3
  have F_oa_size := F_oa_size.other W3 (Or.inr (slot_ne (Or.inl (hw _ (List.mem_of_getElem? (i := 32) rfl))) (Or.inl (hw _ (List.mem_of_getElem? (i := 12) rfl))) (by decide) (t := .int) (t' := (.array (.object "com/example/demarq/demarq/broker/Message"))) (by decide) (by decide)))
  have F_oa_head := F_oa_head.other W3 (Or.inr (slot_ne (Or.inl (hw _ (List.mem_of_getElem? (i := 47) rfl))) (Or.inl (hw _ (List.mem_of_getElem? (i := 12) rfl))) (by decide) (t := .int) (t' := (.array (.object "com/example/demarq/demarq/broker/Message"))) (by decide) (by decide)))
  have E_oa := E_oa.wr W3
  have V_b2 := V_b2.other W3 (Ne.symm ne_oa_b2)
  have K3 : Keep h0 h3 [oa] := K2.wr W3 (Or.inl (List.mem_of_getElem? (i := 0) rfl))
  have Z3 := Nat.le_trans Z2 (Keep.of_wr W3).1
  obtain ⟨lc3, X3, N3⟩ : ∃ lc, Stand p l e ({ frames := 1, cells := 1, slots := 16, locals := 12 } : Room) s m #[(.ref oa)] below meth c T3 lc 1 16 ∧ Fr n0 lc := ⟨_, X3, N3⟩
  refine Go.of st3 ?_
  show Go p e below Φ T3 (mkF m 13 #[.val (.ref oa)] [])
  rw [hΦ]
  refine Go.retV X3 hx Bd.notSynchronized Bd.returns (hb hby own_d1_13) (by decide) (by decide) ?_
  rw [e3]
  exact ⟨b2, _, rfl, N3, K3, F_oa_ring, F_oa_size, F_oa_head, V_b2, Ov2, sz_b2⟩
theorem own_ef3 (m : MethodId) (ma : Addr) (pp : Int64) (dd : Int32) : entryFrame m #[(.ref ma), (.long pp), .null, (.int dd)] 5 = mkF m 0 #[.val (.ref ma), .val (.long pp), .second, .val .null, .val (.int dd)] [] := by first | (simp [entryFrame, mkF, argsToLocals, Value.category]; done) | rfl
def Q3 (Z : State) (ma : Addr) (pp : Int64) (dd : Int32) (u0 : Int64) (u2 : Int32) (h0 : Heap) (n0 : Nat) (vr : Option Value) (hr : Heap) (Lr : List Loc) : Prop := vr = none ∧ Fr n0 Lr ∧ Keep h0 hr [ma] ∧ Fld Z hr ma "com/example/demarq/demarq/broker/Message" "position" "J" (.long pp)
set_option maxRecDepth 65536 in
set_option maxHeartbeats 40000000 in
theorem rm3 (l : Launch) (Z : State) (a0 : Array Value) (hw : ∀ d ∈ tables_1, d.before a0 Z = true) (ws : List Jvm.Cond) (ma : Addr) (pp : Int64) (dd : Int32) (u0 : Int64) (u2 : Int32) (h0 : Heap) (n0 : Nat) (Z0 : n0 ≤ h0.size) (F_ma_position : Fld Z h0 ma "com/example/demarq/demarq/broker/Message" "position" "J" (.long u0)) (F_ma_encoded : Fld Z h0 ma "com/example/demarq/demarq/broker/Message" "encoded" "[B" .null) (F_ma_durable : Fld Z h0 ma "com/example/demarq/demarq/broker/Message" "durable" "Z" (.int u2)) (E_ma : Exa Z h0 ma "com/example/demarq/demarq/broker/Message") (g_ma : n0 ≤ ma) :
    MetFree l (⟨"com/example/demarq/demarq/broker/Message", "<init>", "(J[BZ)V"⟩ : MethodName) (head1 (Jvm.Cond.code (⟨"com/example/demarq/demarq/broker/Message", "<init>", "(J[BZ)V"⟩ : MethodName) prog_7_method_1_code 5 none :: ws) ({ frames := 1, cells := 0, slots := 0, locals := 12 } : Room)) (fun aQ UQ => aQ = #[(.ref ma), (.long pp), .null, (.int dd)] ∧ Z.Warmed39 UQ.vm ∧ UQ.heap = h0) (fun _ _ _ _ _ => True) (fun _ UQ oQ VQ => ∃ vQ LQ, oQ = .returned vQ ∧ Q3 Z ma pp dd u0 u2 h0 n0 vQ VQ.heap LQ ∧ FrameEnd UQ oQ VQ LQ ({ frames := 1, cells := 0, slots := 0, locals := 12 } : Room).cells ({ frames := 1, cells := 0, slots := 0, locals := 12 } : Room).slots) := by
  refine MetFree.of_bodySF (plainFor_of_name own_pn1) hisR ?_
  intro p e s m args below meth c s₁ Bd hml0 hP hK
  obtain ⟨rfl, hZ, hh⟩ := hP
  have hx := Bd.exec
  have hby := Bd.bytes
  have hml : c.maxLocals = 5 := hml0
  have hown : s.vm.findClass "com/example/demarq/demarq/broker/Message" = some m.cls := findClass_of_methodNamed Bd.named
  have hnm := (name_of_methodNamed Bd.named Bd.method).1
  have X0 : Stand p l e ({ frames := 1, cells := 0, slots := 0, locals := 12 } : Room) s m #[(.ref ma), (.long pp), .null, (.int dd)] below meth c s₁ [] 0 0 := Stand.of_body Bd
  have e0 : s₁.heap = h0 := by rw [← hh, Bd.state]; rfl
  have N0 := Fr.nil n0
  show Go p e below (EndQ s below (Q3 Z ma pp dd u0 u2 h0 n0) ({ frames := 1, cells := 0, slots := 0, locals := 12 } : Room).cells ({ frames := 1, cells := 0, slots := 0, locals := 12 } : Room).slots) s₁ (entryFrame m #[(.ref ma), (.long pp), .null, (.int dd)] 5)
  obtain ⟨Φ, hΦ⟩ : ∃ Φ, Φ = EndQ s below (Q3 Z ma pp dd u0 u2 h0 n0) ({ frames := 1, cells := 0, slots := 0, locals := 12 } : Room).cells ({ frames := 1, cells := 0, slots := 0, locals := 12 } : Room).slots := ⟨_, rfl⟩
  rw [← hΦ, own_ef3]
  show Go p e below Φ s₁ (mkF m 0 #[.val (.ref ma), .val (.long pp), .second, .val .null, .val (.int dd)] [])
  refine Go.of (fun t k => XS.aloadN X0.here hx rfl (hb hby own_d3_0) rfl rfl  k) ?_
  show Go p e below Φ s₁ (mkF m 1 #[.val (.ref ma), .val (.long pp), .second, .val .null, .val (.int dd)] [(.ref ma)])
  obtain ⟨T1, X1, e1, st1⟩ := initO X0 hx hZ hown (hw _ (List.mem_of_getElem? (i := 19) rfl)) (hw _ (List.mem_of_getElem? (i := 7) rfl)) (hw _ (List.mem_of_getElem? (i := 8) rfl)) e0 (g := (mkF m 1 #[.val (.ref ma), .val (.long pp), .second, .val .null, .val (.int dd)] [(.ref ma)])) rfl (by rw [hml]; rfl) rfl (hb hby own_d3_1) (by decide) (W := 0) (by show 2 * 0 + _ ≤ _; exact Nat.le_of_eq rfl) (by decide)
  refine Go.of st1 ?_
  show Go p e below Φ T1 (mkF m 4 #[.val (.ref ma), .val (.long pp), .second, .val .null, .val (.int dd)] [])
  refine Go.of (fun t k => XS.aloadN X1.here hx rfl (hb hby own_d3_4) rfl rfl  k) ?_
  show Go p e below Φ T1 (mkF m 5 #[.val (.ref ma), .val (.long pp), .second, .val .null, .val (.int dd)] [(.ref ma)])
  refine Go.of (fun t k => XS.lloadN X1.here hx rfl (hb hby own_d3_5) rfl  k) ?_
  show Go p e below Φ T1 (mkF m 6 #[.val (.ref ma), .val (.long pp), .second, .val .null, .val (.int dd)] [(.long pp), (.ref ma)])
  obtain ⟨T2, h2, X2, e2, W2, st2⟩ := putF X1 hx hZ hown (host := "") (Or.inl (hw _ (List.mem_of_getElem? (i := 20) rfl))) Via.refl e1 F_ma_position E_ma (Or.inr ⟨(hw _ (List.mem_of_getElem? (i := 21) rfl)), rfl, hnm⟩) (hw _ (List.mem_of_getElem? (i := 14) rfl)) (ty := .long) (by decide) rfl rfl (g := (mkF m 6 #[.val (.ref ma), .val (.long pp), .second, .val .null, .val (.int dd)] [(.long pp), (.ref ma)])) rfl rfl (hb hby own_d3_6)
  have N2 := Fr.snoc X2 N0 g_ma
  have F_ma_position := F_ma_position.same W2
  have F_ma_encoded := F_ma_encoded.other W2 (Or.inr (slot_ne (Or.inl (hw _ (List.mem_of_getElem? (i := 23) rfl))) (Or.inr (hw _ (List.mem_of_getElem? (i := 21) rfl))) (by decide) (t := (.array .byte)) (t' := .long) (by decide) (by decide)))
  have F_ma_durable := F_ma_durable.other W2 (Or.inr (slot_ne (Or.inr (hw _ (List.mem_of_getElem? (i := 25) rfl))) (Or.inr (hw _ (List.mem_of_getElem? (i := 21) rfl))) (by decide) (t := .boolean) (t' := .long) (by decide) (by decide)))
  have E_ma := E_ma.wr W2
  have K2 : Keep h0 h2 [ma] := (Keep.refl h0 [ma]).wr W2 (Or.inl (List.mem_of_getElem? (i := 0) rfl))
  have Z2 := Nat.le_trans Z0 (Keep.of_wr W2).1
  obtain ⟨lc2, X2, N2⟩ : ∃ lc, Stand p l e ({ frames := 1, cells := 0, slots := 0, locals := 12 } : Room) s m #[(.ref ma), (.long pp), .null, (.int dd)] below meth c T2 lc 0 0 ∧ Fr n0 lc := ⟨_, X2, N2⟩
  refine Go.of st2 ?_
  show Go p e below Φ T2 (mkF m 9 #[.val (.ref ma), .val (.long pp), .second, .val .null, .val (.int dd)] [])
  refine Go.of (fun t k => XS.aloadN X2.here hx rfl (hb hby own_d3_9) rfl rfl  k) ?_
  show Go p e below Φ T2 (mkF m 10 #[.val (.ref ma), .val (.long pp), .second, .val .null, .val (.int dd)] [(.ref ma)])
  refine Go.of (fun t k => XS.aloadN X2.here hx rfl (hb hby own_d3_10) rfl rfl  k) ?_
  show Go p e below Φ T2 (mkF m 11 #[.val (.ref ma), .val (.long pp), .second, .val .null, .val (.int dd)] [.null, (.ref ma)])
  obtain ⟨T3, h3, X3, e3, W3, st3⟩ := putF X2 hx hZ hown (host := "") (Or.inl (hw _ (List.mem_of_getElem? (i := 22) rfl))) Via.refl e2 F_ma_encoded E_ma (Or.inl (hw _ (List.mem_of_getElem? (i := 23) rfl))) (hw _ (List.mem_of_getElem? (i := 14) rfl)) (ty := (.array .byte)) (by decide) rfl rfl (g := (mkF m 11 #[.val (.ref ma), .val (.long pp), .second, .val .null, .val (.int dd)] [.null, (.ref ma)])) rfl rfl (hb hby own_d3_11)
  have N3 := Fr.snoc X3 N2 g_ma
  have F_ma_encoded := F_ma_encoded.same W3
  have F_ma_position := F_ma_position.other W3 (Or.inr (slot_ne (Or.inr (hw _ (List.mem_of_getElem? (i := 21) rfl))) (Or.inl (hw _ (List.mem_of_getElem? (i := 23) rfl))) (by decide) (t := .long) (t' := (.array .byte)) (by decide) (by decide)))
  have F_ma_durable := F_ma_durable.other W3 (Or.inr (slot_ne (Or.inr (hw _ (List.mem_of_getElem? (i := 25) rfl))) (Or.inl (hw _ (List.mem_of_getElem? (i := 23) rfl))) (by decide) (t := .boolean) (t' := (.array .byte)) (by decide) (by decide)))
  have E_ma := E_ma.wr W3
  have K3 : Keep h0 h3 [ma] := K2.wr W3 (Or.inl (List.mem_of_getElem? (i := 0) rfl))
  have Z3 := Nat.le_trans Z2 (Keep.of_wr W3).1
  obtain ⟨lc3, X3, N3⟩ : ∃ lc, Stand p l e ({ frames := 1, cells := 0, slots := 0, locals := 12 } : Room) s m #[(.ref ma), (.long pp), .null, (.int dd)] below meth c T3 lc 0 0 ∧ Fr n0 lc := ⟨_, X3, N3⟩
  refine Go.of st3 ?_
  show Go p e below Φ T3 (mkF m 14 #[.val (.ref ma), .val (.long pp), .second, .val .null, .val (.int dd)] [])
  refine Go.of (fun t k => XS.aloadN X3.here hx rfl (hb hby own_d3_14) rfl rfl  k) ?_
  show Go p e below Φ T3 (mkF m 15 #[.val (.ref ma), .val (.long pp), .second, .val .null, .val (.int dd)] [(.ref ma)])
  refine Go.of (fun t k => XS.iload X3.here hx rfl (hb hby own_d3_15) rfl  k) ?_
  show Go p e below Φ T3 (mkF m 17 #[.val (.ref ma), .val (.long pp), .second, .val .null, .val (.int dd)] [(.int dd), (.ref ma)])
  obtain ⟨T4, h4, X4, e4, W4, st4⟩ := putFN X3 hx hZ hown (hw _ (List.mem_of_getElem? (i := 24) rfl)) Via.refl e3 F_ma_durable E_ma (Or.inr ⟨(hw _ (List.mem_of_getElem? (i := 25) rfl)), rfl, hnm⟩) (hw _ (List.mem_of_getElem? (i := 14) rfl)) (ty := .boolean) (v' := (.int (nar .boolean dd))) (by decide) rfl (fits_nar_bool _) (g := (mkF m 17 #[.val (.ref ma), .val (.long pp), .second, .val .null, .val (.int dd)] [(.int dd), (.ref ma)])) rfl rfl (hb hby own_d3_17)
  have N4 := Fr.snoc X4 N3 g_ma
  have F_ma_durable := F_ma_durable.same W4
  have F_ma_position := F_ma_position.other W4 (Or.inr (slot_ne (Or.inr (hw _ (List.mem_of_getElem? (i := 21) rfl))) (Or.inr (hw _ (List.mem_of_getElem? (i := 25) rfl))) (by decide) (t := .long) (t' := .boolean) (by decide) (by decide)))
  have F_ma_encoded := F_ma_encoded.other W4 (Or.inr (slot_ne (Or.inl (hw _ (List.mem_of_getElem? (i := 23) rfl))) (Or.inr (hw _ (List.mem_of_getElem? (i := 25) rfl))) (by decide) (t := (.array .byte)) (t' := .boolean) (by decide) (by decide)))
  have E_ma := E_ma.wr W4
  have K4 : Keep h0 h4 [ma] := K3.wr W4 (Or.inl (List.mem_of_getElem? (i := 0) rfl))
  have Z4 := Nat.le_trans Z3 (Keep.of_wr W4).1
  obtain ⟨lc4, X4, N4⟩ : ∃ lc, Stand p l e ({ frames := 1, cells := 0, slots := 0, locals := 12 } : Room) s m #[(.ref ma), (.long pp), .null, (.int dd)] below meth c T4 lc 0 0 ∧ Fr n0 lc := ⟨_, X4, N4⟩
  refine Go.of st4 ?_
  show Go p e below Φ T4 (mkF m 20 #[.val (.ref ma), .val (.long pp), .second, .val .null, .val (.int dd)] [])
  rw [hΦ]
  refine Go.retV X4 hx Bd.notSynchronized Bd.returns (hb hby own_d3_20) (by decide) (by decide) ?_
  rw [e4]
  exact ⟨rfl, N4, K4, F_ma_position⟩
theorem own_ef4z (m : MethodId) (oa : Addr) : entryFrame m #[(.ref oa)] 1 = mkF m 0 #[.val (.ref oa)] [] := by first | (simp [entryFrame, mkF, argsToLocals, Value.category]; done) | rfl
def Q4z (Z : State) (oa : Addr) (h0 : Heap) (n0 : Nat) (vr : Option Value) (hr : Heap) (Lr : List Loc) : Prop := vr = some (.int (1 : Int32)) ∧ Fr n0 Lr ∧ hr = h0
set_option maxRecDepth 65536 in
set_option maxHeartbeats 40000000 in
theorem rm4z (l : Launch) (Z : State) (a0 : Array Value) (hw : ∀ d ∈ tables_1, d.before a0 Z = true) (ws : List Jvm.Cond) (oa : Addr) (h0 : Heap) (n0 : Nat) (Z0 : n0 ≤ h0.size) (F_oa_size : Fld Z h0 oa "com/example/demarq/demarq/broker/SortedMessages" "size" "I" (.int (0 : Int32))) :
    MetFree l (⟨"com/example/demarq/demarq/broker/SortedMessages", "isEmpty", "()Z"⟩ : MethodName) (head1 (Jvm.Cond.code (⟨"com/example/demarq/demarq/broker/SortedMessages", "isEmpty", "()Z"⟩ : MethodName) prog_12_method_2_code 1 (some .boolean) :: ws) ({ frames := 0, cells := 0, slots := 0, locals := 0 } : Room)) (fun aQ UQ => aQ = #[(.ref oa)] ∧ Z.Warmed39 UQ.vm ∧ UQ.heap = h0) (fun _ _ _ _ _ => True) (fun _ UQ oQ VQ => ∃ vQ LQ, oQ = .returned vQ ∧ Q4z Z oa h0 n0 vQ VQ.heap LQ ∧ FrameEnd UQ oQ VQ LQ ({ frames := 0, cells := 0, slots := 0, locals := 0 } : Room).cells ({ frames := 0, cells := 0, slots := 0, locals := 0 } : Room).slots) := by
  refine MetFree.of_bodySF (plainFor_of_name own_pn0) hisR ?_
  intro p e s m args below meth c s₁ Bd hml0 hP hK
  obtain ⟨rfl, hZ, hh⟩ := hP
  have hx := Bd.exec
  have hby := Bd.bytes
  have hml : c.maxLocals = 1 := hml0
  have hown : s.vm.findClass "com/example/demarq/demarq/broker/SortedMessages" = some m.cls := findClass_of_methodNamed Bd.named
  have hnm := (name_of_methodNamed Bd.named Bd.method).1
  have X0 : Stand p l e ({ frames := 0, cells := 0, slots := 0, locals := 0 } : Room) s m #[(.ref oa)] below meth c s₁ [] 0 0 := Stand.of_body Bd
  have e0 : s₁.heap = h0 := by rw [← hh, Bd.state]; rfl
  have N0 := Fr.nil n0
  show Go p e below (EndQ s below (Q4z Z oa h0 n0) ({ frames := 0, cells := 0, slots := 0, locals := 0 } : Room).cells ({ frames := 0, cells := 0, slots := 0, locals := 0 } : Room).slots) s₁ (entryFrame m #[(.ref oa)] 1)
  obtain ⟨Φ, hΦ⟩ : ∃ Φ, Φ = EndQ s below (Q4z Z oa h0 n0) ({ frames := 0, cells := 0, slots := 0, locals := 0 } : Room).cells ({ frames := 0, cells := 0, slots := 0, locals := 0 } : Room).slots := ⟨_, rfl⟩
  rw [← hΦ, own_ef4z]
  show Go p e below Φ s₁ (mkF m 0 #[.val (.ref oa)] [])
  refine Go.of (fun t k => XS.aloadN X0.here hx rfl (hb hby own_d4_0) rfl rfl  k) ?_
  show Go p e below Φ s₁ (mkF m 1 #[.val (.ref oa)] [(.ref oa)])
  obtain ⟨T1, X1, e1, st1⟩ := getF X0 hx hZ hown (host := "") (Or.inl (hw _ (List.mem_of_getElem? (i := 31) rfl))) Via.refl e0 F_oa_size (g := (mkF m 1 #[.val (.ref oa)] [(.ref oa)])) rfl rfl (hb hby own_d4_1)
  refine Go.of st1 ?_
  show Go p e below Φ T1 (mkF m 4 #[.val (.ref oa)] [(.int (0 : Int32))])
  refine Go.of (fun t k => XS.ifNo X1.here hx rfl (hb hby own_d4_4) rfl (XT.i0_ne_f rfl) k) ?_
  show Go p e below Φ T1 (mkF m 7 #[.val (.ref oa)] [])
  refine Go.of (fun t k => XS.iconst X1.here hx rfl (hb hby own_d4_7) k) ?_
  show Go p e below Φ T1 (mkF m 8 #[.val (.ref oa)] [(.int (1 : Int32))])
  refine Go.of (fun t k => XS.goto X1.here hx rfl (pc0 := 8) (pc' := 12) rfl (hb hby own_d4_8) (by decide) (by decide) k) ?_
  show Go p e below Φ T1 (mkF m 12 #[.val (.ref oa)] [(.int (1 : Int32))])
  rw [hΦ]
  refine Go.ret X1 hx Bd.notSynchronized Bd.returns rfl (Or.inl ⟨rfl, Or.inr (Or.inl rfl), _, rfl⟩) (hb hby own_d4_12) (by decide) (by decide) ?_
  rw [e1]
  exact ⟨rfl, N0, rfl⟩
theorem own_ef4n (m : MethodId) (oa : Addr) : entryFrame m #[(.ref oa)] 1 = mkF m 0 #[.val (.ref oa)] [] := by first | (simp [entryFrame, mkF, argsToLocals, Value.category]; done) | rfl
def Q4n (Z : State) (oa : Addr) (nn : Int32) (h0 : Heap) (n0 : Nat) (vr : Option Value) (hr : Heap) (Lr : List Loc) : Prop := vr = some (.int (0 : Int32)) ∧ Fr n0 Lr ∧ hr = h0
set_option maxRecDepth 65536 in
set_option maxHeartbeats 40000000 in
theorem rm4n (l : Launch) (Z : State) (a0 : Array Value) (hw : ∀ d ∈ tables_1, d.before a0 Z = true) (ws : List Jvm.Cond) (oa : Addr) (nn : Int32) (h0 : Heap) (n0 : Nat) (Z0 : n0 ≤ h0.size) (F_oa_size : Fld Z h0 oa "com/example/demarq/demarq/broker/SortedMessages" "size" "I" (.int nn)) (hnz : ¬ (nn = (0 : Int32))) :
    MetFree l (⟨"com/example/demarq/demarq/broker/SortedMessages", "isEmpty", "()Z"⟩ : MethodName) (head1 (Jvm.Cond.code (⟨"com/example/demarq/demarq/broker/SortedMessages", "isEmpty", "()Z"⟩ : MethodName) prog_12_method_2_code 1 (some .boolean) :: ws) ({ frames := 0, cells := 0, slots := 0, locals := 0 } : Room)) (fun aQ UQ => aQ = #[(.ref oa)] ∧ Z.Warmed39 UQ.vm ∧ UQ.heap = h0) (fun _ _ _ _ _ => True) (fun _ UQ oQ VQ => ∃ vQ LQ, oQ = .returned vQ ∧ Q4n Z oa nn h0 n0 vQ VQ.heap LQ ∧ FrameEnd UQ oQ VQ LQ ({ frames := 0, cells := 0, slots := 0, locals := 0 } : Room).cells ({ frames := 0, cells := 0, slots := 0, locals := 0 } : Room).slots) := by
  refine MetFree.of_bodySF (plainFor_of_name own_pn0) hisR ?_
  intro p e s m args below meth c s₁ Bd hml0 hP hK
  obtain ⟨rfl, hZ, hh⟩ := hP
  have hx := Bd.exec
  have hby := Bd.bytes
  have hml : c.maxLocals = 1 := hml0
  have hown : s.vm.findClass "com/example/demarq/demarq/broker/SortedMessages" = some m.cls := findClass_of_methodNamed Bd.named
  have hnm := (name_of_methodNamed Bd.named Bd.method).1
  have X0 : Stand p l e ({ frames := 0, cells := 0, slots := 0, locals := 0 } : Room) s m #[(.ref oa)] below meth c s₁ [] 0 0 := Stand.of_body Bd
  have e0 : s₁.heap = h0 := by rw [← hh, Bd.state]; rfl
  have N0 := Fr.nil n0
  show Go p e below (EndQ s below (Q4n Z oa nn h0 n0) ({ frames := 0, cells := 0, slots := 0, locals := 0 } : Room).cells ({ frames := 0, cells := 0, slots := 0, locals := 0 } : Room).slots) s₁ (entryFrame m #[(.ref oa)] 1)
  obtain ⟨Φ, hΦ⟩ : ∃ Φ, Φ = EndQ s below (Q4n Z oa nn h0 n0) ({ frames := 0, cells := 0, slots := 0, locals := 0 } : Room).cells ({ frames := 0, cells := 0, slots := 0, locals := 0 } : Room).slots := ⟨_, rfl⟩
  rw [← hΦ, own_ef4n]
  show Go p e below Φ s₁ (mkF m 0 #[.val (.ref oa)] [])
  refine Go.of (fun t k => XS.aloadN X0.here hx rfl (hb hby own_d4_0) rfl rfl  k) ?_
  show Go p e below Φ s₁ (mkF m 1 #[.val (.ref oa)] [(.ref oa)])
  obtain ⟨T1, X1, e1, st1⟩ := getF X0 hx hZ hown (host := "") (Or.inl (hw _ (List.mem_of_getElem? (i := 31) rfl))) Via.refl e0 F_oa_size (g := (mkF m 1 #[.val (.ref oa)] [(.ref oa)])) rfl rfl (hb hby own_d4_1)
  refine Go.of st1 ?_
  show Go p e below Φ T1 (mkF m 4 #[.val (.ref oa)] [(.int nn)])
  refine Go.of (fun t k => XS.ifYes X1.here hx rfl (pc0 := 4) (pc' := 11) rfl (hb hby own_d4_4) rfl (XT.i0_ne_t hnz) (by decide) (by decide) k) ?_
  show Go p e below Φ T1 (mkF m 11 #[.val (.ref oa)] [])
  refine Go.of (fun t k => XS.iconst X1.here hx rfl (hb hby own_d4_11) k) ?_
  show Go p e below Φ T1 (mkF m 12 #[.val (.ref oa)] [(.int (0 : Int32))])
  rw [hΦ]
  refine Go.ret X1 hx Bd.notSynchronized Bd.returns rfl (Or.inl ⟨rfl, Or.inr (Or.inl rfl), _, rfl⟩) (hb hby own_d4_12) (by decide) (by decide) ?_
  rw [e1]
  exact ⟨rfl, N0, rfl⟩
theorem own_ef5z (m : MethodId) (oa : Addr) (va : Addr) : entryFrame m #[(.ref oa), (.ref va)] 4 = mkF m 0 #[.val (.ref oa), .val (.ref va), .unset, .unset] [] := by first | (simp [entryFrame, mkF, argsToLocals, Value.category]; done) | rfl
def Q5z (Z : State) (oa : Addr) (va : Addr) (ra : Addr) (kr : ClassId) (hs : List (Int32 × Value)) (h0 : Heap) (n0 : Nat) (vr : Option Value) (hr : Heap) (Lr : List Loc) : Prop := vr = none ∧ Fr n0 Lr ∧ Keep h0 hr [oa, ra] ∧ Fld Z hr oa "com/example/demarq/demarq/broker/SortedMessages" "size" "I" (.int (1 : Int32)) ∧ Fld Z hr oa "com/example/demarq/demarq/broker/SortedMessages" "head" "I" (.int (0 : Int32)) ∧ Fld Z hr oa "com/example/demarq/demarq/broker/SortedMessages" "ring" "[Lcom/example/demarq/demarq/broker/Message;" (.ref ra) ∧ Arh Z hr ra kr (.object "com/example/demarq/demarq/broker/Message") (16 : Int32) (((0 : Int32), (.ref va)) :: hs) [] .null
set_option maxRecDepth 65536 in
set_option maxHeartbeats 40000000 in
theorem rm5z (l : Launch) (Z : State) (a0 : Array Value) (hw : ∀ d ∈ tables_1, d.before a0 Z = true) (ws : List Jvm.Cond) (oa : Addr) (va : Addr) (ra : Addr) (kr : ClassId) (hs : List (Int32 × Value)) (h0 : Heap) (n0 : Nat) (Z0 : n0 ≤ h0.size) (F_oa_head : Fld Z h0 oa "com/example/demarq/demarq/broker/SortedMessages" "head" "I" (.int (0 : Int32))) (F_oa_ring : Fld Z h0 oa "com/example/demarq/demarq/broker/SortedMessages" "ring" "[Lcom/example/demarq/demarq/broker/Message;" (.ref ra)) (V_ra : Arh Z h0 ra kr (.object "com/example/demarq/demarq/broker/Message") (16 : Int32) hs [] .null) (F_oa_size : Fld Z h0 oa "com/example/demarq/demarq/broker/SortedMessages" "size" "I" (.int (0 : Int32))) (E_va : Exa Z h0 va "com/example/demarq/demarq/broker/Message") (E_oa : Exa Z h0 oa "com/example/demarq/demarq/broker/SortedMessages") (g_oa : n0 ≤ oa) (g_ra : n0 ≤ ra) (ne_oa_ra : oa ≠ ra) (Ov : Ovr Z kr "com/example/demarq/demarq/broker/Message") :
    MetFree l (⟨"com/example/demarq/demarq/broker/SortedMessages", "add", "(Lcom/example/demarq/demarq/broker/Message;)V"⟩ : MethodName) (head1 (Jvm.Cond.code (⟨"com/example/demarq/demarq/broker/SortedMessages", "add", "(Lcom/example/demarq/demarq/broker/Message;)V"⟩ : MethodName) prog_12_method_3_code 4 none :: ws) ({ frames := 2, cells := 0, slots := 0, locals := 28 } : Room)) (fun aQ UQ => aQ = #[(.ref oa), (.ref va)] ∧ Z.Warmed39 UQ.vm ∧ UQ.heap = h0) (fun _ _ _ _ _ => True) (fun _ UQ oQ VQ => ∃ vQ LQ, oQ = .returned vQ ∧ Q5z Z oa va ra kr hs h0 n0 vQ VQ.heap LQ ∧ FrameEnd UQ oQ VQ LQ ({ frames := 2, cells := 0, slots := 0, locals := 28 } : Room).cells ({ frames := 2, cells := 0, slots := 0, locals := 28 } : Room).slots) := by
  refine MetFree.of_bodySF (plainFor_of_name own_pn0) hisR ?_
  intro p e s m args below meth c s₁ Bd hml0 hP hK
  obtain ⟨rfl, hZ, hh⟩ := hP
  have hx := Bd.exec
  have hby := Bd.bytes
  have hml : c.maxLocals = 4 := hml0
  have hown : s.vm.findClass "com/example/demarq/demarq/broker/SortedMessages" = some m.cls := findClass_of_methodNamed Bd.named
  have hnm := (name_of_methodNamed Bd.named Bd.method).1
  have X0 : Stand p l e ({ frames := 2, cells := 0, slots := 0, locals := 28 } : Room) s m #[(.ref oa), (.ref va)] below meth c s₁ [] 0 0 := Stand.of_body Bd
  have e0 : s₁.heap = h0 := by rw [← hh, Bd.state]; rfl
  have N0 := Fr.nil n0
  show Go p e below (EndQ s below (Q5z Z oa va ra kr hs h0 n0) ({ frames := 2, cells := 0, slots := 0, locals := 28 } : Room).cells ({ frames := 2, cells := 0, slots := 0, locals := 28 } : Room).slots) s₁ (entryFrame m #[(.ref oa), (.ref va)] 4)
  obtain ⟨Φ, hΦ⟩ : ∃ Φ, Φ = EndQ s below (Q5z Z oa va ra kr hs h0 n0) ({ frames := 2, cells := 0, slots := 0, locals := 28 } : Room).cells ({ frames := 2, cells := 0, slots := 0, locals := 28 } : Room).slots := ⟨_, rfl⟩
  rw [← hΦ, own_ef5z]
  show Go p e below Φ s₁ (mkF m 0 #[.val (.ref oa), .val (.ref va), .unset, .unset] [])
  refine Go.of (fun t k => XS.aloadN X0.here hx rfl (hb hby own_d5_0) rfl rfl  k) ?_
  show Go p e below Φ s₁ (mkF m 1 #[.val (.ref oa), .val (.ref va), .unset, .unset] [(.ref oa)])
  obtain ⟨T1, X1, e1, st1⟩ := getF X0 hx hZ hown (host := "") (Or.inl (hw _ (List.mem_of_getElem? (i := 31) rfl))) Via.refl e0 F_oa_size (g := (mkF m 1 #[.val (.ref oa), .val (.ref va), .unset, .unset] [(.ref oa)])) rfl rfl (hb hby own_d5_1)
  refine Go.of st1 ?_
  show Go p e below Φ T1 (mkF m 4 #[.val (.ref oa), .val (.ref va), .unset, .unset] [(.int (0 : Int32))])
  refine Go.of (fun t k => XS.aloadN X1.here hx rfl (hb hby own_d5_4) rfl rfl  k) ?_
  show Go p e below Φ T1 (mkF m 5 #[.val (.ref oa), .val (.ref va), .unset, .unset] [(.ref oa), (.int (0 : Int32))])
  obtain ⟨T2, X2, e2, st2⟩ := getF X1 hx hZ hown (host := "") (Or.inl (hw _ (List.mem_of_getElem? (i := 11) rfl))) Via.refl e1 F_oa_ring (g := (mkF m 5 #[.val (.ref oa), .val (.ref va), .unset, .unset] [(.ref oa), (.int (0 : Int32))])) rfl rfl (hb hby own_d5_5)
  refine Go.of st2 ?_
  show Go p e below Φ T2 (mkF m 8 #[.val (.ref oa), .val (.ref va), .unset, .unset] [(.ref ra), (.int (0 : Int32))])
  obtain ⟨cl8, Ar8, q8, S8, N8, H8, G8⟩ := id V_ra
  refine Go.of (fun t k => X2.arraylength hx (own_at_ e2 Ar8.1) (State.isArrayOf_alike hZ.alike Ar8.2.1) (g := (mkF m 8 #[.val (.ref oa), .val (.ref va), .unset, .unset] [(.ref ra), (.int (0 : Int32))])) rfl rfl (hb hby own_d5_8) t k) ?_
  rw [len_of S8 N8]
  show Go p e below Φ T2 (mkF m 9 #[.val (.ref oa), .val (.ref va), .unset, .unset] [(.int (16 : Int32)), (.int (0 : Int32))])
  refine Go.of (fun t k => XS.icmpYes X2.here hx rfl (pc0 := 9) (pc' := 23) rfl (hb hby own_d5_9) rfl (XT.ii_ne_t (by decide)) (by decide) (by decide) k) ?_
  show Go p e below Φ T2 (mkF m 23 #[.val (.ref oa), .val (.ref va), .unset, .unset] [])
  refine Go.of (fun t k => XS.aloadN X2.here hx rfl (hb hby own_d5_23) rfl rfl  k) ?_
  show Go p e below Φ T2 (mkF m 24 #[.val (.ref oa), .val (.ref va), .unset, .unset] [(.ref oa)])
  obtain ⟨T3, X3, e3, st3⟩ := getF X2 hx hZ hown (host := "") (Or.inl (hw _ (List.mem_of_getElem? (i := 31) rfl))) Via.refl e2 F_oa_size (g := (mkF m 24 #[.val (.ref oa), .val (.ref va), .unset, .unset] [(.ref oa)])) rfl rfl (hb hby own_d5_24)
  refine Go.of st3 ?_
  show Go p e below Φ T3 (mkF m 27 #[.val (.ref oa), .val (.ref va), .unset, .unset] [(.int (0 : Int32))])
  refine Go.of (fun t k => XS.ifYes X3.here hx rfl (pc0 := 27) (pc' := 51) rfl (hb hby own_d5_27) rfl (XT.i0_eq_t rfl) (by decide) (by decide) k) ?_
  show Go p e below Φ T3 (mkF m 51 #[.val (.ref oa), .val (.ref va), .unset, .unset] [])
  refine Go.of (fun t k => XS.aloadN X3.here hx rfl (hb hby own_d5_51) rfl rfl  k) ?_
  show Go p e below Φ T3 (mkF m 52 #[.val (.ref oa), .val (.ref va), .unset, .unset] [(.ref oa)])
  obtain ⟨T4, X4, e4, st4⟩ := getF X3 hx hZ hown (host := "") (Or.inl (hw _ (List.mem_of_getElem? (i := 31) rfl))) Via.refl e3 F_oa_size (g := (mkF m 52 #[.val (.ref oa), .val (.ref va), .unset, .unset] [(.ref oa)])) rfl rfl (hb hby own_d5_52)
  refine Go.of st4 ?_
  show Go p e below Φ T4 (mkF m 55 #[.val (.ref oa), .val (.ref va), .unset, .unset] [(.int (0 : Int32))])
  refine Go.of (fun t k => XS.goto X4.here hx rfl (pc0 := 55) (pc' := 66) rfl (hb hby own_d5_55) (by decide) (by decide) k) ?_
  show Go p e below Φ T4 (mkF m 66 #[.val (.ref oa), .val (.ref va), .unset, .unset] [(.int (0 : Int32))])
  refine Go.of (fun t k => XS.istoreN X4.here hx rfl (hb hby own_d5_66) rfl (l' := #[.val (.ref oa), .val (.ref va), .val (.int (0 : Int32)), .unset]) rfl k) ?_
  show Go p e below Φ T4 (mkF m 67 #[.val (.ref oa), .val (.ref va), .val (.int (0 : Int32)), .unset] [])
  refine Go.of (fun t k => XS.iloadN X4.here hx rfl (hb hby own_d5_67) rfl  k) ?_
  show Go p e below Φ T4 (mkF m 68 #[.val (.ref oa), .val (.ref va), .val (.int (0 : Int32)), .unset] [(.int (0 : Int32))])
  refine Go.of (fun t k => XS.aloadN X4.here hx rfl (hb hby own_d5_68) rfl rfl  k) ?_
  show Go p e below Φ T4 (mkF m 69 #[.val (.ref oa), .val (.ref va), .val (.int (0 : Int32)), .unset] [(.ref oa), (.int (0 : Int32))])
  obtain ⟨T5, X5, e5, st5⟩ := getF X4 hx hZ hown (host := "") (Or.inl (hw _ (List.mem_of_getElem? (i := 31) rfl))) Via.refl e4 F_oa_size (g := (mkF m 69 #[.val (.ref oa), .val (.ref va), .val (.int (0 : Int32)), .unset] [(.ref oa), (.int (0 : Int32))])) rfl rfl (hb hby own_d5_69)
  refine Go.of st5 ?_
  show Go p e below Φ T5 (mkF m 72 #[.val (.ref oa), .val (.ref va), .val (.int (0 : Int32)), .unset] [(.int (0 : Int32)), (.int (0 : Int32))])
  refine Go.of (fun t k => XS.iloadN X5.here hx rfl (hb hby own_d5_72) rfl  k) ?_
  show Go p e below Φ T5 (mkF m 73 #[.val (.ref oa), .val (.ref va), .val (.int (0 : Int32)), .unset] [(.int (0 : Int32)), (.int (0 : Int32)), (.int (0 : Int32))])
  refine Go.of (fun t k => XS.isub X5.here hx rfl (hb hby own_d5_73) rfl k) ?_
  show Go p e below Φ T5 (mkF m 74 #[.val (.ref oa), .val (.ref va), .val (.int (0 : Int32)), .unset] [(.int (0 : Int32)), (.int (0 : Int32))])
  refine Go.of (fun t k => XS.icmpYes X5.here hx rfl (pc0 := 74) (pc' := 120) rfl (hb hby own_d5_74) rfl (XT.ii_ge_t (by decide)) (by decide) (by decide) k) ?_
  show Go p e below Φ T5 (mkF m 120 #[.val (.ref oa), .val (.ref va), .val (.int (0 : Int32)), .unset] [])
  refine Go.of (fun t k => XS.aloadN X5.here hx rfl (hb hby own_d5_120) rfl rfl  k) ?_
  show Go p e below Φ T5 (mkF m 121 #[.val (.ref oa), .val (.ref va), .val (.int (0 : Int32)), .unset] [(.ref oa)])
  obtain ⟨T6, X6, e6, st6⟩ := getF X5 hx hZ hown (host := "") (Or.inl (hw _ (List.mem_of_getElem? (i := 31) rfl))) Via.refl e5 F_oa_size (g := (mkF m 121 #[.val (.ref oa), .val (.ref va), .val (.int (0 : Int32)), .unset] [(.ref oa)])) rfl rfl (hb hby own_d5_121)
  refine Go.of st6 ?_
  show Go p e below Φ T6 (mkF m 124 #[.val (.ref oa), .val (.ref va), .val (.int (0 : Int32)), .unset] [(.int (0 : Int32))])
  refine Go.of (fun t k => XS.istoreN X6.here hx rfl (hb hby own_d5_124) rfl (l' := #[.val (.ref oa), .val (.ref va), .val (.int (0 : Int32)), .val (.int (0 : Int32))]) rfl k) ?_
  show Go p e below Φ T6 (mkF m 125 #[.val (.ref oa), .val (.ref va), .val (.int (0 : Int32)), .val (.int (0 : Int32))] [])
  refine Go.of (fun t k => XS.iloadN X6.here hx rfl (hb hby own_d5_125) rfl  k) ?_
  show Go p e below Φ T6 (mkF m 126 #[.val (.ref oa), .val (.ref va), .val (.int (0 : Int32)), .val (.int (0 : Int32))] [(.int (0 : Int32))])
  refine Go.of (fun t k => XS.iloadN X6.here hx rfl (hb hby own_d5_126) rfl  k) ?_
  show Go p e below Φ T6 (mkF m 127 #[.val (.ref oa), .val (.ref va), .val (.int (0 : Int32)), .val (.int (0 : Int32))] [(.int (0 : Int32)), (.int (0 : Int32))])
  refine Go.of (fun t k => XS.icmpYes X6.here hx rfl (pc0 := 127) (pc' := 148) rfl (hb hby own_d5_127) rfl (XT.ii_le_t (by decide)) (by decide) (by decide) k) ?_
  show Go p e below Φ T6 (mkF m 148 #[.val (.ref oa), .val (.ref va), .val (.int (0 : Int32)), .val (.int (0 : Int32))] [])
  refine Go.of (fun t k => XS.aloadN X6.here hx rfl (hb hby own_d5_148) rfl rfl  k) ?_
  show Go p e below Φ T6 (mkF m 149 #[.val (.ref oa), .val (.ref va), .val (.int (0 : Int32)), .val (.int (0 : Int32))] [(.ref oa)])
  refine Go.of (fun t k => XS.iloadN X6.here hx rfl (hb hby own_d5_149) rfl  k) ?_
  show Go p e below Φ T6 (mkF m 150 #[.val (.ref oa), .val (.ref va), .val (.int (0 : Int32)), .val (.int (0 : Int32))] [(.int (0 : Int32)), (.ref oa)])
  refine Go.of (fun t k => XS.aloadN X6.here hx rfl (hb hby own_d5_150) rfl rfl  k) ?_
  show Go p e below Φ T6 (mkF m 151 #[.val (.ref oa), .val (.ref va), .val (.int (0 : Int32)), .val (.int (0 : Int32))] [(.ref va), (.int (0 : Int32)), (.ref oa)])
  obtain ⟨cq7, q7, q7'⟩ := E_oa.cell
  obtain ⟨_, _, ⟨T7, L7, k7, n7⟩, -, X7, ⟨Lc7, hQ7, l7, y7, z7⟩, st7⟩ := X6.privateBack hx (y := (⟨"com/example/demarq/demarq/broker/SortedMessages", "set", "(ILcom/example/demarq/demarq/broker/Message;)V"⟩ : MethodName)) hown (mvT hZ (hw _ (List.mem_of_getElem? (i := 38) rfl))) (mvT hZ (hw _ (List.mem_of_getElem? (i := 39) rfl))) (own_privSel (z := (⟨"com/example/demarq/demarq/broker/SortedMessages", "isEmpty", "()Z"⟩ : MethodName)) (y := (⟨"com/example/demarq/demarq/broker/SortedMessages", "set", "(ILcom/example/demarq/demarq/broker/Message;)V"⟩ : MethodName)) hZ (hw _ (List.mem_of_getElem? (i := 29) rfl)) rfl (hw _ (List.mem_of_getElem? (i := 39) rfl)) (hw _ (List.mem_of_getElem? (i := 40) rfl)) (by decide)) (Cond.privateMethod_at (mvP hZ (hw _ (List.mem_of_getElem? (i := 40) rfl)) (args := #[]))) (mvT hZ (hw _ (List.mem_of_getElem? (i := 41) rfl))) (by decide) (backOf (W := 0) (rm6r l Z a0 hw [] oa (0 : Int32) va ra kr hs (0 : Int32) h0 n0 Z0 F_oa_head F_oa_ring V_ra E_oa ⟨by decide, by decide⟩ g_ra ne_oa_ra Ov E_va) hZ (hw _ (List.mem_of_getElem? (i := 41) rfl)) (hw _ (List.mem_of_getElem? (i := 2) rfl)) (by decide) (by decide)) (g := (mkF m 151 #[.val (.ref oa), .val (.ref va), .val (.int (0 : Int32)), .val (.int (0 : Int32))] [(.ref va), (.int (0 : Int32)), (.ref oa)])) rfl (by rw [hml]; rfl) (Steps.refl _) (a := oa) (by rw [e6]; exact q7) q7' (argsL := [(.int (0 : Int32)), (.ref va)]) (rest := []) (lenOf own_pd5 rfl) rfl (by show 2 * 0 + _ ≤ _; exact Nat.le_of_eq rfl) (hb hby own_d5_151) (fun _ _ => ⟨rfl, e6, (by decide : 0 + 0 ≤ _), (by decide : 0 + 0 ≤ _)⟩)
  dsimp only [Pt.U, Pt.locs, Pt.cells, Pt.slots] at X7 l7 y7 z7 st7 hQ7
  subst l7 y7 z7
  obtain ⟨rfl, N7q, K7q, c7_0⟩ := hQ7
  have N7 := Fr.app N0 N7q
  obtain ⟨lc7, X7, N7⟩ : ∃ lc, Stand p l e ({ frames := 2, cells := 0, slots := 0, locals := 28 } : Room) s m #[(.ref oa), (.ref va)] below meth c T7 lc 0 0 ∧ Fr n0 lc := ⟨_, X7, N7⟩
  have F_oa_head := F_oa_head.keep K7q (ninS ne_oa_ra nin0)
  have F_oa_ring := F_oa_ring.keep K7q (ninS ne_oa_ra nin0)
  have F_oa_size := F_oa_size.keep K7q (ninS ne_oa_ra nin0)
  have E_va := E_va.keep K7q
  have E_oa := E_oa.keep K7q
  have V_ra : Arh Z T7.heap ra kr (.object "com/example/demarq/demarq/broker/Message") (16 : Int32) (((0 : Int32), (.ref va)) :: hs) [] .null := c7_0
  have K7 := (Keep.refl h0 [oa, ra]).trans K7q (allS (Or.inl (List.mem_of_getElem? (i := 1) rfl)) all0)
  have Z7 := Nat.le_trans Z0 K7q.1
  refine Go.tr st7 ?_
  show Go p e below Φ T7 (mkF m 154 #[.val (.ref oa), .val (.ref va), .val (.int (0 : Int32)), .val (.int (0 : Int32))] [])
  refine Go.of (fun t k => XS.aloadN X7.here hx rfl (hb hby own_d5_154) rfl rfl  k) ?_
  show Go p e below Φ T7 (mkF m 155 #[.val (.ref oa), .val (.ref va), .val (.int (0 : Int32)), .val (.int (0 : Int32))] [(.ref oa)])
  refine Go.of (fun t k => XS.dup X7.here hx rfl (hb hby own_d5_155) rfl rfl k) ?_
  show Go p e below Φ T7 (mkF m 156 #[.val (.ref oa), .val (.ref va), .val (.int (0 : Int32)), .val (.int (0 : Int32))] [(.ref oa), (.ref oa)])
  obtain ⟨T8, X8, e8, st8⟩ := getF X7 hx hZ hown (host := "") (Or.inl (hw _ (List.mem_of_getElem? (i := 31) rfl))) Via.refl rfl F_oa_size (g := (mkF m 156 #[.val (.ref oa), .val (.ref va), .val (.int (0 : Int32)), .val (.int (0 : Int32))] [(.ref oa), (.ref oa)])) rfl rfl (hb hby own_d5_156)
  refine Go.of st8 ?_
  show Go p e below Φ T8 (mkF m 159 #[.val (.ref oa), .val (.ref va), .val (.int (0 : Int32)), .val (.int (0 : Int32))] [(.int (0 : Int32)), (.ref oa)])
  refine Go.of (fun t k => XS.iconst X8.here hx rfl (hb hby own_d5_159) k) ?_
  show Go p e below Φ T8 (mkF m 160 #[.val (.ref oa), .val (.ref va), .val (.int (0 : Int32)), .val (.int (0 : Int32))] [(.int (1 : Int32)), (.int (0 : Int32)), (.ref oa)])
  refine Go.of (fun t k => XS.iadd X8.here hx rfl (hb hby own_d5_160) rfl k) ?_
  show Go p e below Φ T8 (mkF m 161 #[.val (.ref oa), .val (.ref va), .val (.int (0 : Int32)), .val (.int (0 : Int32))] [(.int (1 : Int32)), (.ref oa)])
  obtain ⟨T9, h9, X9, e9, W9, st9⟩ := putF X8 hx hZ hown (host := "") (Or.inl (hw _ (List.mem_of_getElem? (i := 31) rfl))) Via.refl e8 F_oa_size E_oa (Or.inl (hw _ (List.mem_of_getElem? (i := 32) rfl))) (hw _ (List.mem_of_getElem? (i := 1) rfl)) (ty := .int) (by decide) rfl rfl (g := (mkF m 161 #[.val (.ref oa), .val (.ref va), .val (.int (0 : Int32)), .val (.int (0 : Int32))] [(.int (1 : Int32)), (.ref oa)])) rfl rfl (hb hby own_d5_161)
  have N9 := Fr.snoc X9 N7 g_oa
  have F_oa_size := F_oa_size.same W9
  have F_oa_head := F_oa_head.other W9 (Or.inr (slot_ne (Or.inl (hw _ (List.mem_of_getElem? (i := 47) rfl))) (Or.inl (hw _ (List.mem_of_getElem? (i := 32) rfl))) (by decide) (t := .int) (t' := .int) (by decide) (by decide)))
  have F_oa_ring := F_oa_ring.other W9 (Or.inr (slot_ne (Or.inl (hw _ (List.mem_of_getElem? (i := 12) rfl))) (Or.inl (hw _ (List.mem_of_getElem? (i := 32) rfl))) (by decide) (t := (.array (.object "com/example/demarq/demarq/broker/Message"))) (t' := .int) (by decide) (by decide)))
  have V_ra := V_ra.other W9 (Ne.symm ne_oa_ra)
  have E_va := E_va.wr W9
  have E_oa := E_oa.wr W9
  have K9 : Keep h0 h9 [oa, ra] := K7.wr W9 (Or.inl (List.mem_of_getElem? (i := 0) rfl))
  have Z9 := Nat.le_trans Z7 (Keep.of_wr W9).1
  obtain ⟨lc9, X9, N9⟩ : ∃ lc, Stand p l e ({ frames := 2, cells := 0, slots := 0, locals := 28 } : Room) s m #[(.ref oa), (.ref va)] below meth c T9 lc 0 0 ∧ Fr n0 lc := ⟨_, X9, N9⟩
  refine Go.of st9 ?_
  show Go p e below Φ T9 (mkF m 164 #[.val (.ref oa), .val (.ref va), .val (.int (0 : Int32)), .val (.int (0 : Int32))] [])
  rw [hΦ]
  refine Go.retV X9 hx Bd.notSynchronized Bd.returns (hb hby own_d5_164) (by decide) (by decide) ?_
  rw [e9]
  exact ⟨rfl, N9, K9, F_oa_size, F_oa_head, F_oa_ring, V_ra⟩
theorem own_ef5l (m : MethodId) (oa : Addr) (va : Addr) : entryFrame m #[(.ref oa), (.ref va)] 4 = mkF m 0 #[.val (.ref oa), .val (.ref va), .unset, .unset] [] := by first | (simp [entryFrame, mkF, argsToLocals, Value.category]; done) | rfl
def Q5l (Z : State) (oa : Addr) (va : Addr) (ra : Addr) (kr : ClassId) (hs : List (Int32 × Value)) (xa : Addr) (pv : Int64) (px : Int64) (h0 : Heap) (n0 : Nat) (vr : Option Value) (hr : Heap) (Lr : List Loc) : Prop := vr = none ∧ Fr n0 Lr ∧ Keep h0 hr [oa, ra] ∧ Fld Z hr oa "com/example/demarq/demarq/broker/SortedMessages" "size" "I" (.int (2 : Int32)) ∧ Fld Z hr oa "com/example/demarq/demarq/broker/SortedMessages" "head" "I" (.int (0 : Int32)) ∧ Fld Z hr oa "com/example/demarq/demarq/broker/SortedMessages" "ring" "[Lcom/example/demarq/demarq/broker/Message;" (.ref ra) ∧ Arh Z hr ra kr (.object "com/example/demarq/demarq/broker/Message") (16 : Int32) (((1 : Int32), (.ref va)) :: hs) [] .null
set_option maxRecDepth 65536 in
set_option maxHeartbeats 40000000 in
theorem rm5l (l : Launch) (Z : State) (a0 : Array Value) (hw : ∀ d ∈ tables_1, d.before a0 Z = true) (ws : List Jvm.Cond) (oa : Addr) (va : Addr) (ra : Addr) (kr : ClassId) (hs : List (Int32 × Value)) (xa : Addr) (pv : Int64) (px : Int64) (h0 : Heap) (n0 : Nat) (Z0 : n0 ≤ h0.size) (F_oa_head : Fld Z h0 oa "com/example/demarq/demarq/broker/SortedMessages" "head" "I" (.int (0 : Int32))) (F_oa_ring : Fld Z h0 oa "com/example/demarq/demarq/broker/SortedMessages" "ring" "[Lcom/example/demarq/demarq/broker/Message;" (.ref ra)) (V_ra : Arh Z h0 ra kr (.object "com/example/demarq/demarq/broker/Message") (16 : Int32) hs [] .null) (F_oa_size : Fld Z h0 oa "com/example/demarq/demarq/broker/SortedMessages" "size" "I" (.int (1 : Int32))) (E_va : Exa Z h0 va "com/example/demarq/demarq/broker/Message") (F_va_position : Fld Z h0 va "com/example/demarq/demarq/broker/Message" "position" "J" (.long pv)) (E_xa : Exa Z h0 xa "com/example/demarq/demarq/broker/Message") (F_xa_position : Fld Z h0 xa "com/example/demarq/demarq/broker/Message" "position" "J" (.long px)) (hat0 : getH hs [] .null ((((0 : Int32) + (0 : Int32)) % (16 : Int32))).toNatClampNeg = .ref xa) (E_oa : Exa Z h0 oa "com/example/demarq/demarq/broker/SortedMessages") (g_oa : n0 ≤ oa) (g_ra : n0 ≤ ra) (ne_oa_ra : oa ≠ ra) (Ov : Ovr Z kr "com/example/demarq/demarq/broker/Message") (ne_xa_oa : xa ≠ oa) (ne_xa_ra : xa ≠ ra) (ne_va_oa : va ≠ oa) (ne_va_ra : va ≠ ra) (hlt : px < pv) :
    MetFree l (⟨"com/example/demarq/demarq/broker/SortedMessages", "add", "(Lcom/example/demarq/demarq/broker/Message;)V"⟩ : MethodName) (head1 (Jvm.Cond.code (⟨"com/example/demarq/demarq/broker/SortedMessages", "add", "(Lcom/example/demarq/demarq/broker/Message;)V"⟩ : MethodName) prog_12_method_3_code 4 none :: ws) ({ frames := 2, cells := 0, slots := 0, locals := 28 } : Room)) (fun aQ UQ => aQ = #[(.ref oa), (.ref va)] ∧ Z.Warmed39 UQ.vm ∧ UQ.heap = h0) (fun _ _ _ _ _ => True) (fun _ UQ oQ VQ => ∃ vQ LQ, oQ = .returned vQ ∧ Q5l Z oa va ra kr hs xa pv px h0 n0 vQ VQ.heap LQ ∧ FrameEnd UQ oQ VQ LQ ({ frames := 2, cells := 0, slots := 0, locals := 28 } : Room).cells ({ frames := 2, cells := 0, slots := 0, locals := 28 } : Room).slots) := by
  refine MetFree.of_bodySF (plainFor_of_name own_pn0) hisR ?_
  intro p e s m args below meth c s₁ Bd hml0 hP hK
  obtain ⟨rfl, hZ, hh⟩ := hP
  have hx := Bd.exec
  have hby := Bd.bytes
  have hml : c.maxLocals = 4 := hml0
  have hown : s.vm.findClass "com/example/demarq/demarq/broker/SortedMessages" = some m.cls := findClass_of_methodNamed Bd.named
  have hnm := (name_of_methodNamed Bd.named Bd.method).1
  have X0 : Stand p l e ({ frames := 2, cells := 0, slots := 0, locals := 28 } : Room) s m #[(.ref oa), (.ref va)] below meth c s₁ [] 0 0 := Stand.of_body Bd
  have e0 : s₁.heap = h0 := by rw [← hh, Bd.state]; rfl
  have N0 := Fr.nil n0
  show Go p e below (EndQ s below (Q5l Z oa va ra kr hs xa pv px h0 n0) ({ frames := 2, cells := 0, slots := 0, locals := 28 } : Room).cells ({ frames := 2, cells := 0, slots := 0, locals := 28 } : Room).slots) s₁ (entryFrame m #[(.ref oa), (.ref va)] 4)
  obtain ⟨Φ, hΦ⟩ : ∃ Φ, Φ = EndQ s below (Q5l Z oa va ra kr hs xa pv px h0 n0) ({ frames := 2, cells := 0, slots := 0, locals := 28 } : Room).cells ({ frames := 2, cells := 0, slots := 0, locals := 28 } : Room).slots := ⟨_, rfl⟩
  rw [← hΦ, own_ef5l]
  show Go p e below Φ s₁ (mkF m 0 #[.val (.ref oa), .val (.ref va), .unset, .unset] [])
  refine Go.of (fun t k => XS.aloadN X0.here hx rfl (hb hby own_d5_0) rfl rfl  k) ?_
  show Go p e below Φ s₁ (mkF m 1 #[.val (.ref oa), .val (.ref va), .unset, .unset] [(.ref oa)])
  obtain ⟨T1, X1, e1, st1⟩ := getF X0 hx hZ hown (host := "") (Or.inl (hw _ (List.mem_of_getElem? (i := 31) rfl))) Via.refl e0 F_oa_size (g := (mkF m 1 #[.val (.ref oa), .val (.ref va), .unset, .unset] [(.ref oa)])) rfl rfl (hb hby own_d5_1)
  refine Go.of st1 ?_
  show Go p e below Φ T1 (mkF m 4 #[.val (.ref oa), .val (.ref va), .unset, .unset] [(.int (1 : Int32))])
  refine Go.of (fun t k => XS.aloadN X1.here hx rfl (hb hby own_d5_4) rfl rfl  k) ?_
  show Go p e below Φ T1 (mkF m 5 #[.val (.ref oa), .val (.ref va), .unset, .unset] [(.ref oa), (.int (1 : Int32))])
  obtain ⟨T2, X2, e2, st2⟩ := getF X1 hx hZ hown (host := "") (Or.inl (hw _ (List.mem_of_getElem? (i := 11) rfl))) Via.refl e1 F_oa_ring (g := (mkF m 5 #[.val (.ref oa), .val (.ref va), .unset, .unset] [(.ref oa), (.int (1 : Int32))])) rfl rfl (hb hby own_d5_5)
  refine Go.of st2 ?_
  show Go p e below Φ T2 (mkF m 8 #[.val (.ref oa), .val (.ref va), .unset, .unset] [(.ref ra), (.int (1 : Int32))])
  obtain ⟨cl8, Ar8, q8, S8, N8, H8, G8⟩ := id V_ra
  refine Go.of (fun t k => X2.arraylength hx (own_at_ e2 Ar8.1) (State.isArrayOf_alike hZ.alike Ar8.2.1) (g := (mkF m 8 #[.val (.ref oa), .val (.ref va), .unset, .unset] [(.ref ra), (.int (1 : Int32))])) rfl rfl (hb hby own_d5_8) t k) ?_
  rw [len_of S8 N8]
  show Go p e below Φ T2 (mkF m 9 #[.val (.ref oa), .val (.ref va), .unset, .unset] [(.int (16 : Int32)), (.int (1 : Int32))])
  refine Go.of (fun t k => XS.icmpYes X2.here hx rfl (pc0 := 9) (pc' := 23) rfl (hb hby own_d5_9) rfl (XT.ii_ne_t (by decide)) (by decide) (by decide) k) ?_
  show Go p e below Φ T2 (mkF m 23 #[.val (.ref oa), .val (.ref va), .unset, .unset] [])
  refine Go.of (fun t k => XS.aloadN X2.here hx rfl (hb hby own_d5_23) rfl rfl  k) ?_
  show Go p e below Φ T2 (mkF m 24 #[.val (.ref oa), .val (.ref va), .unset, .unset] [(.ref oa)])
  obtain ⟨T3, X3, e3, st3⟩ := getF X2 hx hZ hown (host := "") (Or.inl (hw _ (List.mem_of_getElem? (i := 31) rfl))) Via.refl e2 F_oa_size (g := (mkF m 24 #[.val (.ref oa), .val (.ref va), .unset, .unset] [(.ref oa)])) rfl rfl (hb hby own_d5_24)
  refine Go.of st3 ?_
  show Go p e below Φ T3 (mkF m 27 #[.val (.ref oa), .val (.ref va), .unset, .unset] [(.int (1 : Int32))])
  refine Go.of (fun t k => XS.ifNo X3.here hx rfl (hb hby own_d5_27) rfl (XT.i0_eq_f (by decide)) k) ?_
  show Go p e below Φ T3 (mkF m 30 #[.val (.ref oa), .val (.ref va), .unset, .unset] [])
  refine Go.of (fun t k => XS.aloadN X3.here hx rfl (hb hby own_d5_30) rfl rfl  k) ?_
  show Go p e below Φ T3 (mkF m 31 #[.val (.ref oa), .val (.ref va), .unset, .unset] [(.ref oa)])
  refine Go.of (fun t k => XS.aloadN X3.here hx rfl (hb hby own_d5_31) rfl rfl  k) ?_
  show Go p e below Φ T3 (mkF m 32 #[.val (.ref oa), .val (.ref va), .unset, .unset] [(.ref oa), (.ref oa)])
  obtain ⟨T4, X4, e4, st4⟩ := getF X3 hx hZ hown (host := "") (Or.inl (hw _ (List.mem_of_getElem? (i := 31) rfl))) Via.refl e3 F_oa_size (g := (mkF m 32 #[.val (.ref oa), .val (.ref va), .unset, .unset] [(.ref oa), (.ref oa)])) rfl rfl (hb hby own_d5_32)
  refine Go.of st4 ?_
  show Go p e below Φ T4 (mkF m 35 #[.val (.ref oa), .val (.ref va), .unset, .unset] [(.int (1 : Int32)), (.ref oa)])
  refine Go.of (fun t k => XS.iconst X4.here hx rfl (hb hby own_d5_35) k) ?_
  show Go p e below Φ T4 (mkF m 36 #[.val (.ref oa), .val (.ref va), .unset, .unset] [(.int (1 : Int32)), (.int (1 : Int32)), (.ref oa)])
  refine Go.of (fun t k => XS.isub X4.here hx rfl (hb hby own_d5_36) rfl k) ?_
  show Go p e below Φ T4 (mkF m 37 #[.val (.ref oa), .val (.ref va), .unset, .unset] [(.int (0 : Int32)), (.ref oa)])
  obtain ⟨cq5, q5, q5'⟩ := E_oa.cell
  obtain ⟨_, _, ⟨T5, L5, k5, n5⟩, -, X5, ⟨Lc5, hQ5, l5, y5, z5⟩, st5⟩ := X4.privateBack hx (y := (⟨"com/example/demarq/demarq/broker/SortedMessages", "get", "(I)Lcom/example/demarq/demarq/broker/Message;"⟩ : MethodName)) hown (mvT hZ (hw _ (List.mem_of_getElem? (i := 76) rfl))) (mvT hZ (hw _ (List.mem_of_getElem? (i := 77) rfl))) (own_privSel (z := (⟨"com/example/demarq/demarq/broker/SortedMessages", "isEmpty", "()Z"⟩ : MethodName)) (y := (⟨"com/example/demarq/demarq/broker/SortedMessages", "get", "(I)Lcom/example/demarq/demarq/broker/Message;"⟩ : MethodName)) hZ (hw _ (List.mem_of_getElem? (i := 29) rfl)) rfl (hw _ (List.mem_of_getElem? (i := 77) rfl)) (hw _ (List.mem_of_getElem? (i := 78) rfl)) (by decide)) (Cond.privateMethod_at (mvP hZ (hw _ (List.mem_of_getElem? (i := 78) rfl)) (args := #[]))) (mvT hZ (hw _ (List.mem_of_getElem? (i := 79) rfl))) (by decide) (backOf (W := 0) (rm13 l Z a0 hw [] oa (0 : Int32) ra kr hs xa (0 : Int32) h0 n0 Z0 F_oa_head F_oa_ring V_ra E_oa ⟨by decide, by decide⟩ hat0) hZ (hw _ (List.mem_of_getElem? (i := 79) rfl)) (hw _ (List.mem_of_getElem? (i := 2) rfl)) (by decide) (by decide)) (g := (mkF m 37 #[.val (.ref oa), .val (.ref va), .unset, .unset] [(.int (0 : Int32)), (.ref oa)])) rfl (by rw [hml]; rfl) (Steps.refl _) (a := oa) (by rw [e4]; exact q5) q5' (argsL := [(.int (0 : Int32))]) (rest := []) (lenOf own_pd1 rfl) rfl (by show 2 * 0 + _ ≤ _; exact Nat.le_of_eq rfl) (hb hby own_d5_37) (fun _ _ => ⟨rfl, e4, (by decide : 0 + 0 ≤ _), (by decide : 0 + 0 ≤ _)⟩)
  dsimp only [Pt.U, Pt.locs, Pt.cells, Pt.slots] at X5 l5 y5 z5 st5 hQ5
  subst l5 y5 z5
  obtain ⟨rfl, N5q, e5q⟩ := hQ5
  have N5 := Fr.app N0 N5q
  obtain ⟨lc5, X5, N5⟩ : ∃ lc, Stand p l e ({ frames := 2, cells := 0, slots := 0, locals := 28 } : Room) s m #[(.ref oa), (.ref va)] below meth c T5 lc 0 0 ∧ Fr n0 lc := ⟨_, X5, N5⟩
  refine Go.tr st5 ?_
  show Go p e below Φ T5 (mkF m 40 #[.val (.ref oa), .val (.ref va), .unset, .unset] [(.ref xa)])
  obtain ⟨cq6, kq6, q6a, q6b, q6c⟩ := isOf hZ (e5q) E_xa
  obtain ⟨_, _, ⟨T6, L6, k6, n6⟩, -, X6, ⟨Lc6, hQ6, l6, y6, z6⟩, st6⟩ := X5.virtualBack hx (y := (⟨"com/example/demarq/demarq/broker/Message", "position", "()J"⟩ : MethodName)) (z := (⟨"com/example/demarq/demarq/broker/Message", "position", "()J"⟩ : MethodName)) hown (mvT hZ (hw _ (List.mem_of_getElem? (i := 54) rfl))) (mvT hZ (hw _ (List.mem_of_getElem? (i := 55) rfl))) (notFace_of_selects (args := #[]) (mvT hZ (hw _ (List.mem_of_getElem? (i := 57) rfl)))) (mvT hZ (hw _ (List.mem_of_getElem? (i := 57) rfl))) (mvT hZ (hw _ (List.mem_of_getElem? (i := 56) rfl))) (by decide) (backOf (W := 0) (rm9 l Z a0 hw [] xa px h0 n0 Z0 F_xa_position) hZ (hw _ (List.mem_of_getElem? (i := 58) rfl)) (hw _ (List.mem_of_getElem? (i := 15) rfl)) (by decide) (by decide)) q6a q6c (g := (mkF m 40 #[.val (.ref oa), .val (.ref va), .unset, .unset] [(.ref xa)])) rfl (by rw [hml]; rfl) (Steps.refl _) (argsL := []) (rest := []) (lenOf own_pd2 rfl) rfl (by show 2 * 0 + _ ≤ _; exact Nat.le_of_eq rfl) (hb hby own_d5_40) (fun _ _ => ⟨rfl, (e5q), (by decide : 0 + 0 ≤ _), (by decide : 0 + 0 ≤ _)⟩)
  dsimp only [Pt.U, Pt.locs, Pt.cells, Pt.slots] at X6 l6 y6 z6 st6 hQ6
  subst l6 y6 z6
  obtain ⟨rfl, N6q, e6q⟩ := hQ6
  have N6 := Fr.app N5 N6q
  obtain ⟨lc6, X6, N6⟩ : ∃ lc, Stand p l e ({ frames := 2, cells := 0, slots := 0, locals := 28 } : Room) s m #[(.ref oa), (.ref va)] below meth c T6 lc 0 0 ∧ Fr n0 lc := ⟨_, X6, N6⟩
  refine Go.tr st6 ?_
  show Go p e below Φ T6 (mkF m 43 #[.val (.ref oa), .val (.ref va), .unset, .unset] [(.long px)])
  refine Go.of (fun t k => XS.aloadN X6.here hx rfl (hb hby own_d5_43) rfl rfl  k) ?_
  show Go p e below Φ T6 (mkF m 44 #[.val (.ref oa), .val (.ref va), .unset, .unset] [(.ref va), (.long px)])
  obtain ⟨cq7, kq7, q7a, q7b, q7c⟩ := isOf hZ (e6q) E_va
  obtain ⟨_, _, ⟨T7, L7, k7, n7⟩, -, X7, ⟨Lc7, hQ7, l7, y7, z7⟩, st7⟩ := X6.virtualBack hx (y := (⟨"com/example/demarq/demarq/broker/Message", "position", "()J"⟩ : MethodName)) (z := (⟨"com/example/demarq/demarq/broker/Message", "position", "()J"⟩ : MethodName)) hown (mvT hZ (hw _ (List.mem_of_getElem? (i := 54) rfl))) (mvT hZ (hw _ (List.mem_of_getElem? (i := 55) rfl))) (notFace_of_selects (args := #[]) (mvT hZ (hw _ (List.mem_of_getElem? (i := 57) rfl)))) (mvT hZ (hw _ (List.mem_of_getElem? (i := 57) rfl))) (mvT hZ (hw _ (List.mem_of_getElem? (i := 56) rfl))) (by decide) (backOf (W := 2) (rm9 l Z a0 hw [] va pv h0 n0 Z0 F_va_position) hZ (hw _ (List.mem_of_getElem? (i := 58) rfl)) (hw _ (List.mem_of_getElem? (i := 15) rfl)) (by decide) (by decide)) q7a q7c (g := (mkF m 44 #[.val (.ref oa), .val (.ref va), .unset, .unset] [(.ref va), (.long px)])) rfl (by rw [hml]; rfl) (Steps.refl _) (argsL := []) (rest := [(.long px)]) (lenOf own_pd2 rfl) rfl (by show 2 * 0 + _ ≤ _; exact Nat.le_of_eq rfl) (hb hby own_d5_44) (fun _ _ => ⟨rfl, (e6q), (by decide : 0 + 0 ≤ _), (by decide : 0 + 0 ≤ _)⟩)
  dsimp only [Pt.U, Pt.locs, Pt.cells, Pt.slots] at X7 l7 y7 z7 st7 hQ7
  subst l7 y7 z7
  obtain ⟨rfl, N7q, e7q⟩ := hQ7
  have N7 := Fr.app N6 N7q
  obtain ⟨lc7, X7, N7⟩ : ∃ lc, Stand p l e ({ frames := 2, cells := 0, slots := 0, locals := 28 } : Room) s m #[(.ref oa), (.ref va)] below meth c T7 lc 0 0 ∧ Fr n0 lc := ⟨_, X7, N7⟩
  refine Go.tr st7 ?_
  show Go p e below Φ T7 (mkF m 47 #[.val (.ref oa), .val (.ref va), .unset, .unset] [(.long pv), (.long px)])
  refine Go.of (fun t k => XT.lcmp X7.here hx rfl (hb hby own_d5_47) rfl k) ?_
  show Go p e below Φ T7 (mkF m 48 #[.val (.ref oa), .val (.ref va), .unset, .unset] [(.int (XT.cmpL px pv))])
  refine Go.of (fun t k => XS.ifNo X7.here hx rfl (hb hby own_d5_48) rfl (XT.ll_ge_f hlt) k) ?_
  show Go p e below Φ T7 (mkF m 51 #[.val (.ref oa), .val (.ref va), .unset, .unset] [])
  refine Go.of (fun t k => XS.aloadN X7.here hx rfl (hb hby own_d5_51) rfl rfl  k) ?_
  show Go p e below Φ T7 (mkF m 52 #[.val (.ref oa), .val (.ref va), .unset, .unset] [(.ref oa)])
  obtain ⟨T8, X8, e8, st8⟩ := getF X7 hx hZ hown (host := "") (Or.inl (hw _ (List.mem_of_getElem? (i := 31) rfl))) Via.refl (e7q) F_oa_size (g := (mkF m 52 #[.val (.ref oa), .val (.ref va), .unset, .unset] [(.ref oa)])) rfl rfl (hb hby own_d5_52)
  refine Go.of st8 ?_
  show Go p e below Φ T8 (mkF m 55 #[.val (.ref oa), .val (.ref va), .unset, .unset] [(.int (1 : Int32))])
  refine Go.of (fun t k => XS.goto X8.here hx rfl (pc0 := 55) (pc' := 66) rfl (hb hby own_d5_55) (by decide) (by decide) k) ?_
  show Go p e below Φ T8 (mkF m 66 #[.val (.ref oa), .val (.ref va), .unset, .unset] [(.int (1 : Int32))])
  refine Go.of (fun t k => XS.istoreN X8.here hx rfl (hb hby own_d5_66) rfl (l' := #[.val (.ref oa), .val (.ref va), .val (.int (1 : Int32)), .unset]) rfl k) ?_
  show Go p e below Φ T8 (mkF m 67 #[.val (.ref oa), .val (.ref va), .val (.int (1 : Int32)), .unset] [])
  refine Go.of (fun t k => XS.iloadN X8.here hx rfl (hb hby own_d5_67) rfl  k) ?_
  show Go p e below Φ T8 (mkF m 68 #[.val (.ref oa), .val (.ref va), .val (.int (1 : Int32)), .unset] [(.int (1 : Int32))])
  refine Go.of (fun t k => XS.aloadN X8.here hx rfl (hb hby own_d5_68) rfl rfl  k) ?_
  show Go p e below Φ T8 (mkF m 69 #[.val (.ref oa), .val (.ref va), .val (.int (1 : Int32)), .unset] [(.ref oa), (.int (1 : Int32))])
  obtain ⟨T9, X9, e9, st9⟩ := getF X8 hx hZ hown (host := "") (Or.inl (hw _ (List.mem_of_getElem? (i := 31) rfl))) Via.refl e8 F_oa_size (g := (mkF m 69 #[.val (.ref oa), .val (.ref va), .val (.int (1 : Int32)), .unset] [(.ref oa), (.int (1 : Int32))])) rfl rfl (hb hby own_d5_69)
  refine Go.of st9 ?_
  show Go p e below Φ T9 (mkF m 72 #[.val (.ref oa), .val (.ref va), .val (.int (1 : Int32)), .unset] [(.int (1 : Int32)), (.int (1 : Int32))])
  refine Go.of (fun t k => XS.iloadN X9.here hx rfl (hb hby own_d5_72) rfl  k) ?_
  show Go p e below Φ T9 (mkF m 73 #[.val (.ref oa), .val (.ref va), .val (.int (1 : Int32)), .unset] [(.int (1 : Int32)), (.int (1 : Int32)), (.int (1 : Int32))])
  refine Go.of (fun t k => XS.isub X9.here hx rfl (hb hby own_d5_73) rfl k) ?_
  show Go p e below Φ T9 (mkF m 74 #[.val (.ref oa), .val (.ref va), .val (.int (1 : Int32)), .unset] [(.int (0 : Int32)), (.int (1 : Int32))])
  refine Go.of (fun t k => XS.icmpYes X9.here hx rfl (pc0 := 74) (pc' := 120) rfl (hb hby own_d5_74) rfl (XT.ii_ge_t (by decide)) (by decide) (by decide) k) ?_
  show Go p e below Φ T9 (mkF m 120 #[.val (.ref oa), .val (.ref va), .val (.int (1 : Int32)), .unset] [])
  refine Go.of (fun t k => XS.aloadN X9.here hx rfl (hb hby own_d5_120) rfl rfl  k) ?_
  show Go p e below Φ T9 (mkF m 121 #[.val (.ref oa), .val (.ref va), .val (.int (1 : Int32)), .unset] [(.ref oa)])
  obtain ⟨T10, X10, e10, st10⟩ := getF X9 hx hZ hown (host := "") (Or.inl (hw _ (List.mem_of_getElem? (i := 31) rfl))) Via.refl e9 F_oa_size (g := (mkF m 121 #[.val (.ref oa), .val (.ref va), .val (.int (1 : Int32)), .unset] [(.ref oa)])) rfl rfl (hb hby own_d5_121)
  refine Go.of st10 ?_
  show Go p e below Φ T10 (mkF m 124 #[.val (.ref oa), .val (.ref va), .val (.int (1 : Int32)), .unset] [(.int (1 : Int32))])
  refine Go.of (fun t k => XS.istoreN X10.here hx rfl (hb hby own_d5_124) rfl (l' := #[.val (.ref oa), .val (.ref va), .val (.int (1 : Int32)), .val (.int (1 : Int32))]) rfl k) ?_
  show Go p e below Φ T10 (mkF m 125 #[.val (.ref oa), .val (.ref va), .val (.int (1 : Int32)), .val (.int (1 : Int32))] [])
  refine Go.of (fun t k => XS.iloadN X10.here hx rfl (hb hby own_d5_125) rfl  k) ?_
  show Go p e below Φ T10 (mkF m 126 #[.val (.ref oa), .val (.ref va), .val (.int (1 : Int32)), .val (.int (1 : Int32))] [(.int (1 : Int32))])
  refine Go.of (fun t k => XS.iloadN X10.here hx rfl (hb hby own_d5_126) rfl  k) ?_
  show Go p e below Φ T10 (mkF m 127 #[.val (.ref oa), .val (.ref va), .val (.int (1 : Int32)), .val (.int (1 : Int32))] [(.int (1 : Int32)), (.int (1 : Int32))])
  refine Go.of (fun t k => XS.icmpYes X10.here hx rfl (pc0 := 127) (pc' := 148) rfl (hb hby own_d5_127) rfl (XT.ii_le_t (by decide)) (by decide) (by decide) k) ?_
  show Go p e below Φ T10 (mkF m 148 #[.val (.ref oa), .val (.ref va), .val (.int (1 : Int32)), .val (.int (1 : Int32))] [])
  refine Go.of (fun t k => XS.aloadN X10.here hx rfl (hb hby own_d5_148) rfl rfl  k) ?_
  show Go p e below Φ T10 (mkF m 149 #[.val (.ref oa), .val (.ref va), .val (.int (1 : Int32)), .val (.int (1 : Int32))] [(.ref oa)])
  refine Go.of (fun t k => XS.iloadN X10.here hx rfl (hb hby own_d5_149) rfl  k) ?_
  show Go p e below Φ T10 (mkF m 150 #[.val (.ref oa), .val (.ref va), .val (.int (1 : Int32)), .val (.int (1 : Int32))] [(.int (1 : Int32)), (.ref oa)])
  refine Go.of (fun t k => XS.aloadN X10.here hx rfl (hb hby own_d5_150) rfl rfl  k) ?_
  show Go p e below Φ T10 (mkF m 151 #[.val (.ref oa), .val (.ref va), .val (.int (1 : Int32)), .val (.int (1 : Int32))] [(.ref va), (.int (1 : Int32)), (.ref oa)])
  obtain ⟨cq11, q11, q11'⟩ := E_oa.cell
  obtain ⟨_, _, ⟨T11, L11, k11, n11⟩, -, X11, ⟨Lc11, hQ11, l11, y11, z11⟩, st11⟩ := X10.privateBack hx (y := (⟨"com/example/demarq/demarq/broker/SortedMessages", "set", "(ILcom/example/demarq/demarq/broker/Message;)V"⟩ : MethodName)) hown (mvT hZ (hw _ (List.mem_of_getElem? (i := 38) rfl))) (mvT hZ (hw _ (List.mem_of_getElem? (i := 39) rfl))) (own_privSel (z := (⟨"com/example/demarq/demarq/broker/SortedMessages", "isEmpty", "()Z"⟩ : MethodName)) (y := (⟨"com/example/demarq/demarq/broker/SortedMessages", "set", "(ILcom/example/demarq/demarq/broker/Message;)V"⟩ : MethodName)) hZ (hw _ (List.mem_of_getElem? (i := 29) rfl)) rfl (hw _ (List.mem_of_getElem? (i := 39) rfl)) (hw _ (List.mem_of_getElem? (i := 40) rfl)) (by decide)) (Cond.privateMethod_at (mvP hZ (hw _ (List.mem_of_getElem? (i := 40) rfl)) (args := #[]))) (mvT hZ (hw _ (List.mem_of_getElem? (i := 41) rfl))) (by decide) (backOf (W := 0) (rm6r l Z a0 hw [] oa (1 : Int32) va ra kr hs (0 : Int32) h0 n0 Z0 F_oa_head F_oa_ring V_ra E_oa ⟨by decide, by decide⟩ g_ra ne_oa_ra Ov E_va) hZ (hw _ (List.mem_of_getElem? (i := 41) rfl)) (hw _ (List.mem_of_getElem? (i := 2) rfl)) (by decide) (by decide)) (g := (mkF m 151 #[.val (.ref oa), .val (.ref va), .val (.int (1 : Int32)), .val (.int (1 : Int32))] [(.ref va), (.int (1 : Int32)), (.ref oa)])) rfl (by rw [hml]; rfl) (Steps.refl _) (a := oa) (by rw [e10]; exact q11) q11' (argsL := [(.int (1 : Int32)), (.ref va)]) (rest := []) (lenOf own_pd5 rfl) rfl (by show 2 * 0 + _ ≤ _; exact Nat.le_of_eq rfl) (hb hby own_d5_151) (fun _ _ => ⟨rfl, e10, (by decide : 0 + 0 ≤ _), (by decide : 0 + 0 ≤ _)⟩)
  dsimp only [Pt.U, Pt.locs, Pt.cells, Pt.slots] at X11 l11 y11 z11 st11 hQ11
  subst l11 y11 z11
  obtain ⟨rfl, N11q, K11q, c11_0⟩ := hQ11
  have N11 := Fr.app N7 N11q
  obtain ⟨lc11, X11, N11⟩ : ∃ lc, Stand p l e ({ frames := 2, cells := 0, slots := 0, locals := 28 } : Room) s m #[(.ref oa), (.ref va)] below meth c T11 lc 0 0 ∧ Fr n0 lc := ⟨_, X11, N11⟩
  have F_oa_head := F_oa_head.keep K11q (ninS ne_oa_ra nin0)
  have F_oa_ring := F_oa_ring.keep K11q (ninS ne_oa_ra nin0)
  have F_oa_size := F_oa_size.keep K11q (ninS ne_oa_ra nin0)
  have E_va := E_va.keep K11q
  have F_va_position := F_va_position.keep K11q (ninS ne_va_ra nin0)
  have E_xa := E_xa.keep K11q
  have F_xa_position := F_xa_position.keep K11q (ninS ne_xa_ra nin0)
  have E_oa := E_oa.keep K11q
  have V_ra : Arh Z T11.heap ra kr (.object "com/example/demarq/demarq/broker/Message") (16 : Int32) (((1 : Int32), (.ref va)) :: hs) [] .null := c11_0
  have K11 := (Keep.refl h0 [oa, ra]).trans K11q (allS (Or.inl (List.mem_of_getElem? (i := 1) rfl)) all0)
  have Z11 := Nat.le_trans Z0 K11q.1
  refine Go.tr st11 ?_
  show Go p e below Φ T11 (mkF m 154 #[.val (.ref oa), .val (.ref va), .val (.int (1 : Int32)), .val (.int (1 : Int32))] [])
  refine Go.of (fun t k => XS.aloadN X11.here hx rfl (hb hby own_d5_154) rfl rfl  k) ?_
  show Go p e below Φ T11 (mkF m 155 #[.val (.ref oa), .val (.ref va), .val (.int (1 : Int32)), .val (.int (1 : Int32))] [(.ref oa)])
  refine Go.of (fun t k => XS.dup X11.here hx rfl (hb hby own_d5_155) rfl rfl k) ?_
  show Go p e below Φ T11 (mkF m 156 #[.val (.ref oa), .val (.ref va), .val (.int (1 : Int32)), .val (.int (1 : Int32))] [(.ref oa), (.ref oa)])
  obtain ⟨T12, X12, e12, st12⟩ := getF X11 hx hZ hown (host := "") (Or.inl (hw _ (List.mem_of_getElem? (i := 31) rfl))) Via.refl rfl F_oa_size (g := (mkF m 156 #[.val (.ref oa), .val (.ref va), .val (.int (1 : Int32)), .val (.int (1 : Int32))] [(.ref oa), (.ref oa)])) rfl rfl (hb hby own_d5_156)
  refine Go.of st12 ?_
  show Go p e below Φ T12 (mkF m 159 #[.val (.ref oa), .val (.ref va), .val (.int (1 : Int32)), .val (.int (1 : Int32))] [(.int (1 : Int32)), (.ref oa)])
  refine Go.of (fun t k => XS.iconst X12.here hx rfl (hb hby own_d5_159) k) ?_
  show Go p e below Φ T12 (mkF m 160 #[.val (.ref oa), .val (.ref va), .val (.int (1 : Int32)), .val (.int (1 : Int32))] [(.int (1 : Int32)), (.int (1 : Int32)), (.ref oa)])
  refine Go.of (fun t k => XS.iadd X12.here hx rfl (hb hby own_d5_160) rfl k) ?_
  show Go p e below Φ T12 (mkF m 161 #[.val (.ref oa), .val (.ref va), .val (.int (1 : Int32)), .val (.int (1 : Int32))] [(.int (2 : Int32)), (.ref oa)])
  obtain ⟨T13, h13, X13, e13, W13, st13⟩ := putF X12 hx hZ hown (host := "") (Or.inl (hw _ (List.mem_of_getElem? (i := 31) rfl))) Via.refl e12 F_oa_size E_oa (Or.inl (hw _ (List.mem_of_getElem? (i := 32) rfl))) (hw _ (List.mem_of_getElem? (i := 1) rfl)) (ty := .int) (by decide) rfl rfl (g := (mkF m 161 #[.val (.ref oa), .val (.ref va), .val (.int (1 : Int32)), .val (.int (1 : Int32))] [(.int (2 : Int32)), (.ref oa)])) rfl rfl (hb hby own_d5_161)
  have N13 := Fr.snoc X13 N11 g_oa
  have F_oa_size := F_oa_size.same W13
  have F_oa_head := F_oa_head.other W13 (Or.inr (slot_ne (Or.inl (hw _ (List.mem_of_getElem? (i := 47) rfl))) (Or.inl (hw _ (List.mem_of_getElem? (i := 32) rfl))) (by decide) (t := .int) (t' := .int) (by decide) (by decide)))
  have F_oa_ring := F_oa_ring.other W13 (Or.inr (slot_ne (Or.inl (hw _ (List.mem_of_getElem? (i := 12) rfl))) (Or.inl (hw _ (List.mem_of_getElem? (i := 32) rfl))) (by decide) (t := (.array (.object "com/example/demarq/demarq/broker/Message"))) (t' := .int) (by decide) (by decide)))
  have V_ra := V_ra.other W13 (Ne.symm ne_oa_ra)
  have E_va := E_va.wr W13
  have F_va_position := F_va_position.other W13 (Or.inl ne_va_oa)
  have E_xa := E_xa.wr W13
  have F_xa_position := F_xa_position.other W13 (Or.inl ne_xa_oa)
  have E_oa := E_oa.wr W13
  have K13 : Keep h0 h13 [oa, ra] := K11.wr W13 (Or.inl (List.mem_of_getElem? (i := 0) rfl))
  have Z13 := Nat.le_trans Z11 (Keep.of_wr W13).1
  obtain ⟨lc13, X13, N13⟩ : ∃ lc, Stand p l e ({ frames := 2, cells := 0, slots := 0, locals := 28 } : Room) s m #[(.ref oa), (.ref va)] below meth c T13 lc 0 0 ∧ Fr n0 lc := ⟨_, X13, N13⟩
  refine Go.of st13 ?_
  show Go p e below Φ T13 (mkF m 164 #[.val (.ref oa), .val (.ref va), .val (.int (1 : Int32)), .val (.int (1 : Int32))] [])
  rw [hΦ]
  refine Go.retV X13 hx Bd.notSynchronized Bd.returns (hb hby own_d5_164) (by decide) (by decide) ?_
  rw [e13]
  exact ⟨rfl, N13, K13, F_oa_size, F_oa_head, F_oa_ring, V_ra⟩
theorem own_ef5g (m : MethodId) (oa : Addr) (va : Addr) : entryFrame m #[(.ref oa), (.ref va)] 4 = mkF m 0 #[.val (.ref oa), .val (.ref va), .unset, .unset] [] := by first | (simp [entryFrame, mkF, argsToLocals, Value.category]; done) | rfl
def Q5g (Z : State) (oa : Addr) (va : Addr) (ra : Addr) (kr : ClassId) (hs : List (Int32 × Value)) (xa : Addr) (pv : Int64) (px : Int64) (h0 : Heap) (n0 : Nat) (vr : Option Value) (hr : Heap) (Lr : List Loc) : Prop := vr = none ∧ Fr n0 Lr ∧ Keep h0 hr [oa, ra] ∧ Fld Z hr oa "com/example/demarq/demarq/broker/SortedMessages" "size" "I" (.int (2 : Int32)) ∧ Fld Z hr oa "com/example/demarq/demarq/broker/SortedMessages" "head" "I" (.int (15 : Int32)) ∧ Fld Z hr oa "com/example/demarq/demarq/broker/SortedMessages" "ring" "[Lcom/example/demarq/demarq/broker/Message;" (.ref ra) ∧ Arh Z hr ra kr (.object "com/example/demarq/demarq/broker/Message") (16 : Int32) (((15 : Int32), (.ref va)) :: hs) [] .null
set_option maxRecDepth 65536 in
set_option maxHeartbeats 40000000 in
theorem rm5g (l : Launch) (Z : State) (a0 : Array Value) (hw : ∀ d ∈ tables_1, d.before a0 Z = true) (ws : List Jvm.Cond) (oa : Addr) (va : Addr) (ra : Addr) (kr : ClassId) (hs : List (Int32 × Value)) (xa : Addr) (pv : Int64) (px : Int64) (h0 : Heap) (n0 : Nat) (Z0 : n0 ≤ h0.size) (F_oa_head : Fld Z h0 oa "com/example/demarq/demarq/broker/SortedMessages" "head" "I" (.int (0 : Int32))) (F_oa_ring : Fld Z h0 oa "com/example/demarq/demarq/broker/SortedMessages" "ring" "[Lcom/example/demarq/demarq/broker/Message;" (.ref ra)) (V_ra : Arh Z h0 ra kr (.object "com/example/demarq/demarq/broker/Message") (16 : Int32) hs [] .null) (F_oa_size : Fld Z h0 oa "com/example/demarq/demarq/broker/SortedMessages" "size" "I" (.int (1 : Int32))) (E_va : Exa Z h0 va "com/example/demarq/demarq/broker/Message") (F_va_position : Fld Z h0 va "com/example/demarq/demarq/broker/Message" "position" "J" (.long pv)) (E_xa : Exa Z h0 xa "com/example/demarq/demarq/broker/Message") (F_xa_position : Fld Z h0 xa "com/example/demarq/demarq/broker/Message" "position" "J" (.long px)) (hat0 : getH hs [] .null ((((0 : Int32) + (0 : Int32)) % (16 : Int32))).toNatClampNeg = .ref xa) (E_oa : Exa Z h0 oa "com/example/demarq/demarq/broker/SortedMessages") (g_oa : n0 ≤ oa) (g_ra : n0 ≤ ra) (ne_oa_ra : oa ≠ ra) (Ov : Ovr Z kr "com/example/demarq/demarq/broker/Message") (ne_xa_oa : xa ≠ oa) (ne_xa_ra : xa ≠ ra) (ne_va_oa : va ≠ oa) (ne_va_ra : va ≠ ra) (hge : ¬ (px < pv)) :
    MetFree l (⟨"com/example/demarq/demarq/broker/SortedMessages", "add", "(Lcom/example/demarq/demarq/broker/Message;)V"⟩ : MethodName) (head1 (Jvm.Cond.code (⟨"com/example/demarq/demarq/broker/SortedMessages", "add", "(Lcom/example/demarq/demarq/broker/Message;)V"⟩ : MethodName) prog_12_method_3_code 4 none :: ws) ({ frames := 6, cells := 1, slots := 2, locals := 3090 } : Room)) (fun aQ UQ => aQ = #[(.ref oa), (.ref va)] ∧ Z.Warmed39 UQ.vm ∧ UQ.heap = h0) (fun _ _ _ _ _ => True) (fun _ UQ oQ VQ => ∃ vQ LQ, oQ = .returned vQ ∧ Q5g Z oa va ra kr hs xa pv px h0 n0 vQ VQ.heap LQ ∧ FrameEnd UQ oQ VQ LQ ({ frames := 6, cells := 1, slots := 2, locals := 3090 } : Room).cells ({ frames := 6, cells := 1, slots := 2, locals := 3090 } : Room).slots) := by
  refine MetFree.of_bodySF (plainFor_of_name own_pn0) hisR ?_
  intro p e s m args below meth c s₁ Bd hml0 hP hK
  obtain ⟨rfl, hZ, hh⟩ := hP
  have hx := Bd.exec
  have hby := Bd.bytes
  have hml : c.maxLocals = 4 := hml0
  have hown : s.vm.findClass "com/example/demarq/demarq/broker/SortedMessages" = some m.cls := findClass_of_methodNamed Bd.named
  have hnm := (name_of_methodNamed Bd.named Bd.method).1
  have X0 : Stand p l e ({ frames := 6, cells := 1, slots := 2, locals := 3090 } : Room) s m #[(.ref oa), (.ref va)] below meth c s₁ [] 0 0 := Stand.of_body Bd
  have e0 : s₁.heap = h0 := by rw [← hh, Bd.state]; rfl
  have N0 := Fr.nil n0
  show Go p e below (EndQ s below (Q5g Z oa va ra kr hs xa pv px h0 n0) ({ frames := 6, cells := 1, slots := 2, locals := 3090 } : Room).cells ({ frames := 6, cells := 1, slots := 2, locals := 3090 } : Room).slots) s₁ (entryFrame m #[(.ref oa), (.ref va)] 4)
  obtain ⟨Φ, hΦ⟩ : ∃ Φ, Φ = EndQ s below (Q5g Z oa va ra kr hs xa pv px h0 n0) ({ frames := 6, cells := 1, slots := 2, locals := 3090 } : Room).cells ({ frames := 6, cells := 1, slots := 2, locals := 3090 } : Room).slots := ⟨_, rfl⟩
  rw [← hΦ, own_ef5g]
  show Go p e below Φ s₁ (mkF m 0 #[.val (.ref oa), .val (.ref va), .unset, .unset] [])
  refine Go.of (fun t k => XS.aloadN X0.here hx rfl (hb hby own_d5_0) rfl rfl  k) ?_
  show Go p e below Φ s₁ (mkF m 1 #[.val (.ref oa), .val (.ref va), .unset, .unset] [(.ref oa)])
  obtain ⟨T1, X1, e1, st1⟩ := getF X0 hx hZ hown (host := "") (Or.inl (hw _ (List.mem_of_getElem? (i := 31) rfl))) Via.refl e0 F_oa_size (g := (mkF m 1 #[.val (.ref oa), .val (.ref va), .unset, .unset] [(.ref oa)])) rfl rfl (hb hby own_d5_1)
  refine Go.of st1 ?_
  show Go p e below Φ T1 (mkF m 4 #[.val (.ref oa), .val (.ref va), .unset, .unset] [(.int (1 : Int32))])
  refine Go.of (fun t k => XS.aloadN X1.here hx rfl (hb hby own_d5_4) rfl rfl  k) ?_
  show Go p e below Φ T1 (mkF m 5 #[.val (.ref oa), .val (.ref va), .unset, .unset] [(.ref oa), (.int (1 : Int32))])
  obtain ⟨T2, X2, e2, st2⟩ := getF X1 hx hZ hown (host := "") (Or.inl (hw _ (List.mem_of_getElem? (i := 11) rfl))) Via.refl e1 F_oa_ring (g := (mkF m 5 #[.val (.ref oa), .val (.ref va), .unset, .unset] [(.ref oa), (.int (1 : Int32))])) rfl rfl (hb hby own_d5_5)
  refine Go.of st2 ?_
  show Go p e below Φ T2 (mkF m 8 #[.val (.ref oa), .val (.ref va), .unset, .unset] [(.ref ra), (.int (1 : Int32))])
  obtain ⟨cl8, Ar8, q8, S8, N8, H8, G8⟩ := id V_ra
  refine Go.of (fun t k => X2.arraylength hx (own_at_ e2 Ar8.1) (State.isArrayOf_alike hZ.alike Ar8.2.1) (g := (mkF m 8 #[.val (.ref oa), .val (.ref va), .unset, .unset] [(.ref ra), (.int (1 : Int32))])) rfl rfl (hb hby own_d5_8) t k) ?_
  rw [len_of S8 N8]
  show Go p e below Φ T2 (mkF m 9 #[.val (.ref oa), .val (.ref va), .unset, .unset] [(.int (16 : Int32)), (.int (1 : Int32))])
  refine Go.of (fun t k => XS.icmpYes X2.here hx rfl (pc0 := 9) (pc' := 23) rfl (hb hby own_d5_9) rfl (XT.ii_ne_t (by decide)) (by decide) (by decide) k) ?_
  show Go p e below Φ T2 (mkF m 23 #[.val (.ref oa), .val (.ref va), .unset, .unset] [])
  refine Go.of (fun t k => XS.aloadN X2.here hx rfl (hb hby own_d5_23) rfl rfl  k) ?_
  show Go p e below Φ T2 (mkF m 24 #[.val (.ref oa), .val (.ref va), .unset, .unset] [(.ref oa)])
  obtain ⟨T3, X3, e3, st3⟩ := getF X2 hx hZ hown (host := "") (Or.inl (hw _ (List.mem_of_getElem? (i := 31) rfl))) Via.refl e2 F_oa_size (g := (mkF m 24 #[.val (.ref oa), .val (.ref va), .unset, .unset] [(.ref oa)])) rfl rfl (hb hby own_d5_24)
  refine Go.of st3 ?_
  show Go p e below Φ T3 (mkF m 27 #[.val (.ref oa), .val (.ref va), .unset, .unset] [(.int (1 : Int32))])
  refine Go.of (fun t k => XS.ifNo X3.here hx rfl (hb hby own_d5_27) rfl (XT.i0_eq_f (by decide)) k) ?_
  show Go p e below Φ T3 (mkF m 30 #[.val (.ref oa), .val (.ref va), .unset, .unset] [])
  refine Go.of (fun t k => XS.aloadN X3.here hx rfl (hb hby own_d5_30) rfl rfl  k) ?_
  show Go p e below Φ T3 (mkF m 31 #[.val (.ref oa), .val (.ref va), .unset, .unset] [(.ref oa)])
  refine Go.of (fun t k => XS.aloadN X3.here hx rfl (hb hby own_d5_31) rfl rfl  k) ?_
  show Go p e below Φ T3 (mkF m 32 #[.val (.ref oa), .val (.ref va), .unset, .unset] [(.ref oa), (.ref oa)])
  obtain ⟨T4, X4, e4, st4⟩ := getF X3 hx hZ hown (host := "") (Or.inl (hw _ (List.mem_of_getElem? (i := 31) rfl))) Via.refl e3 F_oa_size (g := (mkF m 32 #[.val (.ref oa), .val (.ref va), .unset, .unset] [(.ref oa), (.ref oa)])) rfl rfl (hb hby own_d5_32)
  refine Go.of st4 ?_
  show Go p e below Φ T4 (mkF m 35 #[.val (.ref oa), .val (.ref va), .unset, .unset] [(.int (1 : Int32)), (.ref oa)])
  refine Go.of (fun t k => XS.iconst X4.here hx rfl (hb hby own_d5_35) k) ?_
  show Go p e below Φ T4 (mkF m 36 #[.val (.ref oa), .val (.ref va), .unset, .unset] [(.int (1 : Int32)), (.int (1 : Int32)), (.ref oa)])
  refine Go.of (fun t k => XS.isub X4.here hx rfl (hb hby own_d5_36) rfl k) ?_
  show Go p e below Φ T4 (mkF m 37 #[.val (.ref oa), .val (.ref va), .unset, .unset] [(.int (0 : Int32)), (.ref oa)])
  obtain ⟨cq5, q5, q5'⟩ := E_oa.cell
  obtain ⟨_, _, ⟨T5, L5, k5, n5⟩, -, X5, ⟨Lc5, hQ5, l5, y5, z5⟩, st5⟩ := X4.privateBack hx (y := (⟨"com/example/demarq/demarq/broker/SortedMessages", "get", "(I)Lcom/example/demarq/demarq/broker/Message;"⟩ : MethodName)) hown (mvT hZ (hw _ (List.mem_of_getElem? (i := 76) rfl))) (mvT hZ (hw _ (List.mem_of_getElem? (i := 77) rfl))) (own_privSel (z := (⟨"com/example/demarq/demarq/broker/SortedMessages", "isEmpty", "()Z"⟩ : MethodName)) (y := (⟨"com/example/demarq/demarq/broker/SortedMessages", "get", "(I)Lcom/example/demarq/demarq/broker/Message;"⟩ : MethodName)) hZ (hw _ (List.mem_of_getElem? (i := 29) rfl)) rfl (hw _ (List.mem_of_getElem? (i := 77) rfl)) (hw _ (List.mem_of_getElem? (i := 78) rfl)) (by decide)) (Cond.privateMethod_at (mvP hZ (hw _ (List.mem_of_getElem? (i := 78) rfl)) (args := #[]))) (mvT hZ (hw _ (List.mem_of_getElem? (i := 79) rfl))) (by decide) (backOf (W := 0) (rm13 l Z a0 hw [] oa (0 : Int32) ra kr hs xa (0 : Int32) h0 n0 Z0 F_oa_head F_oa_ring V_ra E_oa ⟨by decide, by decide⟩ hat0) hZ (hw _ (List.mem_of_getElem? (i := 79) rfl)) (hw _ (List.mem_of_getElem? (i := 2) rfl)) (by decide) (by decide)) (g := (mkF m 37 #[.val (.ref oa), .val (.ref va), .unset, .unset] [(.int (0 : Int32)), (.ref oa)])) rfl (by rw [hml]; rfl) (Steps.refl _) (a := oa) (by rw [e4]; exact q5) q5' (argsL := [(.int (0 : Int32))]) (rest := []) (lenOf own_pd1 rfl) rfl (by show 2 * 0 + _ ≤ _; exact Nat.le_of_eq rfl) (hb hby own_d5_37) (fun _ _ => ⟨rfl, e4, (by decide : 0 + 0 ≤ _), (by decide : 0 + 0 ≤ _)⟩)
  dsimp only [Pt.U, Pt.locs, Pt.cells, Pt.slots] at X5 l5 y5 z5 st5 hQ5
  subst l5 y5 z5
  obtain ⟨rfl, N5q, e5q⟩ := hQ5
  have N5 := Fr.app N0 N5q
  obtain ⟨lc5, X5, N5⟩ : ∃ lc, Stand p l e ({ frames := 6, cells := 1, slots := 2, locals := 3090 } : Room) s m #[(.ref oa), (.ref va)] below meth c T5 lc 0 0 ∧ Fr n0 lc := ⟨_, X5, N5⟩
  refine Go.tr st5 ?_
  show Go p e below Φ T5 (mkF m 40 #[.val (.ref oa), .val (.ref va), .unset, .unset] [(.ref xa)])
  obtain ⟨cq6, kq6, q6a, q6b, q6c⟩ := isOf hZ (e5q) E_xa
  obtain ⟨_, _, ⟨T6, L6, k6, n6⟩, -, X6, ⟨Lc6, hQ6, l6, y6, z6⟩, st6⟩ := X5.virtualBack hx (y := (⟨"com/example/demarq/demarq/broker/Message", "position", "()J"⟩ : MethodName)) (z := (⟨"com/example/demarq/demarq/broker/Message", "position", "()J"⟩ : MethodName)) hown (mvT hZ (hw _ (List.mem_of_getElem? (i := 54) rfl))) (mvT hZ (hw _ (List.mem_of_getElem? (i := 55) rfl))) (notFace_of_selects (args := #[]) (mvT hZ (hw _ (List.mem_of_getElem? (i := 57) rfl)))) (mvT hZ (hw _ (List.mem_of_getElem? (i := 57) rfl))) (mvT hZ (hw _ (List.mem_of_getElem? (i := 56) rfl))) (by decide) (backOf (W := 0) (rm9 l Z a0 hw [] xa px h0 n0 Z0 F_xa_position) hZ (hw _ (List.mem_of_getElem? (i := 58) rfl)) (hw _ (List.mem_of_getElem? (i := 15) rfl)) (by decide) (by decide)) q6a q6c (g := (mkF m 40 #[.val (.ref oa), .val (.ref va), .unset, .unset] [(.ref xa)])) rfl (by rw [hml]; rfl) (Steps.refl _) (argsL := []) (rest := []) (lenOf own_pd2 rfl) rfl (by show 2 * 0 + _ ≤ _; exact Nat.le_of_eq rfl) (hb hby own_d5_40) (fun _ _ => ⟨rfl, (e5q), (by decide : 0 + 0 ≤ _), (by decide : 0 + 0 ≤ _)⟩)
  dsimp only [Pt.U, Pt.locs, Pt.cells, Pt.slots] at X6 l6 y6 z6 st6 hQ6
  subst l6 y6 z6
  obtain ⟨rfl, N6q, e6q⟩ := hQ6
  have N6 := Fr.app N5 N6q
  obtain ⟨lc6, X6, N6⟩ : ∃ lc, Stand p l e ({ frames := 6, cells := 1, slots := 2, locals := 3090 } : Room) s m #[(.ref oa), (.ref va)] below meth c T6 lc 0 0 ∧ Fr n0 lc := ⟨_, X6, N6⟩
  refine Go.tr st6 ?_
  show Go p e below Φ T6 (mkF m 43 #[.val (.ref oa), .val (.ref va), .unset, .unset] [(.long px)])
  refine Go.of (fun t k => XS.aloadN X6.here hx rfl (hb hby own_d5_43) rfl rfl  k) ?_
  show Go p e below Φ T6 (mkF m 44 #[.val (.ref oa), .val (.ref va), .unset, .unset] [(.ref va), (.long px)])
  obtain ⟨cq7, kq7, q7a, q7b, q7c⟩ := isOf hZ (e6q) E_va
  obtain ⟨_, _, ⟨T7, L7, k7, n7⟩, -, X7, ⟨Lc7, hQ7, l7, y7, z7⟩, st7⟩ := X6.virtualBack hx (y := (⟨"com/example/demarq/demarq/broker/Message", "position", "()J"⟩ : MethodName)) (z := (⟨"com/example/demarq/demarq/broker/Message", "position", "()J"⟩ : MethodName)) hown (mvT hZ (hw _ (List.mem_of_getElem? (i := 54) rfl))) (mvT hZ (hw _ (List.mem_of_getElem? (i := 55) rfl))) (notFace_of_selects (args := #[]) (mvT hZ (hw _ (List.mem_of_getElem? (i := 57) rfl)))) (mvT hZ (hw _ (List.mem_of_getElem? (i := 57) rfl))) (mvT hZ (hw _ (List.mem_of_getElem? (i := 56) rfl))) (by decide) (backOf (W := 2) (rm9 l Z a0 hw [] va pv h0 n0 Z0 F_va_position) hZ (hw _ (List.mem_of_getElem? (i := 58) rfl)) (hw _ (List.mem_of_getElem? (i := 15) rfl)) (by decide) (by decide)) q7a q7c (g := (mkF m 44 #[.val (.ref oa), .val (.ref va), .unset, .unset] [(.ref va), (.long px)])) rfl (by rw [hml]; rfl) (Steps.refl _) (argsL := []) (rest := [(.long px)]) (lenOf own_pd2 rfl) rfl (by show 2 * 0 + _ ≤ _; exact Nat.le_of_eq rfl) (hb hby own_d5_44) (fun _ _ => ⟨rfl, (e6q), (by decide : 0 + 0 ≤ _), (by decide : 0 + 0 ≤ _)⟩)
  dsimp only [Pt.U, Pt.locs, Pt.cells, Pt.slots] at X7 l7 y7 z7 st7 hQ7
  subst l7 y7 z7
  obtain ⟨rfl, N7q, e7q⟩ := hQ7
  have N7 := Fr.app N6 N7q
  obtain ⟨lc7, X7, N7⟩ : ∃ lc, Stand p l e ({ frames := 6, cells := 1, slots := 2, locals := 3090 } : Room) s m #[(.ref oa), (.ref va)] below meth c T7 lc 0 0 ∧ Fr n0 lc := ⟨_, X7, N7⟩
  refine Go.tr st7 ?_
  show Go p e below Φ T7 (mkF m 47 #[.val (.ref oa), .val (.ref va), .unset, .unset] [(.long pv), (.long px)])
  refine Go.of (fun t k => XT.lcmp X7.here hx rfl (hb hby own_d5_47) rfl k) ?_
  show Go p e below Φ T7 (mkF m 48 #[.val (.ref oa), .val (.ref va), .unset, .unset] [(.int (XT.cmpL px pv))])
  refine Go.of (fun t k => XS.ifYes X7.here hx rfl (pc0 := 48) (pc' := 58) rfl (hb hby own_d5_48) rfl (XT.ll_ge_t hge) (by decide) (by decide) k) ?_
  show Go p e below Φ T7 (mkF m 58 #[.val (.ref oa), .val (.ref va), .unset, .unset] [])
  refine Go.of (fun t k => XS.aloadN X7.here hx rfl (hb hby own_d5_58) rfl rfl  k) ?_
  show Go p e below Φ T7 (mkF m 59 #[.val (.ref oa), .val (.ref va), .unset, .unset] [(.ref oa)])
  refine Go.of (fun t k => XS.aloadN X7.here hx rfl (hb hby own_d5_59) rfl rfl  k) ?_
  show Go p e below Φ T7 (mkF m 60 #[.val (.ref oa), .val (.ref va), .unset, .unset] [(.ref va), (.ref oa)])
  obtain ⟨cq8, kq8, q8a, q8b, q8c⟩ := isOf hZ (e7q) E_va
  obtain ⟨_, _, ⟨T8, L8, k8, n8⟩, -, X8, ⟨Lc8, hQ8, l8, y8, z8⟩, st8⟩ := X7.virtualBack hx (y := (⟨"com/example/demarq/demarq/broker/Message", "position", "()J"⟩ : MethodName)) (z := (⟨"com/example/demarq/demarq/broker/Message", "position", "()J"⟩ : MethodName)) hown (mvT hZ (hw _ (List.mem_of_getElem? (i := 54) rfl))) (mvT hZ (hw _ (List.mem_of_getElem? (i := 55) rfl))) (notFace_of_selects (args := #[]) (mvT hZ (hw _ (List.mem_of_getElem? (i := 57) rfl)))) (mvT hZ (hw _ (List.mem_of_getElem? (i := 57) rfl))) (mvT hZ (hw _ (List.mem_of_getElem? (i := 56) rfl))) (by decide) (backOf (W := 1) (rm9 l Z a0 hw [] va pv h0 n0 Z0 F_va_position) hZ (hw _ (List.mem_of_getElem? (i := 58) rfl)) (hw _ (List.mem_of_getElem? (i := 15) rfl)) (by decide) (by decide)) q8a q8c (g := (mkF m 60 #[.val (.ref oa), .val (.ref va), .unset, .unset] [(.ref va), (.ref oa)])) rfl (by rw [hml]; rfl) (Steps.refl _) (argsL := []) (rest := [(.ref oa)]) (lenOf own_pd2 rfl) rfl (by show 2 * 0 + _ ≤ _; exact Nat.le_of_eq rfl) (hb hby own_d5_60) (fun _ _ => ⟨rfl, (e7q), (by decide : 0 + 0 ≤ _), (by decide : 0 + 0 ≤ _)⟩)
  dsimp only [Pt.U, Pt.locs, Pt.cells, Pt.slots] at X8 l8 y8 z8 st8 hQ8
  subst l8 y8 z8
  obtain ⟨rfl, N8q, e8q⟩ := hQ8
  have N8 := Fr.app N7 N8q
  obtain ⟨lc8, X8, N8⟩ : ∃ lc, Stand p l e ({ frames := 6, cells := 1, slots := 2, locals := 3090 } : Room) s m #[(.ref oa), (.ref va)] below meth c T8 lc 0 0 ∧ Fr n0 lc := ⟨_, X8, N8⟩
  refine Go.tr st8 ?_
  show Go p e below Φ T8 (mkF m 63 #[.val (.ref oa), .val (.ref va), .unset, .unset] [(.long pv), (.ref oa)])
  obtain ⟨cq9, q9, q9'⟩ := E_oa.cell
  obtain ⟨_, _, ⟨T9, L9, k9, n9⟩, -, X9, ⟨Lc9, hQ9, l9, y9, z9⟩, st9⟩ := X8.privateBack hx (y := (⟨"com/example/demarq/demarq/broker/SortedMessages", "countBelow", "(J)I"⟩ : MethodName)) hown (mvT hZ (hw _ (List.mem_of_getElem? (i := 59) rfl))) (mvT hZ (hw _ (List.mem_of_getElem? (i := 60) rfl))) (own_privSel (z := (⟨"com/example/demarq/demarq/broker/SortedMessages", "isEmpty", "()Z"⟩ : MethodName)) (y := (⟨"com/example/demarq/demarq/broker/SortedMessages", "countBelow", "(J)I"⟩ : MethodName)) hZ (hw _ (List.mem_of_getElem? (i := 29) rfl)) rfl (hw _ (List.mem_of_getElem? (i := 60) rfl)) (hw _ (List.mem_of_getElem? (i := 61) rfl)) (by decide)) (Cond.privateMethod_at (mvP hZ (hw _ (List.mem_of_getElem? (i := 61) rfl)) (args := #[]))) (mvT hZ (hw _ (List.mem_of_getElem? (i := 62) rfl))) (by decide) (backOf (W := 0) (rm10z l Z a0 hw [] oa pv ra kr hs xa (0 : Int32) (1 : Int32) px h0 n0 Z0 F_oa_head F_oa_ring V_ra F_oa_size E_oa ⟨by decide, by decide⟩ hat0 E_xa F_xa_position hge (by decide)) hZ (hw _ (List.mem_of_getElem? (i := 62) rfl)) (hw _ (List.mem_of_getElem? (i := 2) rfl)) (by decide) (by decide)) (g := (mkF m 63 #[.val (.ref oa), .val (.ref va), .unset, .unset] [(.long pv), (.ref oa)])) rfl (by rw [hml]; rfl) (Steps.refl _) (a := oa) (by rw [(e8q)]; exact q9) q9' (argsL := [(.long pv)]) (rest := []) (lenOf own_pd6 rfl) rfl (by show 2 * 0 + _ ≤ _; exact Nat.le_of_eq rfl) (hb hby own_d5_63) (fun _ _ => ⟨rfl, (e8q), (by decide : 0 + 1 ≤ _), (by decide : 0 + 2 ≤ _)⟩)
  dsimp only [Pt.U, Pt.locs, Pt.cells, Pt.slots] at X9 l9 y9 z9 st9 hQ9
  subst l9 y9 z9
  obtain ⟨rfl, N9q, K9q⟩ := hQ9
  have N9 := Fr.app N8 N9q
  obtain ⟨lc9, X9, N9⟩ : ∃ lc, Stand p l e ({ frames := 6, cells := 1, slots := 2, locals := 3090 } : Room) s m #[(.ref oa), (.ref va)] below meth c T9 lc 1 2 ∧ Fr n0 lc := ⟨_, X9, N9⟩
  have F_oa_head := F_oa_head.keep K9q nin0
  have F_oa_ring := F_oa_ring.keep K9q nin0
  have V_ra := V_ra.keep K9q nin0
  have F_oa_size := F_oa_size.keep K9q nin0
  have E_va := E_va.keep K9q
  have F_va_position := F_va_position.keep K9q nin0
  have E_xa := E_xa.keep K9q
  have F_xa_position := F_xa_position.keep K9q nin0
  have E_oa := E_oa.keep K9q
  have K9 := (Keep.refl h0 [oa, ra]).trans K9q all0
  have Z9 := Nat.le_trans Z0 K9q.1
  refine Go.tr st9 ?_
  show Go p e below Φ T9 (mkF m 66 #[.val (.ref oa), .val (.ref va), .unset, .unset] [(.int (0 : Int32))])
  refine Go.of (fun t k => XS.istoreN X9.here hx rfl (hb hby own_d5_66) rfl (l' := #[.val (.ref oa), .val (.ref va), .val (.int (0 : Int32)), .unset]) rfl k) ?_
  show Go p e below Φ T9 (mkF m 67 #[.val (.ref oa), .val (.ref va), .val (.int (0 : Int32)), .unset] [])
  refine Go.of (fun t k => XS.iloadN X9.here hx rfl (hb hby own_d5_67) rfl  k) ?_
  show Go p e below Φ T9 (mkF m 68 #[.val (.ref oa), .val (.ref va), .val (.int (0 : Int32)), .unset] [(.int (0 : Int32))])
  refine Go.of (fun t k => XS.aloadN X9.here hx rfl (hb hby own_d5_68) rfl rfl  k) ?_
  show Go p e below Φ T9 (mkF m 69 #[.val (.ref oa), .val (.ref va), .val (.int (0 : Int32)), .unset] [(.ref oa), (.int (0 : Int32))])
  obtain ⟨T10, X10, e10, st10⟩ := getF X9 hx hZ hown (host := "") (Or.inl (hw _ (List.mem_of_getElem? (i := 31) rfl))) Via.refl rfl F_oa_size (g := (mkF m 69 #[.val (.ref oa), .val (.ref va), .val (.int (0 : Int32)), .unset] [(.ref oa), (.int (0 : Int32))])) rfl rfl (hb hby own_d5_69)
  refine Go.of st10 ?_
  show Go p e below Φ T10 (mkF m 72 #[.val (.ref oa), .val (.ref va), .val (.int (0 : Int32)), .unset] [(.int (1 : Int32)), (.int (0 : Int32))])
  refine Go.of (fun t k => XS.iloadN X10.here hx rfl (hb hby own_d5_72) rfl  k) ?_
  show Go p e below Φ T10 (mkF m 73 #[.val (.ref oa), .val (.ref va), .val (.int (0 : Int32)), .unset] [(.int (0 : Int32)), (.int (1 : Int32)), (.int (0 : Int32))])
  refine Go.of (fun t k => XS.isub X10.here hx rfl (hb hby own_d5_73) rfl k) ?_
  show Go p e below Φ T10 (mkF m 74 #[.val (.ref oa), .val (.ref va), .val (.int (0 : Int32)), .unset] [(.int (1 : Int32)), (.int (0 : Int32))])
  refine Go.of (fun t k => XS.icmpNo X10.here hx rfl (hb hby own_d5_74) rfl (XT.ii_ge_f (by decide)) k) ?_
  show Go p e below Φ T10 (mkF m 77 #[.val (.ref oa), .val (.ref va), .val (.int (0 : Int32)), .unset] [])
  refine Go.of (fun t k => XS.aloadN X10.here hx rfl (hb hby own_d5_77) rfl rfl  k) ?_
  show Go p e below Φ T10 (mkF m 78 #[.val (.ref oa), .val (.ref va), .val (.int (0 : Int32)), .unset] [(.ref oa)])
  refine Go.of (fun t k => XS.aloadN X10.here hx rfl (hb hby own_d5_78) rfl rfl  k) ?_
  show Go p e below Φ T10 (mkF m 79 #[.val (.ref oa), .val (.ref va), .val (.int (0 : Int32)), .unset] [(.ref oa), (.ref oa)])
  refine Go.of (fun t k => XS.aloadN X10.here hx rfl (hb hby own_d5_79) rfl rfl  k) ?_
  show Go p e below Φ T10 (mkF m 80 #[.val (.ref oa), .val (.ref va), .val (.int (0 : Int32)), .unset] [(.ref oa), (.ref oa), (.ref oa)])
  obtain ⟨T11, X11, e11, st11⟩ := getF X10 hx hZ hown (host := "") (Or.inl (hw _ (List.mem_of_getElem? (i := 11) rfl))) Via.refl e10 F_oa_ring (g := (mkF m 80 #[.val (.ref oa), .val (.ref va), .val (.int (0 : Int32)), .unset] [(.ref oa), (.ref oa), (.ref oa)])) rfl rfl (hb hby own_d5_80)
  refine Go.of st11 ?_
  show Go p e below Φ T11 (mkF m 83 #[.val (.ref oa), .val (.ref va), .val (.int (0 : Int32)), .unset] [(.ref ra), (.ref oa), (.ref oa)])
  obtain ⟨cl83, Ar83, q83, S83, N83, H83, G83⟩ := id V_ra
  refine Go.of (fun t k => X11.arraylength hx (own_at_ e11 Ar83.1) (State.isArrayOf_alike hZ.alike Ar83.2.1) (g := (mkF m 83 #[.val (.ref oa), .val (.ref va), .val (.int (0 : Int32)), .unset] [(.ref ra), (.ref oa), (.ref oa)])) rfl rfl (hb hby own_d5_83) t k) ?_
  rw [len_of S83 N83]
  show Go p e below Φ T11 (mkF m 84 #[.val (.ref oa), .val (.ref va), .val (.int (0 : Int32)), .unset] [(.int (16 : Int32)), (.ref oa), (.ref oa)])
  refine Go.of (fun t k => XS.iconst X11.here hx rfl (hb hby own_d5_84) k) ?_
  show Go p e below Φ T11 (mkF m 85 #[.val (.ref oa), .val (.ref va), .val (.int (0 : Int32)), .unset] [(.int (1 : Int32)), (.int (16 : Int32)), (.ref oa), (.ref oa)])
  refine Go.of (fun t k => XS.isub X11.here hx rfl (hb hby own_d5_85) rfl k) ?_
  show Go p e below Φ T11 (mkF m 86 #[.val (.ref oa), .val (.ref va), .val (.int (0 : Int32)), .unset] [(.int (15 : Int32)), (.ref oa), (.ref oa)])
  obtain ⟨cq12, q12, q12'⟩ := E_oa.cell
  obtain ⟨_, _, ⟨T12, L12, k12, n12⟩, -, X12, ⟨Lc12, hQ12, l12, y12, z12⟩, st12⟩ := X11.privateBack hx (y := (⟨"com/example/demarq/demarq/broker/SortedMessages", "slot", "(I)I"⟩ : MethodName)) hown (mvT hZ (hw _ (List.mem_of_getElem? (i := 42) rfl))) (mvT hZ (hw _ (List.mem_of_getElem? (i := 43) rfl))) (own_privSel (z := (⟨"com/example/demarq/demarq/broker/SortedMessages", "isEmpty", "()Z"⟩ : MethodName)) (y := (⟨"com/example/demarq/demarq/broker/SortedMessages", "slot", "(I)I"⟩ : MethodName)) hZ (hw _ (List.mem_of_getElem? (i := 29) rfl)) rfl (hw _ (List.mem_of_getElem? (i := 43) rfl)) (hw _ (List.mem_of_getElem? (i := 44) rfl)) (by decide)) (Cond.privateMethod_at (mvP hZ (hw _ (List.mem_of_getElem? (i := 44) rfl)) (args := #[]))) (mvT hZ (hw _ (List.mem_of_getElem? (i := 45) rfl))) (by decide) (backOf (W := 1) (rm7 l Z a0 hw [] oa (15 : Int32) ra kr hs (0 : Int32) T9.heap n0 Z9 F_oa_head F_oa_ring V_ra) hZ (hw _ (List.mem_of_getElem? (i := 45) rfl)) (hw _ (List.mem_of_getElem? (i := 2) rfl)) (by decide) (by decide)) (g := (mkF m 86 #[.val (.ref oa), .val (.ref va), .val (.int (0 : Int32)), .unset] [(.int (15 : Int32)), (.ref oa), (.ref oa)])) rfl (by rw [hml]; rfl) (Steps.refl _) (a := oa) (by rw [e11]; exact q12) q12' (argsL := [(.int (15 : Int32))]) (rest := [(.ref oa)]) (lenOf own_pd0 rfl) rfl (by show 2 * 0 + _ ≤ _; exact Nat.le_of_eq rfl) (hb hby own_d5_86) (fun _ _ => ⟨rfl, e11, (by decide : 1 + 0 ≤ _), (by decide : 2 + 0 ≤ _)⟩)
  dsimp only [Pt.U, Pt.locs, Pt.cells, Pt.slots] at X12 l12 y12 z12 st12 hQ12
  subst l12 y12 z12
  obtain ⟨rfl, N12q, e12q⟩ := hQ12
  have N12 := Fr.app N9 N12q
  obtain ⟨lc12, X12, N12⟩ : ∃ lc, Stand p l e ({ frames := 6, cells := 1, slots := 2, locals := 3090 } : Room) s m #[(.ref oa), (.ref va)] below meth c T12 lc 1 2 ∧ Fr n0 lc := ⟨_, X12, N12⟩
  refine Go.tr st12 ?_
  show Go p e below Φ T12 (mkF m 89 #[.val (.ref oa), .val (.ref va), .val (.int (0 : Int32)), .unset] [(.int (15 : Int32)), (.ref oa)])
  obtain ⟨T13, h13, X13, e13, W13, st13⟩ := putF X12 hx hZ hown (host := "") (Or.inl (hw _ (List.mem_of_getElem? (i := 46) rfl))) Via.refl (e12q) F_oa_head E_oa (Or.inl (hw _ (List.mem_of_getElem? (i := 47) rfl))) (hw _ (List.mem_of_getElem? (i := 1) rfl)) (ty := .int) (by decide) rfl rfl (g := (mkF m 89 #[.val (.ref oa), .val (.ref va), .val (.int (0 : Int32)), .unset] [(.int (15 : Int32)), (.ref oa)])) rfl rfl (hb hby own_d5_89)
  have N13 := Fr.snoc X13 N12 g_oa
  have F_oa_head := F_oa_head.same W13
  have F_oa_ring := F_oa_ring.other W13 (Or.inr (slot_ne (Or.inl (hw _ (List.mem_of_getElem? (i := 12) rfl))) (Or.inl (hw _ (List.mem_of_getElem? (i := 47) rfl))) (by decide) (t := (.array (.object "com/example/demarq/demarq/broker/Message"))) (t' := .int) (by decide) (by decide)))
  have V_ra := V_ra.other W13 (Ne.symm ne_oa_ra)
  have F_oa_size := F_oa_size.other W13 (Or.inr (slot_ne (Or.inl (hw _ (List.mem_of_getElem? (i := 32) rfl))) (Or.inl (hw _ (List.mem_of_getElem? (i := 47) rfl))) (by decide) (t := .int) (t' := .int) (by decide) (by decide)))
  have E_va := E_va.wr W13
  have F_va_position := F_va_position.other W13 (Or.inl ne_va_oa)
  have E_xa := E_xa.wr W13
  have F_xa_position := F_xa_position.other W13 (Or.inl ne_xa_oa)
  have E_oa := E_oa.wr W13
  have K13 : Keep h0 h13 [oa, ra] := K9.wr W13 (Or.inl (List.mem_of_getElem? (i := 0) rfl))
  have Z13 := Nat.le_trans Z9 (Keep.of_wr W13).1
  obtain ⟨lc13, X13, N13⟩ : ∃ lc, Stand p l e ({ frames := 6, cells := 1, slots := 2, locals := 3090 } : Room) s m #[(.ref oa), (.ref va)] below meth c T13 lc 1 2 ∧ Fr n0 lc := ⟨_, X13, N13⟩
  refine Go.of st13 ?_
  show Go p e below Φ T13 (mkF m 92 #[.val (.ref oa), .val (.ref va), .val (.int (0 : Int32)), .unset] [])
  refine Go.of (fun t k => XS.iconst X13.here hx rfl (hb hby own_d5_92) k) ?_
  show Go p e below Φ T13 (mkF m 93 #[.val (.ref oa), .val (.ref va), .val (.int (0 : Int32)), .unset] [(.int (0 : Int32))])
  refine Go.of (fun t k => XS.istoreN X13.here hx rfl (hb hby own_d5_93) rfl (l' := #[.val (.ref oa), .val (.ref va), .val (.int (0 : Int32)), .val (.int (0 : Int32))]) rfl k) ?_
  show Go p e below Φ T13 (mkF m 94 #[.val (.ref oa), .val (.ref va), .val (.int (0 : Int32)), .val (.int (0 : Int32))] [])
  refine Go.of (fun t k => XS.iloadN X13.here hx rfl (hb hby own_d5_94) rfl  k) ?_
  show Go p e below Φ T13 (mkF m 95 #[.val (.ref oa), .val (.ref va), .val (.int (0 : Int32)), .val (.int (0 : Int32))] [(.int (0 : Int32))])
  refine Go.of (fun t k => XS.iloadN X13.here hx rfl (hb hby own_d5_95) rfl  k) ?_
  show Go p e below Φ T13 (mkF m 96 #[.val (.ref oa), .val (.ref va), .val (.int (0 : Int32)), .val (.int (0 : Int32))] [(.int (0 : Int32)), (.int (0 : Int32))])
  refine Go.of (fun t k => XS.icmpYes X13.here hx rfl (pc0 := 96) (pc' := 117) rfl (hb hby own_d5_96) rfl (XT.ii_ge_t (by decide)) (by decide) (by decide) k) ?_
  show Go p e below Φ T13 (mkF m 117 #[.val (.ref oa), .val (.ref va), .val (.int (0 : Int32)), .val (.int (0 : Int32))] [])
  refine Go.of (fun t k => XS.goto X13.here hx rfl (pc0 := 117) (pc' := 148) rfl (hb hby own_d5_117) (by decide) (by decide) k) ?_
  show Go p e below Φ T13 (mkF m 148 #[.val (.ref oa), .val (.ref va), .val (.int (0 : Int32)), .val (.int (0 : Int32))] [])
  refine Go.of (fun t k => XS.aloadN X13.here hx rfl (hb hby own_d5_148) rfl rfl  k) ?_
  show Go p e below Φ T13 (mkF m 149 #[.val (.ref oa), .val (.ref va), .val (.int (0 : Int32)), .val (.int (0 : Int32))] [(.ref oa)])
  refine Go.of (fun t k => XS.iloadN X13.here hx rfl (hb hby own_d5_149) rfl  k) ?_
  show Go p e below Φ T13 (mkF m 150 #[.val (.ref oa), .val (.ref va), .val (.int (0 : Int32)), .val (.int (0 : Int32))] [(.int (0 : Int32)), (.ref oa)])
  refine Go.of (fun t k => XS.aloadN X13.here hx rfl (hb hby own_d5_150) rfl rfl  k) ?_
  show Go p e below Φ T13 (mkF m 151 #[.val (.ref oa), .val (.ref va), .val (.int (0 : Int32)), .val (.int (0 : Int32))] [(.ref va), (.int (0 : Int32)), (.ref oa)])
  obtain ⟨cq14, q14, q14'⟩ := E_oa.cell
  obtain ⟨_, _, ⟨T14, L14, k14, n14⟩, -, X14, ⟨Lc14, hQ14, l14, y14, z14⟩, st14⟩ := X13.privateBack hx (y := (⟨"com/example/demarq/demarq/broker/SortedMessages", "set", "(ILcom/example/demarq/demarq/broker/Message;)V"⟩ : MethodName)) hown (mvT hZ (hw _ (List.mem_of_getElem? (i := 38) rfl))) (mvT hZ (hw _ (List.mem_of_getElem? (i := 39) rfl))) (own_privSel (z := (⟨"com/example/demarq/demarq/broker/SortedMessages", "isEmpty", "()Z"⟩ : MethodName)) (y := (⟨"com/example/demarq/demarq/broker/SortedMessages", "set", "(ILcom/example/demarq/demarq/broker/Message;)V"⟩ : MethodName)) hZ (hw _ (List.mem_of_getElem? (i := 29) rfl)) rfl (hw _ (List.mem_of_getElem? (i := 39) rfl)) (hw _ (List.mem_of_getElem? (i := 40) rfl)) (by decide)) (Cond.privateMethod_at (mvP hZ (hw _ (List.mem_of_getElem? (i := 40) rfl)) (args := #[]))) (mvT hZ (hw _ (List.mem_of_getElem? (i := 41) rfl))) (by decide) (backOf (W := 0) (rm6r l Z a0 hw [] oa (0 : Int32) va ra kr hs (15 : Int32) h13 n0 Z13 F_oa_head F_oa_ring V_ra E_oa ⟨by decide, by decide⟩ g_ra ne_oa_ra Ov E_va) hZ (hw _ (List.mem_of_getElem? (i := 41) rfl)) (hw _ (List.mem_of_getElem? (i := 2) rfl)) (by decide) (by decide)) (g := (mkF m 151 #[.val (.ref oa), .val (.ref va), .val (.int (0 : Int32)), .val (.int (0 : Int32))] [(.ref va), (.int (0 : Int32)), (.ref oa)])) rfl (by rw [hml]; rfl) (Steps.refl _) (a := oa) (by rw [e13]; exact q14) q14' (argsL := [(.int (0 : Int32)), (.ref va)]) (rest := []) (lenOf own_pd5 rfl) rfl (by show 2 * 0 + _ ≤ _; exact Nat.le_of_eq rfl) (hb hby own_d5_151) (fun _ _ => ⟨rfl, e13, (by decide : 1 + 0 ≤ _), (by decide : 2 + 0 ≤ _)⟩)
  dsimp only [Pt.U, Pt.locs, Pt.cells, Pt.slots] at X14 l14 y14 z14 st14 hQ14
  subst l14 y14 z14
  obtain ⟨rfl, N14q, K14q, c14_0⟩ := hQ14
  have N14 := Fr.app N13 N14q
  obtain ⟨lc14, X14, N14⟩ : ∃ lc, Stand p l e ({ frames := 6, cells := 1, slots := 2, locals := 3090 } : Room) s m #[(.ref oa), (.ref va)] below meth c T14 lc 1 2 ∧ Fr n0 lc := ⟨_, X14, N14⟩
  have F_oa_head := F_oa_head.keep K14q (ninS ne_oa_ra nin0)
  have F_oa_ring := F_oa_ring.keep K14q (ninS ne_oa_ra nin0)
  have F_oa_size := F_oa_size.keep K14q (ninS ne_oa_ra nin0)
  have E_va := E_va.keep K14q
  have F_va_position := F_va_position.keep K14q (ninS ne_va_ra nin0)
  have E_xa := E_xa.keep K14q
  have F_xa_position := F_xa_position.keep K14q (ninS ne_xa_ra nin0)
  have E_oa := E_oa.keep K14q
  have V_ra : Arh Z T14.heap ra kr (.object "com/example/demarq/demarq/broker/Message") (16 : Int32) (((15 : Int32), (.ref va)) :: hs) [] .null := c14_0
  have K14 := K13.trans K14q (allS (Or.inl (List.mem_of_getElem? (i := 1) rfl)) all0)
  have Z14 := Nat.le_trans Z13 K14q.1
  refine Go.tr st14 ?_
  show Go p e below Φ T14 (mkF m 154 #[.val (.ref oa), .val (.ref va), .val (.int (0 : Int32)), .val (.int (0 : Int32))] [])
  refine Go.of (fun t k => XS.aloadN X14.here hx rfl (hb hby own_d5_154) rfl rfl  k) ?_
  show Go p e below Φ T14 (mkF m 155 #[.val (.ref oa), .val (.ref va), .val (.int (0 : Int32)), .val (.int (0 : Int32))] [(.ref oa)])
  refine Go.of (fun t k => XS.dup X14.here hx rfl (hb hby own_d5_155) rfl rfl k) ?_
  show Go p e below Φ T14 (mkF m 156 #[.val (.ref oa), .val (.ref va), .val (.int (0 : Int32)), .val (.int (0 : Int32))] [(.ref oa), (.ref oa)])
  obtain ⟨T15, X15, e15, st15⟩ := getF X14 hx hZ hown (host := "") (Or.inl (hw _ (List.mem_of_getElem? (i := 31) rfl))) Via.refl rfl F_oa_size (g := (mkF m 156 #[.val (.ref oa), .val (.ref va), .val (.int (0 : Int32)), .val (.int (0 : Int32))] [(.ref oa), (.ref oa)])) rfl rfl (hb hby own_d5_156)
  refine Go.of st15 ?_
  show Go p e below Φ T15 (mkF m 159 #[.val (.ref oa), .val (.ref va), .val (.int (0 : Int32)), .val (.int (0 : Int32))] [(.int (1 : Int32)), (.ref oa)])
  refine Go.of (fun t k => XS.iconst X15.here hx rfl (hb hby own_d5_159) k) ?_
  show Go p e below Φ T15 (mkF m 160 #[.val (.ref oa), .val (.ref va), .val (.int (0 : Int32)), .val (.int (0 : Int32))] [(.int (1 : Int32)), (.int (1 : Int32)), (.ref oa)])
  refine Go.of (fun t k => XS.iadd X15.here hx rfl (hb hby own_d5_160) rfl k) ?_
  show Go p e below Φ T15 (mkF m 161 #[.val (.ref oa), .val (.ref va), .val (.int (0 : Int32)), .val (.int (0 : Int32))] [(.int (2 : Int32)), (.ref oa)])
  obtain ⟨T16, h16, X16, e16, W16, st16⟩ := putF X15 hx hZ hown (host := "") (Or.inl (hw _ (List.mem_of_getElem? (i := 31) rfl))) Via.refl e15 F_oa_size E_oa (Or.inl (hw _ (List.mem_of_getElem? (i := 32) rfl))) (hw _ (List.mem_of_getElem? (i := 1) rfl)) (ty := .int) (by decide) rfl rfl (g := (mkF m 161 #[.val (.ref oa), .val (.ref va), .val (.int (0 : Int32)), .val (.int (0 : Int32))] [(.int (2 : Int32)), (.ref oa)])) rfl rfl (hb hby own_d5_161)
  have N16 := Fr.snoc X16 N14 g_oa
  have F_oa_size := F_oa_size.same W16
  have F_oa_head := F_oa_head.other W16 (Or.inr (slot_ne (Or.inl (hw _ (List.mem_of_getElem? (i := 47) rfl))) (Or.inl (hw _ (List.mem_of_getElem? (i := 32) rfl))) (by decide) (t := .int) (t' := .int) (by decide) (by decide)))
  have F_oa_ring := F_oa_ring.other W16 (Or.inr (slot_ne (Or.inl (hw _ (List.mem_of_getElem? (i := 12) rfl))) (Or.inl (hw _ (List.mem_of_getElem? (i := 32) rfl))) (by decide) (t := (.array (.object "com/example/demarq/demarq/broker/Message"))) (t' := .int) (by decide) (by decide)))
  have V_ra := V_ra.other W16 (Ne.symm ne_oa_ra)
  have E_va := E_va.wr W16
  have F_va_position := F_va_position.other W16 (Or.inl ne_va_oa)
  have E_xa := E_xa.wr W16
  have F_xa_position := F_xa_position.other W16 (Or.inl ne_xa_oa)
  have E_oa := E_oa.wr W16
  have K16 : Keep h0 h16 [oa, ra] := K14.wr W16 (Or.inl (List.mem_of_getElem? (i := 0) rfl))
  have Z16 := Nat.le_trans Z14 (Keep.of_wr W16).1
  obtain ⟨lc16, X16, N16⟩ : ∃ lc, Stand p l e ({ frames := 6, cells := 1, slots := 2, locals := 3090 } : Room) s m #[(.ref oa), (.ref va)] below meth c T16 lc 1 2 ∧ Fr n0 lc := ⟨_, X16, N16⟩
  refine Go.of st16 ?_
  show Go p e below Φ T16 (mkF m 164 #[.val (.ref oa), .val (.ref va), .val (.int (0 : Int32)), .val (.int (0 : Int32))] [])
  rw [hΦ]
  refine Go.retV X16 hx Bd.notSynchronized Bd.returns (hb hby own_d5_164) (by decide) (by decide) ?_
  rw [e16]
  exact ⟨rfl, N16, K16, F_oa_size, F_oa_head, F_oa_ring, V_ra⟩
theorem own_ef8a (m : MethodId) (oa : Addr) (xa : Addr) : entryFrame m #[(.ref oa), (.ref xa)] 4 = mkF m 0 #[.val (.ref oa), .val (.ref xa), .unset, .unset] [] := by first | (simp [entryFrame, mkF, argsToLocals, Value.category]; done) | rfl
def Q8a (Z : State) (oa : Addr) (xa : Addr) (ra : Addr) (kr : ClassId) (hs : List (Int32 × Value)) (hdx : Int32) (px : Int64) (h0 : Heap) (n0 : Nat) (vr : Option Value) (hr : Heap) (Lr : List Loc) : Prop := vr = none ∧ Fr n0 Lr ∧ Keep h0 hr [oa, ra] ∧ Fld Z hr oa "com/example/demarq/demarq/broker/SortedMessages" "size" "I" (.int (0 : Int32))
set_option maxRecDepth 65536 in
set_option maxHeartbeats 40000000 in
theorem rm8a (l : Launch) (Z : State) (a0 : Array Value) (hw : ∀ d ∈ tables_1, d.before a0 Z = true) (ws : List Jvm.Cond) (oa : Addr) (xa : Addr) (ra : Addr) (kr : ClassId) (hs : List (Int32 × Value)) (hdx : Int32) (px : Int64) (h0 : Heap) (n0 : Nat) (Z0 : n0 ≤ h0.size) (F_oa_head : Fld Z h0 oa "com/example/demarq/demarq/broker/SortedMessages" "head" "I" (.int hdx)) (F_oa_ring : Fld Z h0 oa "com/example/demarq/demarq/broker/SortedMessages" "ring" "[Lcom/example/demarq/demarq/broker/Message;" (.ref ra)) (V_ra : Arh Z h0 ra kr (.object "com/example/demarq/demarq/broker/Message") (16 : Int32) hs [] .null) (E_oa : Exa Z h0 oa "com/example/demarq/demarq/broker/SortedMessages") (g_oa : n0 ≤ oa) (g_ra : n0 ≤ ra) (ne_oa_ra : oa ≠ ra) (F_oa_size : Fld Z h0 oa "com/example/demarq/demarq/broker/SortedMessages" "size" "I" (.int (1 : Int32))) (hin0 : ¬ ((hdx + (0 : Int32)) % (16 : Int32)) < 0 ∧ ((hdx + (0 : Int32)) % (16 : Int32)) < (16 : Int32)) (hat0 : getH hs [] .null (((hdx + (0 : Int32)) % (16 : Int32))).toNatClampNeg = .ref xa) (E_xa : Exa Z h0 xa "com/example/demarq/demarq/broker/Message") (F_xa_position : Fld Z h0 xa "com/example/demarq/demarq/broker/Message" "position" "J" (.long px)) (ne_xa_oa : xa ≠ oa) (ne_xa_ra : xa ≠ ra) :
    MetFree l (⟨"com/example/demarq/demarq/broker/SortedMessages", "remove", "(Lcom/example/demarq/demarq/broker/Message;)V"⟩ : MethodName) (head1 (Jvm.Cond.code (⟨"com/example/demarq/demarq/broker/SortedMessages", "remove", "(Lcom/example/demarq/demarq/broker/Message;)V"⟩ : MethodName) prog_12_method_4_code 4 none :: ws) ({ frames := 6, cells := 1, slots := 2, locals := 3090 } : Room)) (fun aQ UQ => aQ = #[(.ref oa), (.ref xa)] ∧ Z.Warmed39 UQ.vm ∧ UQ.heap = h0) (fun _ _ _ _ _ => True) (fun _ UQ oQ VQ => ∃ vQ LQ, oQ = .returned vQ ∧ Q8a Z oa xa ra kr hs hdx px h0 n0 vQ VQ.heap LQ ∧ FrameEnd UQ oQ VQ LQ ({ frames := 6, cells := 1, slots := 2, locals := 3090 } : Room).cells ({ frames := 6, cells := 1, slots := 2, locals := 3090 } : Room).slots) := by
  refine MetFree.of_bodySF (plainFor_of_name own_pn0) hisR ?_
  intro p e s m args below meth c s₁ Bd hml0 hP hK
  obtain ⟨rfl, hZ, hh⟩ := hP
  have hx := Bd.exec
  have hby := Bd.bytes
  have hml : c.maxLocals = 4 := hml0
  have hown : s.vm.findClass "com/example/demarq/demarq/broker/SortedMessages" = some m.cls := findClass_of_methodNamed Bd.named
  have hnm := (name_of_methodNamed Bd.named Bd.method).1
  have X0 : Stand p l e ({ frames := 6, cells := 1, slots := 2, locals := 3090 } : Room) s m #[(.ref oa), (.ref xa)] below meth c s₁ [] 0 0 := Stand.of_body Bd
  have e0 : s₁.heap = h0 := by rw [← hh, Bd.state]; rfl
  have N0 := Fr.nil n0
  show Go p e below (EndQ s below (Q8a Z oa xa ra kr hs hdx px h0 n0) ({ frames := 6, cells := 1, slots := 2, locals := 3090 } : Room).cells ({ frames := 6, cells := 1, slots := 2, locals := 3090 } : Room).slots) s₁ (entryFrame m #[(.ref oa), (.ref xa)] 4)
  obtain ⟨Φ, hΦ⟩ : ∃ Φ, Φ = EndQ s below (Q8a Z oa xa ra kr hs hdx px h0 n0) ({ frames := 6, cells := 1, slots := 2, locals := 3090 } : Room).cells ({ frames := 6, cells := 1, slots := 2, locals := 3090 } : Room).slots := ⟨_, rfl⟩
  rw [← hΦ, own_ef8a]
  show Go p e below Φ s₁ (mkF m 0 #[.val (.ref oa), .val (.ref xa), .unset, .unset] [])
  refine Go.of (fun t k => XS.aloadN X0.here hx rfl (hb hby own_d8_0) rfl rfl  k) ?_
  show Go p e below Φ s₁ (mkF m 1 #[.val (.ref oa), .val (.ref xa), .unset, .unset] [(.ref oa)])
  refine Go.of (fun t k => XS.aloadN X0.here hx rfl (hb hby own_d8_1) rfl rfl  k) ?_
  show Go p e below Φ s₁ (mkF m 2 #[.val (.ref oa), .val (.ref xa), .unset, .unset] [(.ref xa), (.ref oa)])
  obtain ⟨cq1, kq1, q1a, q1b, q1c⟩ := isOf hZ e0 E_xa
  obtain ⟨_, _, ⟨T1, L1, k1, n1⟩, -, X1, ⟨Lc1, hQ1, l1, y1, z1⟩, st1⟩ := X0.virtualBack hx (y := (⟨"com/example/demarq/demarq/broker/Message", "position", "()J"⟩ : MethodName)) (z := (⟨"com/example/demarq/demarq/broker/Message", "position", "()J"⟩ : MethodName)) hown (mvT hZ (hw _ (List.mem_of_getElem? (i := 54) rfl))) (mvT hZ (hw _ (List.mem_of_getElem? (i := 55) rfl))) (notFace_of_selects (args := #[]) (mvT hZ (hw _ (List.mem_of_getElem? (i := 57) rfl)))) (mvT hZ (hw _ (List.mem_of_getElem? (i := 57) rfl))) (mvT hZ (hw _ (List.mem_of_getElem? (i := 56) rfl))) (by decide) (backOf (W := 1) (rm9 l Z a0 hw [] xa px h0 n0 Z0 F_xa_position) hZ (hw _ (List.mem_of_getElem? (i := 58) rfl)) (hw _ (List.mem_of_getElem? (i := 15) rfl)) (by decide) (by decide)) q1a q1c (g := (mkF m 2 #[.val (.ref oa), .val (.ref xa), .unset, .unset] [(.ref xa), (.ref oa)])) rfl (by rw [hml]; rfl) (Steps.refl _) (argsL := []) (rest := [(.ref oa)]) (lenOf own_pd2 rfl) rfl (by show 2 * 0 + _ ≤ _; exact Nat.le_of_eq rfl) (hb hby own_d8_2) (fun _ _ => ⟨rfl, e0, (by decide : 0 + 0 ≤ _), (by decide : 0 + 0 ≤ _)⟩)
  dsimp only [Pt.U, Pt.locs, Pt.cells, Pt.slots] at X1 l1 y1 z1 st1 hQ1
  subst l1 y1 z1
  obtain ⟨rfl, N1q, e1q⟩ := hQ1
  have N1 := Fr.app N0 N1q
  obtain ⟨lc1, X1, N1⟩ : ∃ lc, Stand p l e ({ frames := 6, cells := 1, slots := 2, locals := 3090 } : Room) s m #[(.ref oa), (.ref xa)] below meth c T1 lc 0 0 ∧ Fr n0 lc := ⟨_, X1, N1⟩
  refine Go.tr st1 ?_
  show Go p e below Φ T1 (mkF m 5 #[.val (.ref oa), .val (.ref xa), .unset, .unset] [(.long px), (.ref oa)])
  obtain ⟨cq2, q2, q2'⟩ := E_oa.cell
  obtain ⟨_, _, ⟨T2, L2, k2, n2⟩, -, X2, ⟨Lc2, hQ2, l2, y2, z2⟩, st2⟩ := X1.privateBack hx (y := (⟨"com/example/demarq/demarq/broker/SortedMessages", "countBelow", "(J)I"⟩ : MethodName)) hown (mvT hZ (hw _ (List.mem_of_getElem? (i := 59) rfl))) (mvT hZ (hw _ (List.mem_of_getElem? (i := 60) rfl))) (own_privSel (z := (⟨"com/example/demarq/demarq/broker/SortedMessages", "isEmpty", "()Z"⟩ : MethodName)) (y := (⟨"com/example/demarq/demarq/broker/SortedMessages", "countBelow", "(J)I"⟩ : MethodName)) hZ (hw _ (List.mem_of_getElem? (i := 29) rfl)) rfl (hw _ (List.mem_of_getElem? (i := 60) rfl)) (hw _ (List.mem_of_getElem? (i := 61) rfl)) (by decide)) (Cond.privateMethod_at (mvP hZ (hw _ (List.mem_of_getElem? (i := 61) rfl)) (args := #[]))) (mvT hZ (hw _ (List.mem_of_getElem? (i := 62) rfl))) (by decide) (backOf (W := 0) (rm10z l Z a0 hw [] oa px ra kr hs xa hdx (1 : Int32) px h0 n0 Z0 F_oa_head F_oa_ring V_ra F_oa_size E_oa hin0 hat0 E_xa F_xa_position (own_irr px) (by decide)) hZ (hw _ (List.mem_of_getElem? (i := 62) rfl)) (hw _ (List.mem_of_getElem? (i := 2) rfl)) (by decide) (by decide)) (g := (mkF m 5 #[.val (.ref oa), .val (.ref xa), .unset, .unset] [(.long px), (.ref oa)])) rfl (by rw [hml]; rfl) (Steps.refl _) (a := oa) (by rw [(e1q)]; exact q2) q2' (argsL := [(.long px)]) (rest := []) (lenOf own_pd6 rfl) rfl (by show 2 * 0 + _ ≤ _; exact Nat.le_of_eq rfl) (hb hby own_d8_5) (fun _ _ => ⟨rfl, (e1q), (by decide : 0 + 1 ≤ _), (by decide : 0 + 2 ≤ _)⟩)
  dsimp only [Pt.U, Pt.locs, Pt.cells, Pt.slots] at X2 l2 y2 z2 st2 hQ2
  subst l2 y2 z2
  obtain ⟨rfl, N2q, K2q⟩ := hQ2
  have N2 := Fr.app N1 N2q
  obtain ⟨lc2, X2, N2⟩ : ∃ lc, Stand p l e ({ frames := 6, cells := 1, slots := 2, locals := 3090 } : Room) s m #[(.ref oa), (.ref xa)] below meth c T2 lc 1 2 ∧ Fr n0 lc := ⟨_, X2, N2⟩
  have F_oa_head := F_oa_head.keep K2q nin0
  have F_oa_ring := F_oa_ring.keep K2q nin0
  have V_ra := V_ra.keep K2q nin0
  have E_oa := E_oa.keep K2q
  have F_oa_size := F_oa_size.keep K2q nin0
  have E_xa := E_xa.keep K2q
  have F_xa_position := F_xa_position.keep K2q nin0
  have K2 := (Keep.refl h0 [oa, ra]).trans K2q all0
  have Z2 := Nat.le_trans Z0 K2q.1
  refine Go.tr st2 ?_
  show Go p e below Φ T2 (mkF m 8 #[.val (.ref oa), .val (.ref xa), .unset, .unset] [(.int (0 : Int32))])
  refine Go.of (fun t k => XS.istoreN X2.here hx rfl (hb hby own_d8_8) rfl (l' := #[.val (.ref oa), .val (.ref xa), .val (.int (0 : Int32)), .unset]) rfl k) ?_
  show Go p e below Φ T2 (mkF m 9 #[.val (.ref oa), .val (.ref xa), .val (.int (0 : Int32)), .unset] [])
  refine Go.of (fun t k => XS.iloadN X2.here hx rfl (hb hby own_d8_9) rfl  k) ?_
  show Go p e below Φ T2 (mkF m 10 #[.val (.ref oa), .val (.ref xa), .val (.int (0 : Int32)), .unset] [(.int (0 : Int32))])
  refine Go.of (fun t k => XS.aloadN X2.here hx rfl (hb hby own_d8_10) rfl rfl  k) ?_
  show Go p e below Φ T2 (mkF m 11 #[.val (.ref oa), .val (.ref xa), .val (.int (0 : Int32)), .unset] [(.ref oa), (.int (0 : Int32))])
  obtain ⟨T3, X3, e3, st3⟩ := getF X2 hx hZ hown (host := "") (Or.inl (hw _ (List.mem_of_getElem? (i := 31) rfl))) Via.refl rfl F_oa_size (g := (mkF m 11 #[.val (.ref oa), .val (.ref xa), .val (.int (0 : Int32)), .unset] [(.ref oa), (.int (0 : Int32))])) rfl rfl (hb hby own_d8_11)
  refine Go.of st3 ?_
  show Go p e below Φ T3 (mkF m 14 #[.val (.ref oa), .val (.ref xa), .val (.int (0 : Int32)), .unset] [(.int (1 : Int32)), (.int (0 : Int32))])
  refine Go.of (fun t k => XS.iconst X3.here hx rfl (hb hby own_d8_14) k) ?_
  show Go p e below Φ T3 (mkF m 15 #[.val (.ref oa), .val (.ref xa), .val (.int (0 : Int32)), .unset] [(.int (1 : Int32)), (.int (1 : Int32)), (.int (0 : Int32))])
  refine Go.of (fun t k => XS.isub X3.here hx rfl (hb hby own_d8_15) rfl k) ?_
  show Go p e below Φ T3 (mkF m 16 #[.val (.ref oa), .val (.ref xa), .val (.int (0 : Int32)), .unset] [(.int (0 : Int32)), (.int (0 : Int32))])
  refine Go.of (fun t k => XS.iloadN X3.here hx rfl (hb hby own_d8_16) rfl  k) ?_
  show Go p e below Φ T3 (mkF m 17 #[.val (.ref oa), .val (.ref xa), .val (.int (0 : Int32)), .unset] [(.int (0 : Int32)), (.int (0 : Int32)), (.int (0 : Int32))])
  refine Go.of (fun t k => XS.isub X3.here hx rfl (hb hby own_d8_17) rfl k) ?_
  show Go p e below Φ T3 (mkF m 18 #[.val (.ref oa), .val (.ref xa), .val (.int (0 : Int32)), .unset] [(.int (0 : Int32)), (.int (0 : Int32))])
  refine Go.of (fun t k => XS.icmpYes X3.here hx rfl (pc0 := 18) (pc' := 67) rfl (hb hby own_d8_18) rfl (XT.ii_ge_t (by decide)) (by decide) (by decide) k) ?_
  show Go p e below Φ T3 (mkF m 67 #[.val (.ref oa), .val (.ref xa), .val (.int (0 : Int32)), .unset] [])
  refine Go.of (fun t k => XS.iloadN X3.here hx rfl (hb hby own_d8_67) rfl  k) ?_
  show Go p e below Φ T3 (mkF m 68 #[.val (.ref oa), .val (.ref xa), .val (.int (0 : Int32)), .unset] [(.int (0 : Int32))])
  refine Go.of (fun t k => XS.istoreN X3.here hx rfl (hb hby own_d8_68) rfl (l' := #[.val (.ref oa), .val (.ref xa), .val (.int (0 : Int32)), .val (.int (0 : Int32))]) rfl k) ?_
  show Go p e below Φ T3 (mkF m 69 #[.val (.ref oa), .val (.ref xa), .val (.int (0 : Int32)), .val (.int (0 : Int32))] [])
  refine Go.of (fun t k => XS.iloadN X3.here hx rfl (hb hby own_d8_69) rfl  k) ?_
  show Go p e below Φ T3 (mkF m 70 #[.val (.ref oa), .val (.ref xa), .val (.int (0 : Int32)), .val (.int (0 : Int32))] [(.int (0 : Int32))])
  refine Go.of (fun t k => XS.aloadN X3.here hx rfl (hb hby own_d8_70) rfl rfl  k) ?_
  show Go p e below Φ T3 (mkF m 71 #[.val (.ref oa), .val (.ref xa), .val (.int (0 : Int32)), .val (.int (0 : Int32))] [(.ref oa), (.int (0 : Int32))])
  obtain ⟨T4, X4, e4, st4⟩ := getF X3 hx hZ hown (host := "") (Or.inl (hw _ (List.mem_of_getElem? (i := 31) rfl))) Via.refl e3 F_oa_size (g := (mkF m 71 #[.val (.ref oa), .val (.ref xa), .val (.int (0 : Int32)), .val (.int (0 : Int32))] [(.ref oa), (.int (0 : Int32))])) rfl rfl (hb hby own_d8_71)
  refine Go.of st4 ?_
  show Go p e below Φ T4 (mkF m 74 #[.val (.ref oa), .val (.ref xa), .val (.int (0 : Int32)), .val (.int (0 : Int32))] [(.int (1 : Int32)), (.int (0 : Int32))])
  refine Go.of (fun t k => XS.iconst X4.here hx rfl (hb hby own_d8_74) k) ?_
  show Go p e below Φ T4 (mkF m 75 #[.val (.ref oa), .val (.ref xa), .val (.int (0 : Int32)), .val (.int (0 : Int32))] [(.int (1 : Int32)), (.int (1 : Int32)), (.int (0 : Int32))])
  refine Go.of (fun t k => XS.isub X4.here hx rfl (hb hby own_d8_75) rfl k) ?_
  show Go p e below Φ T4 (mkF m 76 #[.val (.ref oa), .val (.ref xa), .val (.int (0 : Int32)), .val (.int (0 : Int32))] [(.int (0 : Int32)), (.int (0 : Int32))])
  refine Go.of (fun t k => XS.icmpYes X4.here hx rfl (pc0 := 76) (pc' := 97) rfl (hb hby own_d8_76) rfl (XT.ii_ge_t (by decide)) (by decide) (by decide) k) ?_
  show Go p e below Φ T4 (mkF m 97 #[.val (.ref oa), .val (.ref xa), .val (.int (0 : Int32)), .val (.int (0 : Int32))] [])
  refine Go.of (fun t k => XS.aloadN X4.here hx rfl (hb hby own_d8_97) rfl rfl  k) ?_
  show Go p e below Φ T4 (mkF m 98 #[.val (.ref oa), .val (.ref xa), .val (.int (0 : Int32)), .val (.int (0 : Int32))] [(.ref oa)])
  refine Go.of (fun t k => XS.aloadN X4.here hx rfl (hb hby own_d8_98) rfl rfl  k) ?_
  show Go p e below Φ T4 (mkF m 99 #[.val (.ref oa), .val (.ref xa), .val (.int (0 : Int32)), .val (.int (0 : Int32))] [(.ref oa), (.ref oa)])
  obtain ⟨T5, X5, e5, st5⟩ := getF X4 hx hZ hown (host := "") (Or.inl (hw _ (List.mem_of_getElem? (i := 31) rfl))) Via.refl e4 F_oa_size (g := (mkF m 99 #[.val (.ref oa), .val (.ref xa), .val (.int (0 : Int32)), .val (.int (0 : Int32))] [(.ref oa), (.ref oa)])) rfl rfl (hb hby own_d8_99)
  refine Go.of st5 ?_
  show Go p e below Φ T5 (mkF m 102 #[.val (.ref oa), .val (.ref xa), .val (.int (0 : Int32)), .val (.int (0 : Int32))] [(.int (1 : Int32)), (.ref oa)])
  refine Go.of (fun t k => XS.iconst X5.here hx rfl (hb hby own_d8_102) k) ?_
  show Go p e below Φ T5 (mkF m 103 #[.val (.ref oa), .val (.ref xa), .val (.int (0 : Int32)), .val (.int (0 : Int32))] [(.int (1 : Int32)), (.int (1 : Int32)), (.ref oa)])
  refine Go.of (fun t k => XS.isub X5.here hx rfl (hb hby own_d8_103) rfl k) ?_
  show Go p e below Φ T5 (mkF m 104 #[.val (.ref oa), .val (.ref xa), .val (.int (0 : Int32)), .val (.int (0 : Int32))] [(.int (0 : Int32)), (.ref oa)])
  refine Go.of (fun t k => XS.aconstNull X5.here hx rfl (hb hby own_d8_104) k) ?_
  show Go p e below Φ T5 (mkF m 105 #[.val (.ref oa), .val (.ref xa), .val (.int (0 : Int32)), .val (.int (0 : Int32))] [.null, (.int (0 : Int32)), (.ref oa)])
  obtain ⟨cq6, q6, q6'⟩ := E_oa.cell
  obtain ⟨_, _, ⟨T6, L6, k6, n6⟩, -, X6, ⟨Lc6, hQ6, l6, y6, z6⟩, st6⟩ := X5.privateBack hx (y := (⟨"com/example/demarq/demarq/broker/SortedMessages", "set", "(ILcom/example/demarq/demarq/broker/Message;)V"⟩ : MethodName)) hown (mvT hZ (hw _ (List.mem_of_getElem? (i := 38) rfl))) (mvT hZ (hw _ (List.mem_of_getElem? (i := 39) rfl))) (own_privSel (z := (⟨"com/example/demarq/demarq/broker/SortedMessages", "isEmpty", "()Z"⟩ : MethodName)) (y := (⟨"com/example/demarq/demarq/broker/SortedMessages", "set", "(ILcom/example/demarq/demarq/broker/Message;)V"⟩ : MethodName)) hZ (hw _ (List.mem_of_getElem? (i := 29) rfl)) rfl (hw _ (List.mem_of_getElem? (i := 39) rfl)) (hw _ (List.mem_of_getElem? (i := 40) rfl)) (by decide)) (Cond.privateMethod_at (mvP hZ (hw _ (List.mem_of_getElem? (i := 40) rfl)) (args := #[]))) (mvT hZ (hw _ (List.mem_of_getElem? (i := 41) rfl))) (by decide) (backOf (W := 0) (rm6n l Z a0 hw [] oa (0 : Int32) ra kr hs hdx T2.heap n0 Z2 F_oa_head F_oa_ring V_ra E_oa hin0 g_ra ne_oa_ra) hZ (hw _ (List.mem_of_getElem? (i := 41) rfl)) (hw _ (List.mem_of_getElem? (i := 2) rfl)) (by decide) (by decide)) (g := (mkF m 105 #[.val (.ref oa), .val (.ref xa), .val (.int (0 : Int32)), .val (.int (0 : Int32))] [.null, (.int (0 : Int32)), (.ref oa)])) rfl (by rw [hml]; rfl) (Steps.refl _) (a := oa) (by rw [e5]; exact q6) q6' (argsL := [(.int (0 : Int32)), .null]) (rest := []) (lenOf own_pd5 rfl) rfl (by show 2 * 0 + _ ≤ _; exact Nat.le_of_eq rfl) (hb hby own_d8_105) (fun _ _ => ⟨rfl, e5, (by decide : 1 + 0 ≤ _), (by decide : 2 + 0 ≤ _)⟩)
  dsimp only [Pt.U, Pt.locs, Pt.cells, Pt.slots] at X6 l6 y6 z6 st6 hQ6
  subst l6 y6 z6
  obtain ⟨rfl, N6q, K6q, c6_0⟩ := hQ6
  have N6 := Fr.app N2 N6q
  obtain ⟨lc6, X6, N6⟩ : ∃ lc, Stand p l e ({ frames := 6, cells := 1, slots := 2, locals := 3090 } : Room) s m #[(.ref oa), (.ref xa)] below meth c T6 lc 1 2 ∧ Fr n0 lc := ⟨_, X6, N6⟩
  have F_oa_head := F_oa_head.keep K6q (ninS ne_oa_ra nin0)
  have F_oa_ring := F_oa_ring.keep K6q (ninS ne_oa_ra nin0)
  have E_oa := E_oa.keep K6q
  have F_oa_size := F_oa_size.keep K6q (ninS ne_oa_ra nin0)
  have E_xa := E_xa.keep K6q
  have F_xa_position := F_xa_position.keep K6q (ninS ne_xa_ra nin0)
  have V_ra : Arh Z T6.heap ra kr (.object "com/example/demarq/demarq/broker/Message") (16 : Int32) ((((hdx + (0 : Int32)) % (16 : Int32)), .null) :: hs) [] .null := c6_0
  have K6 := K2.trans K6q (allS (Or.inl (List.mem_of_getElem? (i := 1) rfl)) all0)
  have Z6 := Nat.le_trans Z2 K6q.1
  refine Go.tr st6 ?_
  show Go p e below Φ T6 (mkF m 108 #[.val (.ref oa), .val (.ref xa), .val (.int (0 : Int32)), .val (.int (0 : Int32))] [])
  refine Go.of (fun t k => XS.aloadN X6.here hx rfl (hb hby own_d8_108) rfl rfl  k) ?_
  show Go p e below Φ T6 (mkF m 109 #[.val (.ref oa), .val (.ref xa), .val (.int (0 : Int32)), .val (.int (0 : Int32))] [(.ref oa)])
  refine Go.of (fun t k => XS.dup X6.here hx rfl (hb hby own_d8_109) rfl rfl k) ?_
  show Go p e below Φ T6 (mkF m 110 #[.val (.ref oa), .val (.ref xa), .val (.int (0 : Int32)), .val (.int (0 : Int32))] [(.ref oa), (.ref oa)])
  obtain ⟨T7, X7, e7, st7⟩ := getF X6 hx hZ hown (host := "") (Or.inl (hw _ (List.mem_of_getElem? (i := 31) rfl))) Via.refl rfl F_oa_size (g := (mkF m 110 #[.val (.ref oa), .val (.ref xa), .val (.int (0 : Int32)), .val (.int (0 : Int32))] [(.ref oa), (.ref oa)])) rfl rfl (hb hby own_d8_110)
  refine Go.of st7 ?_
  show Go p e below Φ T7 (mkF m 113 #[.val (.ref oa), .val (.ref xa), .val (.int (0 : Int32)), .val (.int (0 : Int32))] [(.int (1 : Int32)), (.ref oa)])
  refine Go.of (fun t k => XS.iconst X7.here hx rfl (hb hby own_d8_113) k) ?_
  show Go p e below Φ T7 (mkF m 114 #[.val (.ref oa), .val (.ref xa), .val (.int (0 : Int32)), .val (.int (0 : Int32))] [(.int (1 : Int32)), (.int (1 : Int32)), (.ref oa)])
  refine Go.of (fun t k => XS.isub X7.here hx rfl (hb hby own_d8_114) rfl k) ?_
  show Go p e below Φ T7 (mkF m 115 #[.val (.ref oa), .val (.ref xa), .val (.int (0 : Int32)), .val (.int (0 : Int32))] [(.int (0 : Int32)), (.ref oa)])
  obtain ⟨T8, h8, X8, e8, W8, st8⟩ := putF X7 hx hZ hown (host := "") (Or.inl (hw _ (List.mem_of_getElem? (i := 31) rfl))) Via.refl e7 F_oa_size E_oa (Or.inl (hw _ (List.mem_of_getElem? (i := 32) rfl))) (hw _ (List.mem_of_getElem? (i := 1) rfl)) (ty := .int) (by decide) rfl rfl (g := (mkF m 115 #[.val (.ref oa), .val (.ref xa), .val (.int (0 : Int32)), .val (.int (0 : Int32))] [(.int (0 : Int32)), (.ref oa)])) rfl rfl (hb hby own_d8_115)
  have N8 := Fr.snoc X8 N6 g_oa
  have F_oa_size := F_oa_size.same W8
  have F_oa_head := F_oa_head.other W8 (Or.inr (slot_ne (Or.inl (hw _ (List.mem_of_getElem? (i := 47) rfl))) (Or.inl (hw _ (List.mem_of_getElem? (i := 32) rfl))) (by decide) (t := .int) (t' := .int) (by decide) (by decide)))
  have F_oa_ring := F_oa_ring.other W8 (Or.inr (slot_ne (Or.inl (hw _ (List.mem_of_getElem? (i := 12) rfl))) (Or.inl (hw _ (List.mem_of_getElem? (i := 32) rfl))) (by decide) (t := (.array (.object "com/example/demarq/demarq/broker/Message"))) (t' := .int) (by decide) (by decide)))
  have V_ra := V_ra.other W8 (Ne.symm ne_oa_ra)
  have E_oa := E_oa.wr W8
  have E_xa := E_xa.wr W8
  have F_xa_position := F_xa_position.other W8 (Or.inl ne_xa_oa)
  have K8 : Keep h0 h8 [oa, ra] := K6.wr W8 (Or.inl (List.mem_of_getElem? (i := 0) rfl))
  have Z8 := Nat.le_trans Z6 (Keep.of_wr W8).1
  obtain ⟨lc8, X8, N8⟩ : ∃ lc, Stand p l e ({ frames := 6, cells := 1, slots := 2, locals := 3090 } : Room) s m #[(.ref oa), (.ref xa)] below meth c T8 lc 1 2 ∧ Fr n0 lc := ⟨_, X8, N8⟩
  refine Go.of st8 ?_
  show Go p e below Φ T8 (mkF m 118 #[.val (.ref oa), .val (.ref xa), .val (.int (0 : Int32)), .val (.int (0 : Int32))] [])
  refine Go.of (fun t k => XS.aloadN X8.here hx rfl (hb hby own_d8_118) rfl rfl  k) ?_
  show Go p e below Φ T8 (mkF m 119 #[.val (.ref oa), .val (.ref xa), .val (.int (0 : Int32)), .val (.int (0 : Int32))] [(.ref oa)])
  obtain ⟨T9, X9, e9, st9⟩ := getF X8 hx hZ hown (host := "") (Or.inl (hw _ (List.mem_of_getElem? (i := 11) rfl))) Via.refl e8 F_oa_ring (g := (mkF m 119 #[.val (.ref oa), .val (.ref xa), .val (.int (0 : Int32)), .val (.int (0 : Int32))] [(.ref oa)])) rfl rfl (hb hby own_d8_119)
  refine Go.of st9 ?_
  show Go p e below Φ T9 (mkF m 122 #[.val (.ref oa), .val (.ref xa), .val (.int (0 : Int32)), .val (.int (0 : Int32))] [(.ref ra)])
  obtain ⟨cl122, Ar122, q122, S122, N122, H122, G122⟩ := id V_ra
  refine Go.of (fun t k => X9.arraylength hx (own_at_ e9 Ar122.1) (State.isArrayOf_alike hZ.alike Ar122.2.1) (g := (mkF m 122 #[.val (.ref oa), .val (.ref xa), .val (.int (0 : Int32)), .val (.int (0 : Int32))] [(.ref ra)])) rfl rfl (hb hby own_d8_122) t k) ?_
  rw [len_of S122 N122]
  show Go p e below Φ T9 (mkF m 123 #[.val (.ref oa), .val (.ref xa), .val (.int (0 : Int32)), .val (.int (0 : Int32))] [(.int (16 : Int32))])
  refine Go.of (fun t k => XS.bipush X9.here hx rfl (hb hby own_d8_123) k) ?_
  show Go p e below Φ T9 (mkF m 125 #[.val (.ref oa), .val (.ref xa), .val (.int (0 : Int32)), .val (.int (0 : Int32))] [(.int (16 : Int32)), (.int (16 : Int32))])
  refine Go.of (fun t k => XS.icmpYes X9.here hx rfl (pc0 := 125) (pc' := 153) rfl (hb hby own_d8_125) rfl (XT.ii_le_t (by decide)) (by decide) (by decide) k) ?_
  show Go p e below Φ T9 (mkF m 153 #[.val (.ref oa), .val (.ref xa), .val (.int (0 : Int32)), .val (.int (0 : Int32))] [])
  rw [hΦ]
  refine Go.retV X9 hx Bd.notSynchronized Bd.returns (hb hby own_d8_153) (by decide) (by decide) ?_
  rw [e9]
  exact ⟨rfl, N8, K8, F_oa_size⟩
theorem own_ef8x (m : MethodId) (oa : Addr) (xa : Addr) : entryFrame m #[(.ref oa), (.ref xa)] 4 = mkF m 0 #[.val (.ref oa), .val (.ref xa), .unset, .unset] [] := by first | (simp [entryFrame, mkF, argsToLocals, Value.category]; done) | rfl
def Q8x (Z : State) (oa : Addr) (xa : Addr) (ra : Addr) (kr : ClassId) (hs : List (Int32 × Value)) (hdx : Int32) (px : Int64) (h0 : Heap) (n0 : Nat) (vr : Option Value) (hr : Heap) (Lr : List Loc) : Prop := vr = none ∧ Fr n0 Lr ∧ Keep h0 hr [oa, ra] ∧ Fld Z hr oa "com/example/demarq/demarq/broker/SortedMessages" "size" "I" (.int (1 : Int32)) ∧ Fld Z hr oa "com/example/demarq/demarq/broker/SortedMessages" "head" "I" (.int ((hdx + (1 : Int32)) % (16 : Int32))) ∧ Fld Z hr oa "com/example/demarq/demarq/broker/SortedMessages" "ring" "[Lcom/example/demarq/demarq/broker/Message;" (.ref ra) ∧ Arh Z hr ra kr (.object "com/example/demarq/demarq/broker/Message") (16 : Int32) ((hdx, .null) :: hs) [] .null
set_option maxRecDepth 65536 in
set_option maxHeartbeats 40000000 in
theorem rm8x (l : Launch) (Z : State) (a0 : Array Value) (hw : ∀ d ∈ tables_1, d.before a0 Z = true) (ws : List Jvm.Cond) (oa : Addr) (xa : Addr) (ra : Addr) (kr : ClassId) (hs : List (Int32 × Value)) (hdx : Int32) (px : Int64) (h0 : Heap) (n0 : Nat) (Z0 : n0 ≤ h0.size) (F_oa_head : Fld Z h0 oa "com/example/demarq/demarq/broker/SortedMessages" "head" "I" (.int hdx)) (F_oa_ring : Fld Z h0 oa "com/example/demarq/demarq/broker/SortedMessages" "ring" "[Lcom/example/demarq/demarq/broker/Message;" (.ref ra)) (V_ra : Arh Z h0 ra kr (.object "com/example/demarq/demarq/broker/Message") (16 : Int32) hs [] .null) (E_oa : Exa Z h0 oa "com/example/demarq/demarq/broker/SortedMessages") (g_oa : n0 ≤ oa) (g_ra : n0 ≤ ra) (ne_oa_ra : oa ≠ ra) (F_oa_size : Fld Z h0 oa "com/example/demarq/demarq/broker/SortedMessages" "size" "I" (.int (2 : Int32))) (hin0 : ¬ ((hdx + (0 : Int32)) % (16 : Int32)) < 0 ∧ ((hdx + (0 : Int32)) % (16 : Int32)) < (16 : Int32)) (hat0 : getH hs [] .null (((hdx + (0 : Int32)) % (16 : Int32))).toNatClampNeg = .ref xa) (E_xa : Exa Z h0 xa "com/example/demarq/demarq/broker/Message") (F_xa_position : Fld Z h0 xa "com/example/demarq/demarq/broker/Message" "position" "J" (.long px)) (hinh : ¬ hdx < 0 ∧ hdx < (16 : Int32)) (ne_xa_oa : xa ≠ oa) (ne_xa_ra : xa ≠ ra) :
    MetFree l (⟨"com/example/demarq/demarq/broker/SortedMessages", "remove", "(Lcom/example/demarq/demarq/broker/Message;)V"⟩ : MethodName) (head1 (Jvm.Cond.code (⟨"com/example/demarq/demarq/broker/SortedMessages", "remove", "(Lcom/example/demarq/demarq/broker/Message;)V"⟩ : MethodName) prog_12_method_4_code 4 none :: ws) ({ frames := 6, cells := 1, slots := 2, locals := 3090 } : Room)) (fun aQ UQ => aQ = #[(.ref oa), (.ref xa)] ∧ Z.Warmed39 UQ.vm ∧ UQ.heap = h0) (fun _ _ _ _ _ => True) (fun _ UQ oQ VQ => ∃ vQ LQ, oQ = .returned vQ ∧ Q8x Z oa xa ra kr hs hdx px h0 n0 vQ VQ.heap LQ ∧ FrameEnd UQ oQ VQ LQ ({ frames := 6, cells := 1, slots := 2, locals := 3090 } : Room).cells ({ frames := 6, cells := 1, slots := 2, locals := 3090 } : Room).slots) := by
  refine MetFree.of_bodySF (plainFor_of_name own_pn0) hisR ?_
  intro p e s m args below meth c s₁ Bd hml0 hP hK
  obtain ⟨rfl, hZ, hh⟩ := hP
  have hx := Bd.exec
  have hby := Bd.bytes
  have hml : c.maxLocals = 4 := hml0
  have hown : s.vm.findClass "com/example/demarq/demarq/broker/SortedMessages" = some m.cls := findClass_of_methodNamed Bd.named
  have hnm := (name_of_methodNamed Bd.named Bd.method).1
  have X0 : Stand p l e ({ frames := 6, cells := 1, slots := 2, locals := 3090 } : Room) s m #[(.ref oa), (.ref xa)] below meth c s₁ [] 0 0 := Stand.of_body Bd
  have e0 : s₁.heap = h0 := by rw [← hh, Bd.state]; rfl
  have N0 := Fr.nil n0
  show Go p e below (EndQ s below (Q8x Z oa xa ra kr hs hdx px h0 n0) ({ frames := 6, cells := 1, slots := 2, locals := 3090 } : Room).cells ({ frames := 6, cells := 1, slots := 2, locals := 3090 } : Room).slots) s₁ (entryFrame m #[(.ref oa), (.ref xa)] 4)
  obtain ⟨Φ, hΦ⟩ : ∃ Φ, Φ = EndQ s below (Q8x Z oa xa ra kr hs hdx px h0 n0) ({ frames := 6, cells := 1, slots := 2, locals := 3090 } : Room).cells ({ frames := 6, cells := 1, slots := 2, locals := 3090 } : Room).slots := ⟨_, rfl⟩
  rw [← hΦ, own_ef8x]
  show Go p e below Φ s₁ (mkF m 0 #[.val (.ref oa), .val (.ref xa), .unset, .unset] [])
  refine Go.of (fun t k => XS.aloadN X0.here hx rfl (hb hby own_d8_0) rfl rfl  k) ?_
  show Go p e below Φ s₁ (mkF m 1 #[.val (.ref oa), .val (.ref xa), .unset, .unset] [(.ref oa)])
  refine Go.of (fun t k => XS.aloadN X0.here hx rfl (hb hby own_d8_1) rfl rfl  k) ?_
  show Go p e below Φ s₁ (mkF m 2 #[.val (.ref oa), .val (.ref xa), .unset, .unset] [(.ref xa), (.ref oa)])
  obtain ⟨cq1, kq1, q1a, q1b, q1c⟩ := isOf hZ e0 E_xa
  obtain ⟨_, _, ⟨T1, L1, k1, n1⟩, -, X1, ⟨Lc1, hQ1, l1, y1, z1⟩, st1⟩ := X0.virtualBack hx (y := (⟨"com/example/demarq/demarq/broker/Message", "position", "()J"⟩ : MethodName)) (z := (⟨"com/example/demarq/demarq/broker/Message", "position", "()J"⟩ : MethodName)) hown (mvT hZ (hw _ (List.mem_of_getElem? (i := 54) rfl))) (mvT hZ (hw _ (List.mem_of_getElem? (i := 55) rfl))) (notFace_of_selects (args := #[]) (mvT hZ (hw _ (List.mem_of_getElem? (i := 57) rfl)))) (mvT hZ (hw _ (List.mem_of_getElem? (i := 57) rfl))) (mvT hZ (hw _ (List.mem_of_getElem? (i := 56) rfl))) (by decide) (backOf (W := 1) (rm9 l Z a0 hw [] xa px h0 n0 Z0 F_xa_position) hZ (hw _ (List.mem_of_getElem? (i := 58) rfl)) (hw _ (List.mem_of_getElem? (i := 15) rfl)) (by decide) (by decide)) q1a q1c (g := (mkF m 2 #[.val (.ref oa), .val (.ref xa), .unset, .unset] [(.ref xa), (.ref oa)])) rfl (by rw [hml]; rfl) (Steps.refl _) (argsL := []) (rest := [(.ref oa)]) (lenOf own_pd2 rfl) rfl (by show 2 * 0 + _ ≤ _; exact Nat.le_of_eq rfl) (hb hby own_d8_2) (fun _ _ => ⟨rfl, e0, (by decide : 0 + 0 ≤ _), (by decide : 0 + 0 ≤ _)⟩)
  dsimp only [Pt.U, Pt.locs, Pt.cells, Pt.slots] at X1 l1 y1 z1 st1 hQ1
  subst l1 y1 z1
  obtain ⟨rfl, N1q, e1q⟩ := hQ1
  have N1 := Fr.app N0 N1q
  obtain ⟨lc1, X1, N1⟩ : ∃ lc, Stand p l e ({ frames := 6, cells := 1, slots := 2, locals := 3090 } : Room) s m #[(.ref oa), (.ref xa)] below meth c T1 lc 0 0 ∧ Fr n0 lc := ⟨_, X1, N1⟩
  refine Go.tr st1 ?_
  show Go p e below Φ T1 (mkF m 5 #[.val (.ref oa), .val (.ref xa), .unset, .unset] [(.long px), (.ref oa)])
  obtain ⟨cq2, q2, q2'⟩ := E_oa.cell
  obtain ⟨_, _, ⟨T2, L2, k2, n2⟩, -, X2, ⟨Lc2, hQ2, l2, y2, z2⟩, st2⟩ := X1.privateBack hx (y := (⟨"com/example/demarq/demarq/broker/SortedMessages", "countBelow", "(J)I"⟩ : MethodName)) hown (mvT hZ (hw _ (List.mem_of_getElem? (i := 59) rfl))) (mvT hZ (hw _ (List.mem_of_getElem? (i := 60) rfl))) (own_privSel (z := (⟨"com/example/demarq/demarq/broker/SortedMessages", "isEmpty", "()Z"⟩ : MethodName)) (y := (⟨"com/example/demarq/demarq/broker/SortedMessages", "countBelow", "(J)I"⟩ : MethodName)) hZ (hw _ (List.mem_of_getElem? (i := 29) rfl)) rfl (hw _ (List.mem_of_getElem? (i := 60) rfl)) (hw _ (List.mem_of_getElem? (i := 61) rfl)) (by decide)) (Cond.privateMethod_at (mvP hZ (hw _ (List.mem_of_getElem? (i := 61) rfl)) (args := #[]))) (mvT hZ (hw _ (List.mem_of_getElem? (i := 62) rfl))) (by decide) (backOf (W := 0) (rm10z l Z a0 hw [] oa px ra kr hs xa hdx (2 : Int32) px h0 n0 Z0 F_oa_head F_oa_ring V_ra F_oa_size E_oa hin0 hat0 E_xa F_xa_position (own_irr px) (by decide)) hZ (hw _ (List.mem_of_getElem? (i := 62) rfl)) (hw _ (List.mem_of_getElem? (i := 2) rfl)) (by decide) (by decide)) (g := (mkF m 5 #[.val (.ref oa), .val (.ref xa), .unset, .unset] [(.long px), (.ref oa)])) rfl (by rw [hml]; rfl) (Steps.refl _) (a := oa) (by rw [(e1q)]; exact q2) q2' (argsL := [(.long px)]) (rest := []) (lenOf own_pd6 rfl) rfl (by show 2 * 0 + _ ≤ _; exact Nat.le_of_eq rfl) (hb hby own_d8_5) (fun _ _ => ⟨rfl, (e1q), (by decide : 0 + 1 ≤ _), (by decide : 0 + 2 ≤ _)⟩)
  dsimp only [Pt.U, Pt.locs, Pt.cells, Pt.slots] at X2 l2 y2 z2 st2 hQ2
  subst l2 y2 z2
  obtain ⟨rfl, N2q, K2q⟩ := hQ2
  have N2 := Fr.app N1 N2q
  obtain ⟨lc2, X2, N2⟩ : ∃ lc, Stand p l e ({ frames := 6, cells := 1, slots := 2, locals := 3090 } : Room) s m #[(.ref oa), (.ref xa)] below meth c T2 lc 1 2 ∧ Fr n0 lc := ⟨_, X2, N2⟩
  have F_oa_head := F_oa_head.keep K2q nin0
  have F_oa_ring := F_oa_ring.keep K2q nin0
  have V_ra := V_ra.keep K2q nin0
  have E_oa := E_oa.keep K2q
  have F_oa_size := F_oa_size.keep K2q nin0
  have E_xa := E_xa.keep K2q
  have F_xa_position := F_xa_position.keep K2q nin0
  have K2 := (Keep.refl h0 [oa, ra]).trans K2q all0
  have Z2 := Nat.le_trans Z0 K2q.1
  refine Go.tr st2 ?_
  show Go p e below Φ T2 (mkF m 8 #[.val (.ref oa), .val (.ref xa), .unset, .unset] [(.int (0 : Int32))])
  refine Go.of (fun t k => XS.istoreN X2.here hx rfl (hb hby own_d8_8) rfl (l' := #[.val (.ref oa), .val (.ref xa), .val (.int (0 : Int32)), .unset]) rfl k) ?_
  show Go p e below Φ T2 (mkF m 9 #[.val (.ref oa), .val (.ref xa), .val (.int (0 : Int32)), .unset] [])
  refine Go.of (fun t k => XS.iloadN X2.here hx rfl (hb hby own_d8_9) rfl  k) ?_
  show Go p e below Φ T2 (mkF m 10 #[.val (.ref oa), .val (.ref xa), .val (.int (0 : Int32)), .unset] [(.int (0 : Int32))])
  refine Go.of (fun t k => XS.aloadN X2.here hx rfl (hb hby own_d8_10) rfl rfl  k) ?_
  show Go p e below Φ T2 (mkF m 11 #[.val (.ref oa), .val (.ref xa), .val (.int (0 : Int32)), .unset] [(.ref oa), (.int (0 : Int32))])
  obtain ⟨T3, X3, e3, st3⟩ := getF X2 hx hZ hown (host := "") (Or.inl (hw _ (List.mem_of_getElem? (i := 31) rfl))) Via.refl rfl F_oa_size (g := (mkF m 11 #[.val (.ref oa), .val (.ref xa), .val (.int (0 : Int32)), .unset] [(.ref oa), (.int (0 : Int32))])) rfl rfl (hb hby own_d8_11)
  refine Go.of st3 ?_
  show Go p e below Φ T3 (mkF m 14 #[.val (.ref oa), .val (.ref xa), .val (.int (0 : Int32)), .unset] [(.int (2 : Int32)), (.int (0 : Int32))])
  refine Go.of (fun t k => XS.iconst X3.here hx rfl (hb hby own_d8_14) k) ?_
  show Go p e below Φ T3 (mkF m 15 #[.val (.ref oa), .val (.ref xa), .val (.int (0 : Int32)), .unset] [(.int (1 : Int32)), (.int (2 : Int32)), (.int (0 : Int32))])
  refine Go.of (fun t k => XS.isub X3.here hx rfl (hb hby own_d8_15) rfl k) ?_
  show Go p e below Φ T3 (mkF m 16 #[.val (.ref oa), .val (.ref xa), .val (.int (0 : Int32)), .unset] [(.int (1 : Int32)), (.int (0 : Int32))])
  refine Go.of (fun t k => XS.iloadN X3.here hx rfl (hb hby own_d8_16) rfl  k) ?_
  show Go p e below Φ T3 (mkF m 17 #[.val (.ref oa), .val (.ref xa), .val (.int (0 : Int32)), .unset] [(.int (0 : Int32)), (.int (1 : Int32)), (.int (0 : Int32))])
  refine Go.of (fun t k => XS.isub X3.here hx rfl (hb hby own_d8_17) rfl k) ?_
  show Go p e below Φ T3 (mkF m 18 #[.val (.ref oa), .val (.ref xa), .val (.int (0 : Int32)), .unset] [(.int (1 : Int32)), (.int (0 : Int32))])
  refine Go.of (fun t k => XS.icmpNo X3.here hx rfl (hb hby own_d8_18) rfl (XT.ii_ge_f (by decide)) k) ?_
  show Go p e below Φ T3 (mkF m 21 #[.val (.ref oa), .val (.ref xa), .val (.int (0 : Int32)), .unset] [])
  refine Go.of (fun t k => XS.iloadN X3.here hx rfl (hb hby own_d8_21) rfl  k) ?_
  show Go p e below Φ T3 (mkF m 22 #[.val (.ref oa), .val (.ref xa), .val (.int (0 : Int32)), .unset] [(.int (0 : Int32))])
  refine Go.of (fun t k => XS.istoreN X3.here hx rfl (hb hby own_d8_22) rfl (l' := #[.val (.ref oa), .val (.ref xa), .val (.int (0 : Int32)), .val (.int (0 : Int32))]) rfl k) ?_
  show Go p e below Φ T3 (mkF m 23 #[.val (.ref oa), .val (.ref xa), .val (.int (0 : Int32)), .val (.int (0 : Int32))] [])
  refine Go.of (fun t k => XS.iloadN X3.here hx rfl (hb hby own_d8_23) rfl  k) ?_
  show Go p e below Φ T3 (mkF m 24 #[.val (.ref oa), .val (.ref xa), .val (.int (0 : Int32)), .val (.int (0 : Int32))] [(.int (0 : Int32))])
  refine Go.of (fun t k => XS.ifYes X3.here hx rfl (pc0 := 24) (pc' := 45) rfl (hb hby own_d8_24) rfl (XT.i0_le_t (by decide)) (by decide) (by decide) k) ?_
  show Go p e below Φ T3 (mkF m 45 #[.val (.ref oa), .val (.ref xa), .val (.int (0 : Int32)), .val (.int (0 : Int32))] [])
  refine Go.of (fun t k => XS.aloadN X3.here hx rfl (hb hby own_d8_45) rfl rfl  k) ?_
  show Go p e below Φ T3 (mkF m 46 #[.val (.ref oa), .val (.ref xa), .val (.int (0 : Int32)), .val (.int (0 : Int32))] [(.ref oa)])
  obtain ⟨T4, X4, e4, st4⟩ := getF X3 hx hZ hown (host := "") (Or.inl (hw _ (List.mem_of_getElem? (i := 11) rfl))) Via.refl e3 F_oa_ring (g := (mkF m 46 #[.val (.ref oa), .val (.ref xa), .val (.int (0 : Int32)), .val (.int (0 : Int32))] [(.ref oa)])) rfl rfl (hb hby own_d8_46)
  refine Go.of st4 ?_
  show Go p e below Φ T4 (mkF m 49 #[.val (.ref oa), .val (.ref xa), .val (.int (0 : Int32)), .val (.int (0 : Int32))] [(.ref ra)])
  refine Go.of (fun t k => XS.aloadN X4.here hx rfl (hb hby own_d8_49) rfl rfl  k) ?_
  show Go p e below Φ T4 (mkF m 50 #[.val (.ref oa), .val (.ref xa), .val (.int (0 : Int32)), .val (.int (0 : Int32))] [(.ref oa), (.ref ra)])
  obtain ⟨T5, X5, e5, st5⟩ := getF X4 hx hZ hown (host := "") (Or.inl (hw _ (List.mem_of_getElem? (i := 46) rfl))) Via.refl e4 F_oa_head (g := (mkF m 50 #[.val (.ref oa), .val (.ref xa), .val (.int (0 : Int32)), .val (.int (0 : Int32))] [(.ref oa), (.ref ra)])) rfl rfl (hb hby own_d8_50)
  refine Go.of st5 ?_
  show Go p e below Φ T5 (mkF m 53 #[.val (.ref oa), .val (.ref xa), .val (.int (0 : Int32)), .val (.int (0 : Int32))] [(.int hdx), (.ref ra)])
  refine Go.of (fun t k => XS.aconstNull X5.here hx rfl (hb hby own_d8_53) k) ?_
  show Go p e below Φ T5 (mkF m 54 #[.val (.ref oa), .val (.ref xa), .val (.int (0 : Int32)), .val (.int (0 : Int32))] [.null, (.int hdx), (.ref ra)])
  obtain ⟨cl54, Ar54, q54, S54, N54, H54, G54⟩ := id V_ra
  have hin54 : ¬ (hdx < 0 ∨ cl54.slots.size ≤ (hdx).toNatClampNeg) := inb_of S54 hinh
  obtain ⟨T6, h6, X6, e6, W6, st6⟩ := stR X5 hx hZ e5 Ar54 (j := hdx) hin54 rfl (Or.inl rfl) (g := (mkF m 54 #[.val (.ref oa), .val (.ref xa), .val (.int (0 : Int32)), .val (.int (0 : Int32))] [.null, (.int hdx), (.ref ra)])) rfl rfl (hb hby own_d8_54)
  have V_ra : Arh Z h6 ra kr (.object "com/example/demarq/demarq/broker/Message") (16 : Int32) ((hdx, .null) :: hs) [] .null := Arh.push Ar54 q54 S54 N54 H54 G54 rfl W6 hin54
  have F_oa_head := F_oa_head.other W6 (Or.inl ne_oa_ra)
  have F_oa_ring := F_oa_ring.other W6 (Or.inl ne_oa_ra)
  have E_oa := E_oa.wr W6
  have F_oa_size := F_oa_size.other W6 (Or.inl ne_oa_ra)
  have E_xa := E_xa.wr W6
  have F_xa_position := F_xa_position.other W6 (Or.inl ne_xa_ra)
  have N6 := Fr.snoc X6 N2 g_ra
  have K6 : Keep h0 h6 [oa, ra] := K2.wr W6 (Or.inl (List.mem_of_getElem? (i := 1) rfl))
  have Z6 := Nat.le_trans Z2 (Keep.of_wr W6).1
  obtain ⟨lc6, X6, N6⟩ : ∃ lc, Stand p l e ({ frames := 6, cells := 1, slots := 2, locals := 3090 } : Room) s m #[(.ref oa), (.ref xa)] below meth c T6 lc 1 2 ∧ Fr n0 lc := ⟨_, X6, N6⟩
  refine Go.of st6 ?_
  show Go p e below Φ T6 (mkF m 55 #[.val (.ref oa), .val (.ref xa), .val (.int (0 : Int32)), .val (.int (0 : Int32))] [])
  refine Go.of (fun t k => XS.aloadN X6.here hx rfl (hb hby own_d8_55) rfl rfl  k) ?_
  show Go p e below Φ T6 (mkF m 56 #[.val (.ref oa), .val (.ref xa), .val (.int (0 : Int32)), .val (.int (0 : Int32))] [(.ref oa)])
  refine Go.of (fun t k => XS.aloadN X6.here hx rfl (hb hby own_d8_56) rfl rfl  k) ?_
  show Go p e below Φ T6 (mkF m 57 #[.val (.ref oa), .val (.ref xa), .val (.int (0 : Int32)), .val (.int (0 : Int32))] [(.ref oa), (.ref oa)])
  refine Go.of (fun t k => XS.iconst X6.here hx rfl (hb hby own_d8_57) k) ?_
  show Go p e below Φ T6 (mkF m 58 #[.val (.ref oa), .val (.ref xa), .val (.int (0 : Int32)), .val (.int (0 : Int32))] [(.int (1 : Int32)), (.ref oa), (.ref oa)])
  obtain ⟨cq7, q7, q7'⟩ := E_oa.cell
  obtain ⟨_, _, ⟨T7, L7, k7, n7⟩, -, X7, ⟨Lc7, hQ7, l7, y7, z7⟩, st7⟩ := X6.privateBack hx (y := (⟨"com/example/demarq/demarq/broker/SortedMessages", "slot", "(I)I"⟩ : MethodName)) hown (mvT hZ (hw _ (List.mem_of_getElem? (i := 42) rfl))) (mvT hZ (hw _ (List.mem_of_getElem? (i := 43) rfl))) (own_privSel (z := (⟨"com/example/demarq/demarq/broker/SortedMessages", "isEmpty", "()Z"⟩ : MethodName)) (y := (⟨"com/example/demarq/demarq/broker/SortedMessages", "slot", "(I)I"⟩ : MethodName)) hZ (hw _ (List.mem_of_getElem? (i := 29) rfl)) rfl (hw _ (List.mem_of_getElem? (i := 43) rfl)) (hw _ (List.mem_of_getElem? (i := 44) rfl)) (by decide)) (Cond.privateMethod_at (mvP hZ (hw _ (List.mem_of_getElem? (i := 44) rfl)) (args := #[]))) (mvT hZ (hw _ (List.mem_of_getElem? (i := 45) rfl))) (by decide) (backOf (W := 1) (rm7 l Z a0 hw [] oa (1 : Int32) ra kr ((hdx, .null) :: hs) hdx h6 n0 Z6 F_oa_head F_oa_ring V_ra) hZ (hw _ (List.mem_of_getElem? (i := 45) rfl)) (hw _ (List.mem_of_getElem? (i := 2) rfl)) (by decide) (by decide)) (g := (mkF m 58 #[.val (.ref oa), .val (.ref xa), .val (.int (0 : Int32)), .val (.int (0 : Int32))] [(.int (1 : Int32)), (.ref oa), (.ref oa)])) rfl (by rw [hml]; rfl) (Steps.refl _) (a := oa) (by rw [e6]; exact q7) q7' (argsL := [(.int (1 : Int32))]) (rest := [(.ref oa)]) (lenOf own_pd0 rfl) rfl (by show 2 * 0 + _ ≤ _; exact Nat.le_of_eq rfl) (hb hby own_d8_58) (fun _ _ => ⟨rfl, e6, (by decide : 1 + 0 ≤ _), (by decide : 2 + 0 ≤ _)⟩)
  dsimp only [Pt.U, Pt.locs, Pt.cells, Pt.slots] at X7 l7 y7 z7 st7 hQ7
  subst l7 y7 z7
  obtain ⟨rfl, N7q, e7q⟩ := hQ7
  have N7 := Fr.app N6 N7q
  obtain ⟨lc7, X7, N7⟩ : ∃ lc, Stand p l e ({ frames := 6, cells := 1, slots := 2, locals := 3090 } : Room) s m #[(.ref oa), (.ref xa)] below meth c T7 lc 1 2 ∧ Fr n0 lc := ⟨_, X7, N7⟩
  refine Go.tr st7 ?_
  show Go p e below Φ T7 (mkF m 61 #[.val (.ref oa), .val (.ref xa), .val (.int (0 : Int32)), .val (.int (0 : Int32))] [(.int ((hdx + (1 : Int32)) % (16 : Int32))), (.ref oa)])
  obtain ⟨T8, h8, X8, e8, W8, st8⟩ := putF X7 hx hZ hown (host := "") (Or.inl (hw _ (List.mem_of_getElem? (i := 46) rfl))) Via.refl (e7q) F_oa_head E_oa (Or.inl (hw _ (List.mem_of_getElem? (i := 47) rfl))) (hw _ (List.mem_of_getElem? (i := 1) rfl)) (ty := .int) (by decide) rfl rfl (g := (mkF m 61 #[.val (.ref oa), .val (.ref xa), .val (.int (0 : Int32)), .val (.int (0 : Int32))] [(.int ((hdx + (1 : Int32)) % (16 : Int32))), (.ref oa)])) rfl rfl (hb hby own_d8_61)
  have N8 := Fr.snoc X8 N7 g_oa
  have F_oa_head := F_oa_head.same W8
  have F_oa_ring := F_oa_ring.other W8 (Or.inr (slot_ne (Or.inl (hw _ (List.mem_of_getElem? (i := 12) rfl))) (Or.inl (hw _ (List.mem_of_getElem? (i := 47) rfl))) (by decide) (t := (.array (.object "com/example/demarq/demarq/broker/Message"))) (t' := .int) (by decide) (by decide)))
  have V_ra := V_ra.other W8 (Ne.symm ne_oa_ra)
  have E_oa := E_oa.wr W8
  have F_oa_size := F_oa_size.other W8 (Or.inr (slot_ne (Or.inl (hw _ (List.mem_of_getElem? (i := 32) rfl))) (Or.inl (hw _ (List.mem_of_getElem? (i := 47) rfl))) (by decide) (t := .int) (t' := .int) (by decide) (by decide)))
  have E_xa := E_xa.wr W8
  have F_xa_position := F_xa_position.other W8 (Or.inl ne_xa_oa)
  have K8 : Keep h0 h8 [oa, ra] := K6.wr W8 (Or.inl (List.mem_of_getElem? (i := 0) rfl))
  have Z8 := Nat.le_trans Z6 (Keep.of_wr W8).1
  obtain ⟨lc8, X8, N8⟩ : ∃ lc, Stand p l e ({ frames := 6, cells := 1, slots := 2, locals := 3090 } : Room) s m #[(.ref oa), (.ref xa)] below meth c T8 lc 1 2 ∧ Fr n0 lc := ⟨_, X8, N8⟩
  refine Go.of st8 ?_
  show Go p e below Φ T8 (mkF m 64 #[.val (.ref oa), .val (.ref xa), .val (.int (0 : Int32)), .val (.int (0 : Int32))] [])
  refine Go.of (fun t k => XS.goto X8.here hx rfl (pc0 := 64) (pc' := 108) rfl (hb hby own_d8_64) (by decide) (by decide) k) ?_
  show Go p e below Φ T8 (mkF m 108 #[.val (.ref oa), .val (.ref xa), .val (.int (0 : Int32)), .val (.int (0 : Int32))] [])
  refine Go.of (fun t k => XS.aloadN X8.here hx rfl (hb hby own_d8_108) rfl rfl  k) ?_
  show Go p e below Φ T8 (mkF m 109 #[.val (.ref oa), .val (.ref xa), .val (.int (0 : Int32)), .val (.int (0 : Int32))] [(.ref oa)])
  refine Go.of (fun t k => XS.dup X8.here hx rfl (hb hby own_d8_109) rfl rfl k) ?_
  show Go p e below Φ T8 (mkF m 110 #[.val (.ref oa), .val (.ref xa), .val (.int (0 : Int32)), .val (.int (0 : Int32))] [(.ref oa), (.ref oa)])
  obtain ⟨T9, X9, e9, st9⟩ := getF X8 hx hZ hown (host := "") (Or.inl (hw _ (List.mem_of_getElem? (i := 31) rfl))) Via.refl e8 F_oa_size (g := (mkF m 110 #[.val (.ref oa), .val (.ref xa), .val (.int (0 : Int32)), .val (.int (0 : Int32))] [(.ref oa), (.ref oa)])) rfl rfl (hb hby own_d8_110)
  refine Go.of st9 ?_
  show Go p e below Φ T9 (mkF m 113 #[.val (.ref oa), .val (.ref xa), .val (.int (0 : Int32)), .val (.int (0 : Int32))] [(.int (2 : Int32)), (.ref oa)])
  refine Go.of (fun t k => XS.iconst X9.here hx rfl (hb hby own_d8_113) k) ?_
  show Go p e below Φ T9 (mkF m 114 #[.val (.ref oa), .val (.ref xa), .val (.int (0 : Int32)), .val (.int (0 : Int32))] [(.int (1 : Int32)), (.int (2 : Int32)), (.ref oa)])
  refine Go.of (fun t k => XS.isub X9.here hx rfl (hb hby own_d8_114) rfl k) ?_
  show Go p e below Φ T9 (mkF m 115 #[.val (.ref oa), .val (.ref xa), .val (.int (0 : Int32)), .val (.int (0 : Int32))] [(.int (1 : Int32)), (.ref oa)])
  obtain ⟨T10, h10, X10, e10, W10, st10⟩ := putF X9 hx hZ hown (host := "") (Or.inl (hw _ (List.mem_of_getElem? (i := 31) rfl))) Via.refl e9 F_oa_size E_oa (Or.inl (hw _ (List.mem_of_getElem? (i := 32) rfl))) (hw _ (List.mem_of_getElem? (i := 1) rfl)) (ty := .int) (by decide) rfl rfl (g := (mkF m 115 #[.val (.ref oa), .val (.ref xa), .val (.int (0 : Int32)), .val (.int (0 : Int32))] [(.int (1 : Int32)), (.ref oa)])) rfl rfl (hb hby own_d8_115)
  have N10 := Fr.snoc X10 N8 g_oa
  have F_oa_size := F_oa_size.same W10
  have F_oa_head := F_oa_head.other W10 (Or.inr (slot_ne (Or.inl (hw _ (List.mem_of_getElem? (i := 47) rfl))) (Or.inl (hw _ (List.mem_of_getElem? (i := 32) rfl))) (by decide) (t := .int) (t' := .int) (by decide) (by decide)))
  have F_oa_ring := F_oa_ring.other W10 (Or.inr (slot_ne (Or.inl (hw _ (List.mem_of_getElem? (i := 12) rfl))) (Or.inl (hw _ (List.mem_of_getElem? (i := 32) rfl))) (by decide) (t := (.array (.object "com/example/demarq/demarq/broker/Message"))) (t' := .int) (by decide) (by decide)))
  have V_ra := V_ra.other W10 (Ne.symm ne_oa_ra)
  have E_oa := E_oa.wr W10
  have E_xa := E_xa.wr W10
  have F_xa_position := F_xa_position.other W10 (Or.inl ne_xa_oa)
  have K10 : Keep h0 h10 [oa, ra] := K8.wr W10 (Or.inl (List.mem_of_getElem? (i := 0) rfl))
  have Z10 := Nat.le_trans Z8 (Keep.of_wr W10).1
  obtain ⟨lc10, X10, N10⟩ : ∃ lc, Stand p l e ({ frames := 6, cells := 1, slots := 2, locals := 3090 } : Room) s m #[(.ref oa), (.ref xa)] below meth c T10 lc 1 2 ∧ Fr n0 lc := ⟨_, X10, N10⟩
  refine Go.of st10 ?_
  show Go p e below Φ T10 (mkF m 118 #[.val (.ref oa), .val (.ref xa), .val (.int (0 : Int32)), .val (.int (0 : Int32))] [])
  refine Go.of (fun t k => XS.aloadN X10.here hx rfl (hb hby own_d8_118) rfl rfl  k) ?_
  show Go p e below Φ T10 (mkF m 119 #[.val (.ref oa), .val (.ref xa), .val (.int (0 : Int32)), .val (.int (0 : Int32))] [(.ref oa)])
  obtain ⟨T11, X11, e11, st11⟩ := getF X10 hx hZ hown (host := "") (Or.inl (hw _ (List.mem_of_getElem? (i := 11) rfl))) Via.refl e10 F_oa_ring (g := (mkF m 119 #[.val (.ref oa), .val (.ref xa), .val (.int (0 : Int32)), .val (.int (0 : Int32))] [(.ref oa)])) rfl rfl (hb hby own_d8_119)
  refine Go.of st11 ?_
  show Go p e below Φ T11 (mkF m 122 #[.val (.ref oa), .val (.ref xa), .val (.int (0 : Int32)), .val (.int (0 : Int32))] [(.ref ra)])
  obtain ⟨cl122, Ar122, q122, S122, N122, H122, G122⟩ := id V_ra
  refine Go.of (fun t k => X11.arraylength hx (own_at_ e11 Ar122.1) (State.isArrayOf_alike hZ.alike Ar122.2.1) (g := (mkF m 122 #[.val (.ref oa), .val (.ref xa), .val (.int (0 : Int32)), .val (.int (0 : Int32))] [(.ref ra)])) rfl rfl (hb hby own_d8_122) t k) ?_
  rw [len_of S122 N122]
  show Go p e below Φ T11 (mkF m 123 #[.val (.ref oa), .val (.ref xa), .val (.int (0 : Int32)), .val (.int (0 : Int32))] [(.int (16 : Int32))])
  refine Go.of (fun t k => XS.bipush X11.here hx rfl (hb hby own_d8_123) k) ?_
  show Go p e below Φ T11 (mkF m 125 #[.val (.ref oa), .val (.ref xa), .val (.int (0 : Int32)), .val (.int (0 : Int32))] [(.int (16 : Int32)), (.int (16 : Int32))])
  refine Go.of (fun t k => XS.icmpYes X11.here hx rfl (pc0 := 125) (pc' := 153) rfl (hb hby own_d8_125) rfl (XT.ii_le_t (by decide)) (by decide) (by decide) k) ?_
  show Go p e below Φ T11 (mkF m 153 #[.val (.ref oa), .val (.ref xa), .val (.int (0 : Int32)), .val (.int (0 : Int32))] [])
  rw [hΦ]
  refine Go.retV X11 hx Bd.notSynchronized Bd.returns (hb hby own_d8_153) (by decide) (by decide) ?_
  rw [e11]
  exact ⟨rfl, N10, K10, F_oa_size, F_oa_head, F_oa_ring, V_ra⟩
theorem own_ef8y (m : MethodId) (oa : Addr) (ya : Addr) : entryFrame m #[(.ref oa), (.ref ya)] 4 = mkF m 0 #[.val (.ref oa), .val (.ref ya), .unset, .unset] [] := by first | (simp [entryFrame, mkF, argsToLocals, Value.category]; done) | rfl
def Q8y (Z : State) (oa : Addr) (ya : Addr) (ra : Addr) (kr : ClassId) (hs : List (Int32 × Value)) (xa : Addr) (hdx : Int32) (px : Int64) (py : Int64) (h0 : Heap) (n0 : Nat) (vr : Option Value) (hr : Heap) (Lr : List Loc) : Prop := vr = none ∧ Fr n0 Lr ∧ Keep h0 hr [oa, ra] ∧ Fld Z hr oa "com/example/demarq/demarq/broker/SortedMessages" "size" "I" (.int (1 : Int32)) ∧ Fld Z hr oa "com/example/demarq/demarq/broker/SortedMessages" "head" "I" (.int hdx) ∧ Fld Z hr oa "com/example/demarq/demarq/broker/SortedMessages" "ring" "[Lcom/example/demarq/demarq/broker/Message;" (.ref ra) ∧ Arh Z hr ra kr (.object "com/example/demarq/demarq/broker/Message") (16 : Int32) ((((hdx + (1 : Int32)) % (16 : Int32)), .null) :: hs) [] .null
set_option maxRecDepth 65536 in
set_option maxHeartbeats 40000000 in
theorem rm8y (l : Launch) (Z : State) (a0 : Array Value) (hw : ∀ d ∈ tables_1, d.before a0 Z = true) (ws : List Jvm.Cond) (oa : Addr) (ya : Addr) (ra : Addr) (kr : ClassId) (hs : List (Int32 × Value)) (xa : Addr) (hdx : Int32) (px : Int64) (py : Int64) (h0 : Heap) (n0 : Nat) (Z0 : n0 ≤ h0.size) (F_oa_head : Fld Z h0 oa "com/example/demarq/demarq/broker/SortedMessages" "head" "I" (.int hdx)) (F_oa_ring : Fld Z h0 oa "com/example/demarq/demarq/broker/SortedMessages" "ring" "[Lcom/example/demarq/demarq/broker/Message;" (.ref ra)) (V_ra : Arh Z h0 ra kr (.object "com/example/demarq/demarq/broker/Message") (16 : Int32) hs [] .null) (E_oa : Exa Z h0 oa "com/example/demarq/demarq/broker/SortedMessages") (g_oa : n0 ≤ oa) (g_ra : n0 ≤ ra) (ne_oa_ra : oa ≠ ra) (F_oa_size : Fld Z h0 oa "com/example/demarq/demarq/broker/SortedMessages" "size" "I" (.int (2 : Int32))) (hin0 : ¬ ((hdx + (0 : Int32)) % (16 : Int32)) < 0 ∧ ((hdx + (0 : Int32)) % (16 : Int32)) < (16 : Int32)) (hat0 : getH hs [] .null (((hdx + (0 : Int32)) % (16 : Int32))).toNatClampNeg = .ref xa) (E_xa : Exa Z h0 xa "com/example/demarq/demarq/broker/Message") (F_xa_position : Fld Z h0 xa "com/example/demarq/demarq/broker/Message" "position" "J" (.long px)) (hin1 : ¬ ((hdx + (1 : Int32)) % (16 : Int32)) < 0 ∧ ((hdx + (1 : Int32)) % (16 : Int32)) < (16 : Int32)) (hat1 : getH hs [] .null (((hdx + (1 : Int32)) % (16 : Int32))).toNatClampNeg = .ref ya) (E_ya : Exa Z h0 ya "com/example/demarq/demarq/broker/Message") (F_ya_position : Fld Z h0 ya "com/example/demarq/demarq/broker/Message" "position" "J" (.long py)) (hlt : px < py) (ne_xa_oa : xa ≠ oa) (ne_xa_ra : xa ≠ ra) (ne_ya_oa : ya ≠ oa) (ne_ya_ra : ya ≠ ra) :
    MetFree l (⟨"com/example/demarq/demarq/broker/SortedMessages", "remove", "(Lcom/example/demarq/demarq/broker/Message;)V"⟩ : MethodName) (head1 (Jvm.Cond.code (⟨"com/example/demarq/demarq/broker/SortedMessages", "remove", "(Lcom/example/demarq/demarq/broker/Message;)V"⟩ : MethodName) prog_12_method_4_code 4 none :: ws) ({ frames := 6, cells := 1, slots := 2, locals := 3090 } : Room)) (fun aQ UQ => aQ = #[(.ref oa), (.ref ya)] ∧ Z.Warmed39 UQ.vm ∧ UQ.heap = h0) (fun _ _ _ _ _ => True) (fun _ UQ oQ VQ => ∃ vQ LQ, oQ = .returned vQ ∧ Q8y Z oa ya ra kr hs xa hdx px py h0 n0 vQ VQ.heap LQ ∧ FrameEnd UQ oQ VQ LQ ({ frames := 6, cells := 1, slots := 2, locals := 3090 } : Room).cells ({ frames := 6, cells := 1, slots := 2, locals := 3090 } : Room).slots) := by
  refine MetFree.of_bodySF (plainFor_of_name own_pn0) hisR ?_
  intro p e s m args below meth c s₁ Bd hml0 hP hK
  obtain ⟨rfl, hZ, hh⟩ := hP
  have hx := Bd.exec
  have hby := Bd.bytes
  have hml : c.maxLocals = 4 := hml0
  have hown : s.vm.findClass "com/example/demarq/demarq/broker/SortedMessages" = some m.cls := findClass_of_methodNamed Bd.named
  have hnm := (name_of_methodNamed Bd.named Bd.method).1
  have X0 : Stand p l e ({ frames := 6, cells := 1, slots := 2, locals := 3090 } : Room) s m #[(.ref oa), (.ref ya)] below meth c s₁ [] 0 0 := Stand.of_body Bd
  have e0 : s₁.heap = h0 := by rw [← hh, Bd.state]; rfl
  have N0 := Fr.nil n0
  show Go p e below (EndQ s below (Q8y Z oa ya ra kr hs xa hdx px py h0 n0) ({ frames := 6, cells := 1, slots := 2, locals := 3090 } : Room).cells ({ frames := 6, cells := 1, slots := 2, locals := 3090 } : Room).slots) s₁ (entryFrame m #[(.ref oa), (.ref ya)] 4)
  obtain ⟨Φ, hΦ⟩ : ∃ Φ, Φ = EndQ s below (Q8y Z oa ya ra kr hs xa hdx px py h0 n0) ({ frames := 6, cells := 1, slots := 2, locals := 3090 } : Room).cells ({ frames := 6, cells := 1, slots := 2, locals := 3090 } : Room).slots := ⟨_, rfl⟩
  rw [← hΦ, own_ef8y]
  show Go p e below Φ s₁ (mkF m 0 #[.val (.ref oa), .val (.ref ya), .unset, .unset] [])
  refine Go.of (fun t k => XS.aloadN X0.here hx rfl (hb hby own_d8_0) rfl rfl  k) ?_
  show Go p e below Φ s₁ (mkF m 1 #[.val (.ref oa), .val (.ref ya), .unset, .unset] [(.ref oa)])
  refine Go.of (fun t k => XS.aloadN X0.here hx rfl (hb hby own_d8_1) rfl rfl  k) ?_
  show Go p e below Φ s₁ (mkF m 2 #[.val (.ref oa), .val (.ref ya), .unset, .unset] [(.ref ya), (.ref oa)])
  obtain ⟨cq1, kq1, q1a, q1b, q1c⟩ := isOf hZ e0 E_ya
  obtain ⟨_, _, ⟨T1, L1, k1, n1⟩, -, X1, ⟨Lc1, hQ1, l1, y1, z1⟩, st1⟩ := X0.virtualBack hx (y := (⟨"com/example/demarq/demarq/broker/Message", "position", "()J"⟩ : MethodName)) (z := (⟨"com/example/demarq/demarq/broker/Message", "position", "()J"⟩ : MethodName)) hown (mvT hZ (hw _ (List.mem_of_getElem? (i := 54) rfl))) (mvT hZ (hw _ (List.mem_of_getElem? (i := 55) rfl))) (notFace_of_selects (args := #[]) (mvT hZ (hw _ (List.mem_of_getElem? (i := 57) rfl)))) (mvT hZ (hw _ (List.mem_of_getElem? (i := 57) rfl))) (mvT hZ (hw _ (List.mem_of_getElem? (i := 56) rfl))) (by decide) (backOf (W := 1) (rm9 l Z a0 hw [] ya py h0 n0 Z0 F_ya_position) hZ (hw _ (List.mem_of_getElem? (i := 58) rfl)) (hw _ (List.mem_of_getElem? (i := 15) rfl)) (by decide) (by decide)) q1a q1c (g := (mkF m 2 #[.val (.ref oa), .val (.ref ya), .unset, .unset] [(.ref ya), (.ref oa)])) rfl (by rw [hml]; rfl) (Steps.refl _) (argsL := []) (rest := [(.ref oa)]) (lenOf own_pd2 rfl) rfl (by show 2 * 0 + _ ≤ _; exact Nat.le_of_eq rfl) (hb hby own_d8_2) (fun _ _ => ⟨rfl, e0, (by decide : 0 + 0 ≤ _), (by decide : 0 + 0 ≤ _)⟩)
  dsimp only [Pt.U, Pt.locs, Pt.cells, Pt.slots] at X1 l1 y1 z1 st1 hQ1
  subst l1 y1 z1
  obtain ⟨rfl, N1q, e1q⟩ := hQ1
  have N1 := Fr.app N0 N1q
  obtain ⟨lc1, X1, N1⟩ : ∃ lc, Stand p l e ({ frames := 6, cells := 1, slots := 2, locals := 3090 } : Room) s m #[(.ref oa), (.ref ya)] below meth c T1 lc 0 0 ∧ Fr n0 lc := ⟨_, X1, N1⟩
  refine Go.tr st1 ?_
  show Go p e below Φ T1 (mkF m 5 #[.val (.ref oa), .val (.ref ya), .unset, .unset] [(.long py), (.ref oa)])
  obtain ⟨cq2, q2, q2'⟩ := E_oa.cell
  obtain ⟨_, _, ⟨T2, L2, k2, n2⟩, -, X2, ⟨Lc2, hQ2, l2, y2, z2⟩, st2⟩ := X1.privateBack hx (y := (⟨"com/example/demarq/demarq/broker/SortedMessages", "countBelow", "(J)I"⟩ : MethodName)) hown (mvT hZ (hw _ (List.mem_of_getElem? (i := 59) rfl))) (mvT hZ (hw _ (List.mem_of_getElem? (i := 60) rfl))) (own_privSel (z := (⟨"com/example/demarq/demarq/broker/SortedMessages", "isEmpty", "()Z"⟩ : MethodName)) (y := (⟨"com/example/demarq/demarq/broker/SortedMessages", "countBelow", "(J)I"⟩ : MethodName)) hZ (hw _ (List.mem_of_getElem? (i := 29) rfl)) rfl (hw _ (List.mem_of_getElem? (i := 60) rfl)) (hw _ (List.mem_of_getElem? (i := 61) rfl)) (by decide)) (Cond.privateMethod_at (mvP hZ (hw _ (List.mem_of_getElem? (i := 61) rfl)) (args := #[]))) (mvT hZ (hw _ (List.mem_of_getElem? (i := 62) rfl))) (by decide) (backOf (W := 0) (rm10o l Z a0 hw [] oa py ra kr hs xa ya hdx px py h0 n0 Z0 F_oa_head F_oa_ring V_ra F_oa_size E_oa hin0 hat0 E_xa F_xa_position hin1 hat1 E_ya F_ya_position hlt (own_irr py)) hZ (hw _ (List.mem_of_getElem? (i := 62) rfl)) (hw _ (List.mem_of_getElem? (i := 2) rfl)) (by decide) (by decide)) (g := (mkF m 5 #[.val (.ref oa), .val (.ref ya), .unset, .unset] [(.long py), (.ref oa)])) rfl (by rw [hml]; rfl) (Steps.refl _) (a := oa) (by rw [(e1q)]; exact q2) q2' (argsL := [(.long py)]) (rest := []) (lenOf own_pd6 rfl) rfl (by show 2 * 0 + _ ≤ _; exact Nat.le_of_eq rfl) (hb hby own_d8_5) (fun _ _ => ⟨rfl, (e1q), (by decide : 0 + 1 ≤ _), (by decide : 0 + 2 ≤ _)⟩)
  dsimp only [Pt.U, Pt.locs, Pt.cells, Pt.slots] at X2 l2 y2 z2 st2 hQ2
  subst l2 y2 z2
  obtain ⟨rfl, N2q, K2q⟩ := hQ2
  have N2 := Fr.app N1 N2q
  obtain ⟨lc2, X2, N2⟩ : ∃ lc, Stand p l e ({ frames := 6, cells := 1, slots := 2, locals := 3090 } : Room) s m #[(.ref oa), (.ref ya)] below meth c T2 lc 1 2 ∧ Fr n0 lc := ⟨_, X2, N2⟩
  have F_oa_head := F_oa_head.keep K2q nin0
  have F_oa_ring := F_oa_ring.keep K2q nin0
  have V_ra := V_ra.keep K2q nin0
  have E_oa := E_oa.keep K2q
  have F_oa_size := F_oa_size.keep K2q nin0
  have E_xa := E_xa.keep K2q
  have F_xa_position := F_xa_position.keep K2q nin0
  have E_ya := E_ya.keep K2q
  have F_ya_position := F_ya_position.keep K2q nin0
  have K2 := (Keep.refl h0 [oa, ra]).trans K2q all0
  have Z2 := Nat.le_trans Z0 K2q.1
  refine Go.tr st2 ?_
  show Go p e below Φ T2 (mkF m 8 #[.val (.ref oa), .val (.ref ya), .unset, .unset] [(.int (1 : Int32))])
  refine Go.of (fun t k => XS.istoreN X2.here hx rfl (hb hby own_d8_8) rfl (l' := #[.val (.ref oa), .val (.ref ya), .val (.int (1 : Int32)), .unset]) rfl k) ?_
  show Go p e below Φ T2 (mkF m 9 #[.val (.ref oa), .val (.ref ya), .val (.int (1 : Int32)), .unset] [])
  refine Go.of (fun t k => XS.iloadN X2.here hx rfl (hb hby own_d8_9) rfl  k) ?_
  show Go p e below Φ T2 (mkF m 10 #[.val (.ref oa), .val (.ref ya), .val (.int (1 : Int32)), .unset] [(.int (1 : Int32))])
  refine Go.of (fun t k => XS.aloadN X2.here hx rfl (hb hby own_d8_10) rfl rfl  k) ?_
  show Go p e below Φ T2 (mkF m 11 #[.val (.ref oa), .val (.ref ya), .val (.int (1 : Int32)), .unset] [(.ref oa), (.int (1 : Int32))])
  obtain ⟨T3, X3, e3, st3⟩ := getF X2 hx hZ hown (host := "") (Or.inl (hw _ (List.mem_of_getElem? (i := 31) rfl))) Via.refl rfl F_oa_size (g := (mkF m 11 #[.val (.ref oa), .val (.ref ya), .val (.int (1 : Int32)), .unset] [(.ref oa), (.int (1 : Int32))])) rfl rfl (hb hby own_d8_11)
  refine Go.of st3 ?_
  show Go p e below Φ T3 (mkF m 14 #[.val (.ref oa), .val (.ref ya), .val (.int (1 : Int32)), .unset] [(.int (2 : Int32)), (.int (1 : Int32))])
  refine Go.of (fun t k => XS.iconst X3.here hx rfl (hb hby own_d8_14) k) ?_
  show Go p e below Φ T3 (mkF m 15 #[.val (.ref oa), .val (.ref ya), .val (.int (1 : Int32)), .unset] [(.int (1 : Int32)), (.int (2 : Int32)), (.int (1 : Int32))])
  refine Go.of (fun t k => XS.isub X3.here hx rfl (hb hby own_d8_15) rfl k) ?_
  show Go p e below Φ T3 (mkF m 16 #[.val (.ref oa), .val (.ref ya), .val (.int (1 : Int32)), .unset] [(.int (1 : Int32)), (.int (1 : Int32))])
  refine Go.of (fun t k => XS.iloadN X3.here hx rfl (hb hby own_d8_16) rfl  k) ?_
  show Go p e below Φ T3 (mkF m 17 #[.val (.ref oa), .val (.ref ya), .val (.int (1 : Int32)), .unset] [(.int (1 : Int32)), (.int (1 : Int32)), (.int (1 : Int32))])
  refine Go.of (fun t k => XS.isub X3.here hx rfl (hb hby own_d8_17) rfl k) ?_
  show Go p e below Φ T3 (mkF m 18 #[.val (.ref oa), .val (.ref ya), .val (.int (1 : Int32)), .unset] [(.int (0 : Int32)), (.int (1 : Int32))])
  refine Go.of (fun t k => XS.icmpYes X3.here hx rfl (pc0 := 18) (pc' := 67) rfl (hb hby own_d8_18) rfl (XT.ii_ge_t (by decide)) (by decide) (by decide) k) ?_
  show Go p e below Φ T3 (mkF m 67 #[.val (.ref oa), .val (.ref ya), .val (.int (1 : Int32)), .unset] [])
  refine Go.of (fun t k => XS.iloadN X3.here hx rfl (hb hby own_d8_67) rfl  k) ?_
  show Go p e below Φ T3 (mkF m 68 #[.val (.ref oa), .val (.ref ya), .val (.int (1 : Int32)), .unset] [(.int (1 : Int32))])
  refine Go.of (fun t k => XS.istoreN X3.here hx rfl (hb hby own_d8_68) rfl (l' := #[.val (.ref oa), .val (.ref ya), .val (.int (1 : Int32)), .val (.int (1 : Int32))]) rfl k) ?_
  show Go p e below Φ T3 (mkF m 69 #[.val (.ref oa), .val (.ref ya), .val (.int (1 : Int32)), .val (.int (1 : Int32))] [])
  refine Go.of (fun t k => XS.iloadN X3.here hx rfl (hb hby own_d8_69) rfl  k) ?_
  show Go p e below Φ T3 (mkF m 70 #[.val (.ref oa), .val (.ref ya), .val (.int (1 : Int32)), .val (.int (1 : Int32))] [(.int (1 : Int32))])
  refine Go.of (fun t k => XS.aloadN X3.here hx rfl (hb hby own_d8_70) rfl rfl  k) ?_
  show Go p e below Φ T3 (mkF m 71 #[.val (.ref oa), .val (.ref ya), .val (.int (1 : Int32)), .val (.int (1 : Int32))] [(.ref oa), (.int (1 : Int32))])
  obtain ⟨T4, X4, e4, st4⟩ := getF X3 hx hZ hown (host := "") (Or.inl (hw _ (List.mem_of_getElem? (i := 31) rfl))) Via.refl e3 F_oa_size (g := (mkF m 71 #[.val (.ref oa), .val (.ref ya), .val (.int (1 : Int32)), .val (.int (1 : Int32))] [(.ref oa), (.int (1 : Int32))])) rfl rfl (hb hby own_d8_71)
  refine Go.of st4 ?_
  show Go p e below Φ T4 (mkF m 74 #[.val (.ref oa), .val (.ref ya), .val (.int (1 : Int32)), .val (.int (1 : Int32))] [(.int (2 : Int32)), (.int (1 : Int32))])
  refine Go.of (fun t k => XS.iconst X4.here hx rfl (hb hby own_d8_74) k) ?_
  show Go p e below Φ T4 (mkF m 75 #[.val (.ref oa), .val (.ref ya), .val (.int (1 : Int32)), .val (.int (1 : Int32))] [(.int (1 : Int32)), (.int (2 : Int32)), (.int (1 : Int32))])
  refine Go.of (fun t k => XS.isub X4.here hx rfl (hb hby own_d8_75) rfl k) ?_
  show Go p e below Φ T4 (mkF m 76 #[.val (.ref oa), .val (.ref ya), .val (.int (1 : Int32)), .val (.int (1 : Int32))] [(.int (1 : Int32)), (.int (1 : Int32))])
  refine Go.of (fun t k => XS.icmpYes X4.here hx rfl (pc0 := 76) (pc' := 97) rfl (hb hby own_d8_76) rfl (XT.ii_ge_t (by decide)) (by decide) (by decide) k) ?_
  show Go p e below Φ T4 (mkF m 97 #[.val (.ref oa), .val (.ref ya), .val (.int (1 : Int32)), .val (.int (1 : Int32))] [])
  refine Go.of (fun t k => XS.aloadN X4.here hx rfl (hb hby own_d8_97) rfl rfl  k) ?_
  show Go p e below Φ T4 (mkF m 98 #[.val (.ref oa), .val (.ref ya), .val (.int (1 : Int32)), .val (.int (1 : Int32))] [(.ref oa)])
  refine Go.of (fun t k => XS.aloadN X4.here hx rfl (hb hby own_d8_98) rfl rfl  k) ?_
  show Go p e below Φ T4 (mkF m 99 #[.val (.ref oa), .val (.ref ya), .val (.int (1 : Int32)), .val (.int (1 : Int32))] [(.ref oa), (.ref oa)])
  obtain ⟨T5, X5, e5, st5⟩ := getF X4 hx hZ hown (host := "") (Or.inl (hw _ (List.mem_of_getElem? (i := 31) rfl))) Via.refl e4 F_oa_size (g := (mkF m 99 #[.val (.ref oa), .val (.ref ya), .val (.int (1 : Int32)), .val (.int (1 : Int32))] [(.ref oa), (.ref oa)])) rfl rfl (hb hby own_d8_99)
  refine Go.of st5 ?_
  show Go p e below Φ T5 (mkF m 102 #[.val (.ref oa), .val (.ref ya), .val (.int (1 : Int32)), .val (.int (1 : Int32))] [(.int (2 : Int32)), (.ref oa)])
  refine Go.of (fun t k => XS.iconst X5.here hx rfl (hb hby own_d8_102) k) ?_
  show Go p e below Φ T5 (mkF m 103 #[.val (.ref oa), .val (.ref ya), .val (.int (1 : Int32)), .val (.int (1 : Int32))] [(.int (1 : Int32)), (.int (2 : Int32)), (.ref oa)])
  refine Go.of (fun t k => XS.isub X5.here hx rfl (hb hby own_d8_103) rfl k) ?_
  show Go p e below Φ T5 (mkF m 104 #[.val (.ref oa), .val (.ref ya), .val (.int (1 : Int32)), .val (.int (1 : Int32))] [(.int (1 : Int32)), (.ref oa)])
  refine Go.of (fun t k => XS.aconstNull X5.here hx rfl (hb hby own_d8_104) k) ?_
  show Go p e below Φ T5 (mkF m 105 #[.val (.ref oa), .val (.ref ya), .val (.int (1 : Int32)), .val (.int (1 : Int32))] [.null, (.int (1 : Int32)), (.ref oa)])
  obtain ⟨cq6, q6, q6'⟩ := E_oa.cell
  obtain ⟨_, _, ⟨T6, L6, k6, n6⟩, -, X6, ⟨Lc6, hQ6, l6, y6, z6⟩, st6⟩ := X5.privateBack hx (y := (⟨"com/example/demarq/demarq/broker/SortedMessages", "set", "(ILcom/example/demarq/demarq/broker/Message;)V"⟩ : MethodName)) hown (mvT hZ (hw _ (List.mem_of_getElem? (i := 38) rfl))) (mvT hZ (hw _ (List.mem_of_getElem? (i := 39) rfl))) (own_privSel (z := (⟨"com/example/demarq/demarq/broker/SortedMessages", "isEmpty", "()Z"⟩ : MethodName)) (y := (⟨"com/example/demarq/demarq/broker/SortedMessages", "set", "(ILcom/example/demarq/demarq/broker/Message;)V"⟩ : MethodName)) hZ (hw _ (List.mem_of_getElem? (i := 29) rfl)) rfl (hw _ (List.mem_of_getElem? (i := 39) rfl)) (hw _ (List.mem_of_getElem? (i := 40) rfl)) (by decide)) (Cond.privateMethod_at (mvP hZ (hw _ (List.mem_of_getElem? (i := 40) rfl)) (args := #[]))) (mvT hZ (hw _ (List.mem_of_getElem? (i := 41) rfl))) (by decide) (backOf (W := 0) (rm6n l Z a0 hw [] oa (1 : Int32) ra kr hs hdx T2.heap n0 Z2 F_oa_head F_oa_ring V_ra E_oa hin1 g_ra ne_oa_ra) hZ (hw _ (List.mem_of_getElem? (i := 41) rfl)) (hw _ (List.mem_of_getElem? (i := 2) rfl)) (by decide) (by decide)) (g := (mkF m 105 #[.val (.ref oa), .val (.ref ya), .val (.int (1 : Int32)), .val (.int (1 : Int32))] [.null, (.int (1 : Int32)), (.ref oa)])) rfl (by rw [hml]; rfl) (Steps.refl _) (a := oa) (by rw [e5]; exact q6) q6' (argsL := [(.int (1 : Int32)), .null]) (rest := []) (lenOf own_pd5 rfl) rfl (by show 2 * 0 + _ ≤ _; exact Nat.le_of_eq rfl) (hb hby own_d8_105) (fun _ _ => ⟨rfl, e5, (by decide : 1 + 0 ≤ _), (by decide : 2 + 0 ≤ _)⟩)
  dsimp only [Pt.U, Pt.locs, Pt.cells, Pt.slots] at X6 l6 y6 z6 st6 hQ6
  subst l6 y6 z6
  obtain ⟨rfl, N6q, K6q, c6_0⟩ := hQ6
  have N6 := Fr.app N2 N6q
  obtain ⟨lc6, X6, N6⟩ : ∃ lc, Stand p l e ({ frames := 6, cells := 1, slots := 2, locals := 3090 } : Room) s m #[(.ref oa), (.ref ya)] below meth c T6 lc 1 2 ∧ Fr n0 lc := ⟨_, X6, N6⟩
  have F_oa_head := F_oa_head.keep K6q (ninS ne_oa_ra nin0)
  have F_oa_ring := F_oa_ring.keep K6q (ninS ne_oa_ra nin0)
  have E_oa := E_oa.keep K6q
  have F_oa_size := F_oa_size.keep K6q (ninS ne_oa_ra nin0)
  have E_xa := E_xa.keep K6q
  have F_xa_position := F_xa_position.keep K6q (ninS ne_xa_ra nin0)
  have E_ya := E_ya.keep K6q
  have F_ya_position := F_ya_position.keep K6q (ninS ne_ya_ra nin0)
  have V_ra : Arh Z T6.heap ra kr (.object "com/example/demarq/demarq/broker/Message") (16 : Int32) ((((hdx + (1 : Int32)) % (16 : Int32)), .null) :: hs) [] .null := c6_0
  have K6 := K2.trans K6q (allS (Or.inl (List.mem_of_getElem? (i := 1) rfl)) all0)
  have Z6 := Nat.le_trans Z2 K6q.1
  refine Go.tr st6 ?_
  show Go p e below Φ T6 (mkF m 108 #[.val (.ref oa), .val (.ref ya), .val (.int (1 : Int32)), .val (.int (1 : Int32))] [])
  refine Go.of (fun t k => XS.aloadN X6.here hx rfl (hb hby own_d8_108) rfl rfl  k) ?_
  show Go p e below Φ T6 (mkF m 109 #[.val (.ref oa), .val (.ref ya), .val (.int (1 : Int32)), .val (.int (1 : Int32))] [(.ref oa)])
  refine Go.of (fun t k => XS.dup X6.here hx rfl (hb hby own_d8_109) rfl rfl k) ?_
  show Go p e below Φ T6 (mkF m 110 #[.val (.ref oa), .val (.ref ya), .val (.int (1 : Int32)), .val (.int (1 : Int32))] [(.ref oa), (.ref oa)])
  obtain ⟨T7, X7, e7, st7⟩ := getF X6 hx hZ hown (host := "") (Or.inl (hw _ (List.mem_of_getElem? (i := 31) rfl))) Via.refl rfl F_oa_size (g := (mkF m 110 #[.val (.ref oa), .val (.ref ya), .val (.int (1 : Int32)), .val (.int (1 : Int32))] [(.ref oa), (.ref oa)])) rfl rfl (hb hby own_d8_110)
  refine Go.of st7 ?_
  show Go p e below Φ T7 (mkF m 113 #[.val (.ref oa), .val (.ref ya), .val (.int (1 : Int32)), .val (.int (1 : Int32))] [(.int (2 : Int32)), (.ref oa)])
  refine Go.of (fun t k => XS.iconst X7.here hx rfl (hb hby own_d8_113) k) ?_
  show Go p e below Φ T7 (mkF m 114 #[.val (.ref oa), .val (.ref ya), .val (.int (1 : Int32)), .val (.int (1 : Int32))] [(.int (1 : Int32)), (.int (2 : Int32)), (.ref oa)])
  refine Go.of (fun t k => XS.isub X7.here hx rfl (hb hby own_d8_114) rfl k) ?_
  show Go p e below Φ T7 (mkF m 115 #[.val (.ref oa), .val (.ref ya), .val (.int (1 : Int32)), .val (.int (1 : Int32))] [(.int (1 : Int32)), (.ref oa)])
  obtain ⟨T8, h8, X8, e8, W8, st8⟩ := putF X7 hx hZ hown (host := "") (Or.inl (hw _ (List.mem_of_getElem? (i := 31) rfl))) Via.refl e7 F_oa_size E_oa (Or.inl (hw _ (List.mem_of_getElem? (i := 32) rfl))) (hw _ (List.mem_of_getElem? (i := 1) rfl)) (ty := .int) (by decide) rfl rfl (g := (mkF m 115 #[.val (.ref oa), .val (.ref ya), .val (.int (1 : Int32)), .val (.int (1 : Int32))] [(.int (1 : Int32)), (.ref oa)])) rfl rfl (hb hby own_d8_115)
  have N8 := Fr.snoc X8 N6 g_oa
  have F_oa_size := F_oa_size.same W8
  have F_oa_head := F_oa_head.other W8 (Or.inr (slot_ne (Or.inl (hw _ (List.mem_of_getElem? (i := 47) rfl))) (Or.inl (hw _ (List.mem_of_getElem? (i := 32) rfl))) (by decide) (t := .int) (t' := .int) (by decide) (by decide)))
  have F_oa_ring := F_oa_ring.other W8 (Or.inr (slot_ne (Or.inl (hw _ (List.mem_of_getElem? (i := 12) rfl))) (Or.inl (hw _ (List.mem_of_getElem? (i := 32) rfl))) (by decide) (t := (.array (.object "com/example/demarq/demarq/broker/Message"))) (t' := .int) (by decide) (by decide)))
  have V_ra := V_ra.other W8 (Ne.symm ne_oa_ra)
  have E_oa := E_oa.wr W8
  have E_xa := E_xa.wr W8
  have F_xa_position := F_xa_position.other W8 (Or.inl ne_xa_oa)
  have E_ya := E_ya.wr W8
  have F_ya_position := F_ya_position.other W8 (Or.inl ne_ya_oa)
  have K8 : Keep h0 h8 [oa, ra] := K6.wr W8 (Or.inl (List.mem_of_getElem? (i := 0) rfl))
  have Z8 := Nat.le_trans Z6 (Keep.of_wr W8).1
  obtain ⟨lc8, X8, N8⟩ : ∃ lc, Stand p l e ({ frames := 6, cells := 1, slots := 2, locals := 3090 } : Room) s m #[(.ref oa), (.ref ya)] below meth c T8 lc 1 2 ∧ Fr n0 lc := ⟨_, X8, N8⟩
  refine Go.of st8 ?_
  show Go p e below Φ T8 (mkF m 118 #[.val (.ref oa), .val (.ref ya), .val (.int (1 : Int32)), .val (.int (1 : Int32))] [])
  refine Go.of (fun t k => XS.aloadN X8.here hx rfl (hb hby own_d8_118) rfl rfl  k) ?_
  show Go p e below Φ T8 (mkF m 119 #[.val (.ref oa), .val (.ref ya), .val (.int (1 : Int32)), .val (.int (1 : Int32))] [(.ref oa)])
  obtain ⟨T9, X9, e9, st9⟩ := getF X8 hx hZ hown (host := "") (Or.inl (hw _ (List.mem_of_getElem? (i := 11) rfl))) Via.refl e8 F_oa_ring (g := (mkF m 119 #[.val (.ref oa), .val (.ref ya), .val (.int (1 : Int32)), .val (.int (1 : Int32))] [(.ref oa)])) rfl rfl (hb hby own_d8_119)
  refine Go.of st9 ?_
  show Go p e below Φ T9 (mkF m 122 #[.val (.ref oa), .val (.ref ya), .val (.int (1 : Int32)), .val (.int (1 : Int32))] [(.ref ra)])
  obtain ⟨cl122, Ar122, q122, S122, N122, H122, G122⟩ := id V_ra
  refine Go.of (fun t k => X9.arraylength hx (own_at_ e9 Ar122.1) (State.isArrayOf_alike hZ.alike Ar122.2.1) (g := (mkF m 122 #[.val (.ref oa), .val (.ref ya), .val (.int (1 : Int32)), .val (.int (1 : Int32))] [(.ref ra)])) rfl rfl (hb hby own_d8_122) t k) ?_
  rw [len_of S122 N122]
  show Go p e below Φ T9 (mkF m 123 #[.val (.ref oa), .val (.ref ya), .val (.int (1 : Int32)), .val (.int (1 : Int32))] [(.int (16 : Int32))])
  refine Go.of (fun t k => XS.bipush X9.here hx rfl (hb hby own_d8_123) k) ?_
  show Go p e below Φ T9 (mkF m 125 #[.val (.ref oa), .val (.ref ya), .val (.int (1 : Int32)), .val (.int (1 : Int32))] [(.int (16 : Int32)), (.int (16 : Int32))])
  refine Go.of (fun t k => XS.icmpYes X9.here hx rfl (pc0 := 125) (pc' := 153) rfl (hb hby own_d8_125) rfl (XT.ii_le_t (by decide)) (by decide) (by decide) k) ?_
  show Go p e below Φ T9 (mkF m 153 #[.val (.ref oa), .val (.ref ya), .val (.int (1 : Int32)), .val (.int (1 : Int32))] [])
  rw [hΦ]
  refine Go.retV X9 hx Bd.notSynchronized Bd.returns (hb hby own_d8_153) (by decide) (by decide) ?_
  rw [e9]
  exact ⟨rfl, N8, K8, F_oa_size, F_oa_head, F_oa_ring, V_ra⟩
theorem own_ef0 (m : MethodId) (i0 : Int64) (i1 : Int64) (i2 : Int32) : entryFrame m #[(.long i0), (.long i1), (.int i2)] maxLocals = mkF m 0 #[.val (.long i0), .second, .val (.long i1), .second, .val (.int i2), .unset, .unset, .unset, .unset, .unset, .unset, .unset, .unset, .unset, .unset, .unset] [] := by first | (simp [entryFrame, mkF, argsToLocals, Value.category, maxLocals]; done) | rfl
def Q0 (Z : State) (i0 : Int64) (i1 : Int64) (i2 : Int32) (h0 : Heap) (n0 : Nat) (vr : Option Value) (hr : Heap) (Lr : List Loc) : Prop := vr = some (.int 1) ∧ Fr n0 Lr
set_option maxRecDepth 65536 in
set_option maxHeartbeats 40000000 in
theorem rm0 (l : Launch) (Z : State) (a0 : Array Value) (hw : ∀ d ∈ tables_1, d.before a0 Z = true) (ws : List Jvm.Cond) (i0 : Int64) (i1 : Int64) (i2 : Int32) (h0 : Heap) (n0 : Nat) (Z0 : n0 ≤ h0.size) :
    MetFree l x (head1 (Jvm.Cond.code x code maxLocals ret :: ws) room_1) (fun aQ UQ => aQ = #[(.long i0), (.long i1), (.int i2)] ∧ Z.Warmed39 UQ.vm ∧ UQ.heap = h0) (fun _ _ _ _ _ => True) (fun _ UQ oQ VQ => ∃ vQ LQ, oQ = .returned vQ ∧ Q0 Z i0 i1 i2 h0 n0 vQ VQ.heap LQ ∧ FrameEnd UQ oQ VQ LQ 24 192) := by
  refine MetFree.of_bodySF (plainFor_of_name own_pn2) hisR ?_
  intro p e s m args below meth c s₁ Bd hml0 hP hK
  obtain ⟨rfl, hZ, hh⟩ := hP
  have hx := Bd.exec
  have hby := Bd.bytes
  have hml : c.maxLocals = 16 := hml0
  have hown : s.vm.findClass "com/example/demarq/demarq/broker/SortedMessagesIsEmptyPinLaw" = some m.cls := findClass_of_methodNamed Bd.named
  have hnm := (name_of_methodNamed Bd.named Bd.method).1
  have X0 : Stand p l e room_1 s m #[(.long i0), (.long i1), (.int i2)] below meth c s₁ [] 0 0 := Stand.of_body Bd
  have e0 : s₁.heap = h0 := by rw [← hh, Bd.state]; rfl
  have N0 := Fr.nil n0
  show Go p e below (EndQ s below (Q0 Z i0 i1 i2 h0 n0) 24 192) s₁ (entryFrame m #[(.long i0), (.long i1), (.int i2)] maxLocals)
  obtain ⟨Φ, hΦ⟩ : ∃ Φ, Φ = EndQ s below (Q0 Z i0 i1 i2 h0 n0) 24 192 := ⟨_, rfl⟩
  rw [← hΦ, own_ef0]
  show Go p e below Φ s₁ (mkF m 0 #[.val (.long i0), .second, .val (.long i1), .second, .val (.int i2), .unset, .unset, .unset, .unset, .unset, .unset, .unset, .unset, .unset, .unset, .unset] [])
  refine Go.of (fun t k => XS.lloadN X0.here hx rfl (hb hby at_0) rfl  k) ?_
  show Go p e below Φ s₁ (mkF m 1 #[.val (.long i0), .second, .val (.long i1), .second, .val (.int i2), .unset, .unset, .unset, .unset, .unset, .unset, .unset, .unset, .unset, .unset, .unset] [(.long i1)])
  refine Go.of (fun t k => XS.lloadN X0.here hx rfl (hb hby at_1) rfl  k) ?_
  show Go p e below Φ s₁ (mkF m 2 #[.val (.long i0), .second, .val (.long i1), .second, .val (.int i2), .unset, .unset, .unset, .unset, .unset, .unset, .unset, .unset, .unset, .unset, .unset] [(.long i0), (.long i1)])
  refine Go.of (fun t k => XT.lcmp X0.here hx rfl (hb hby at_2) rfl k) ?_
  show Go p e below Φ s₁ (mkF m 3 #[.val (.long i0), .second, .val (.long i1), .second, .val (.int i2), .unset, .unset, .unset, .unset, .unset, .unset, .unset, .unset, .unset, .unset, .unset] [(.int (XT.cmpL i1 i0))])
  suffices j13_1 :  ∀ v13 : Int64, v13 = (if i1 = i0 then (i0 + (1 : Int64)) else i1) → Go p e below Φ s₁ (mkF m 13 #[.val (.long i0), .second, .val (.long i1), .second, .val (.int i2), .unset, .unset, .unset, .unset, .unset, .unset, .unset, .unset, .unset, .unset, .unset] [(.long v13)]) by
    by_cases hc3 : i1 = i0
    · refine Go.of (fun t k => XS.ifNo X0.here hx rfl (hb hby at_3) rfl (XT.ll_ne_f hc3) k) ?_
      show Go p e below Φ s₁ (mkF m 6 #[.val (.long i0), .second, .val (.long i1), .second, .val (.int i2), .unset, .unset, .unset, .unset, .unset, .unset, .unset, .unset, .unset, .unset, .unset] [])
      refine Go.of (fun t k => XS.lloadN X0.here hx rfl (hb hby at_6) rfl  k) ?_
      show Go p e below Φ s₁ (mkF m 7 #[.val (.long i0), .second, .val (.long i1), .second, .val (.int i2), .unset, .unset, .unset, .unset, .unset, .unset, .unset, .unset, .unset, .unset, .unset] [(.long i0)])
      refine Go.of (fun t k => XS.lconst X0.here hx rfl (hb hby at_7) k) ?_
      show Go p e below Φ s₁ (mkF m 8 #[.val (.long i0), .second, .val (.long i1), .second, .val (.int i2), .unset, .unset, .unset, .unset, .unset, .unset, .unset, .unset, .unset, .unset, .unset] [(.long (1 : Int64)), (.long i0)])
      refine Go.of (fun t k => XS.ladd X0.here hx rfl (hb hby at_8) rfl k) ?_
      show Go p e below Φ s₁ (mkF m 9 #[.val (.long i0), .second, .val (.long i1), .second, .val (.int i2), .unset, .unset, .unset, .unset, .unset, .unset, .unset, .unset, .unset, .unset, .unset] [(.long (i0 + (1 : Int64)))])
      refine Go.of (fun t k => XS.goto X0.here hx rfl (pc0 := 9) (pc' := 13) rfl (hb hby at_9) (by decide) (by decide) k) ?_
      show Go p e below Φ s₁ (mkF m 13 #[.val (.long i0), .second, .val (.long i1), .second, .val (.int i2), .unset, .unset, .unset, .unset, .unset, .unset, .unset, .unset, .unset, .unset, .unset] [(.long (i0 + (1 : Int64)))])
      exact j13_1 _ (by rw [if_pos hc3])
    · refine Go.of (fun t k => XS.ifYes X0.here hx rfl (pc0 := 3) (pc' := 12) rfl (hb hby at_3) rfl (XT.ll_ne_t hc3) (by decide) (by decide) k) ?_
      show Go p e below Φ s₁ (mkF m 12 #[.val (.long i0), .second, .val (.long i1), .second, .val (.int i2), .unset, .unset, .unset, .unset, .unset, .unset, .unset, .unset, .unset, .unset, .unset] [])
      refine Go.of (fun t k => XS.lloadN X0.here hx rfl (hb hby at_12) rfl  k) ?_
      show Go p e below Φ s₁ (mkF m 13 #[.val (.long i0), .second, .val (.long i1), .second, .val (.int i2), .unset, .unset, .unset, .unset, .unset, .unset, .unset, .unset, .unset, .unset, .unset] [(.long i1)])
      exact j13_1 _ (by rw [if_neg hc3])
  intro v13 hv13
  show Go p e below Φ s₁ (mkF m 13 #[.val (.long i0), .second, .val (.long i1), .second, .val (.int i2), .unset, .unset, .unset, .unset, .unset, .unset, .unset, .unset, .unset, .unset, .unset] [(.long v13)])
  refine Go.of (fun t k => XS.lstore X0.here hx rfl (hb hby at_13) rfl (l' := #[.val (.long i0), .second, .val (.long i1), .second, .val (.int i2), .val (.long v13), .second, .unset, .unset, .unset, .unset, .unset, .unset, .unset, .unset, .unset]) rfl k) ?_
  show Go p e below Φ s₁ (mkF m 15 #[.val (.long i0), .second, .val (.long i1), .second, .val (.int i2), .val (.long v13), .second, .unset, .unset, .unset, .unset, .unset, .unset, .unset, .unset, .unset] [])
  obtain ⟨T2, h2, X2, e2, E2, A2, D2, -, st2⟩ := newO X0 hx hZ hown (hw _ (List.mem_of_getElem? (i := 0) rfl)) (hw _ (List.mem_of_getElem? (i := 1) rfl)) (hw _ (List.mem_of_getElem? (i := 2) rfl)) e0 (g := (mkF m 15 #[.val (.long i0), .second, .val (.long i1), .second, .val (.int i2), .val (.long v13), .second, .unset, .unset, .unset, .unset, .unset, .unset, .unset, .unset, .unset] [])) rfl (hb hby at_15) (by decide) (by decide)
  obtain ⟨b2, g2⟩ : ∃ z, z = h0.size := ⟨_, rfl⟩
  rw [← g2] at A2 D2 st2
  have g_b2 : n0 ≤ b2 := Nat.le_trans Z0 (Nat.le_of_eq g2.symm)
  have Z2 := Nat.le_trans Z0 E2.1
  have E_b2 := A2
  have F_b2_ring : Fld Z h2 b2 "com/example/demarq/demarq/broker/SortedMessages" "ring" "[Lcom/example/demarq/demarq/broker/Message;" .null := D2 (Or.inl (hw _ (List.mem_of_getElem? (i := 12) rfl))) (ty := (.array (.object "com/example/demarq/demarq/broker/Message"))) (by decide)
  have F_b2_size : Fld Z h2 b2 "com/example/demarq/demarq/broker/SortedMessages" "size" "I" (.int (0 : Int32)) := D2 (Or.inl (hw _ (List.mem_of_getElem? (i := 32) rfl))) (ty := .int) (by decide)
  have F_b2_head : Fld Z h2 b2 "com/example/demarq/demarq/broker/SortedMessages" "head" "I" (.int (0 : Int32)) := D2 (Or.inl (hw _ (List.mem_of_getElem? (i := 47) rfl))) (ty := .int) (by decide)
  refine Go.of st2 ?_
  show Go p e below Φ T2 (mkF m 18 #[.val (.long i0), .second, .val (.long i1), .second, .val (.int i2), .val (.long v13), .second, .unset, .unset, .unset, .unset, .unset, .unset, .unset, .unset, .unset] [(.ref b2)])
  refine Go.of (fun t k => XS.dup X2.here hx rfl (hb hby at_18) rfl rfl k) ?_
  show Go p e below Φ T2 (mkF m 19 #[.val (.long i0), .second, .val (.long i1), .second, .val (.int i2), .val (.long v13), .second, .unset, .unset, .unset, .unset, .unset, .unset, .unset, .unset, .unset] [(.ref b2), (.ref b2)])
  obtain ⟨_, _, ⟨T3, L3, k3, n3⟩, -, X3, ⟨Lc3, hQ3, l3, y3, z3⟩, st3⟩ := X2.specialBack hx (y := (⟨"com/example/demarq/demarq/broker/SortedMessages", "<init>", "()V"⟩ : MethodName)) rfl hown (mvT hZ (hw _ (List.mem_of_getElem? (i := 3) rfl))) (mvT hZ (hw _ (List.mem_of_getElem? (i := 4) rfl))) (mvT hZ (hw _ (List.mem_of_getElem? (i := 5) rfl))) (by decide) (backOf (W := 1) (rm1 l Z a0 hw [] b2 h2 n0 Z2 F_b2_ring F_b2_size F_b2_head E_b2 g_b2) hZ (hw _ (List.mem_of_getElem? (i := 5) rfl)) (hw _ (List.mem_of_getElem? (i := 2) rfl)) (by decide) (by decide)) (g := (mkF m 19 #[.val (.long i0), .second, .val (.long i1), .second, .val (.int i2), .val (.long v13), .second, .unset, .unset, .unset, .unset, .unset, .unset, .unset, .unset, .unset] [(.ref b2), (.ref b2)])) rfl (by rw [hml]; rfl) (Steps.refl _) (a := b2) (argsL := []) (rest := [(.ref b2)]) (lenOf own_pd7 rfl) rfl (by show 2 * 0 + _ ≤ _; exact Nat.le_of_eq rfl) (hb hby at_19) (fun _ _ => ⟨rfl, e2, (by decide : 1 + 1 ≤ _), (by decide : 3 + 16 ≤ _)⟩)
  dsimp only [Pt.U, Pt.locs, Pt.cells, Pt.slots] at X3 l3 y3 z3 st3 hQ3
  subst l3 y3 z3
  obtain ⟨b3, k3, rfl, N3q, K3q, cR3, cS3, cH3, cV3, Ov3, s3q⟩ := hQ3
  have N3 := Fr.app N0 N3q
  obtain ⟨lc3, X3, N3⟩ : ∃ lc, Stand p l e room_1 s m #[(.long i0), (.long i1), (.int i2)] below meth c T3 lc 2 19 ∧ Fr n0 lc := ⟨_, X3, N3⟩
  have ne_b2_b3 : b2 ≠ b3 := Nat.ne_of_lt (Nat.lt_of_lt_of_le E_b2.lt s3q)
  have g_b3 : n0 ≤ b3 := Nat.le_trans Z2 s3q
  have E_b2 := E_b2.keep K3q
  have F_b2_ring := cR3
  have F_b2_size := cS3
  have F_b2_head := cH3
  have V_b3 := cV3
  have Z3 := Nat.le_trans Z2 K3q.1
  refine Go.tr st3 ?_
  show Go p e below Φ T3 (mkF m 22 #[.val (.long i0), .second, .val (.long i1), .second, .val (.int i2), .val (.long v13), .second, .unset, .unset, .unset, .unset, .unset, .unset, .unset, .unset, .unset] [(.ref b2)])
  refine Go.of (fun t k => XS.astore X3.here hx rfl (hb hby at_22) rfl rfl (l' := #[.val (.long i0), .second, .val (.long i1), .second, .val (.int i2), .val (.long v13), .second, .val (.ref b2), .unset, .unset, .unset, .unset, .unset, .unset, .unset, .unset]) rfl k) ?_
  show Go p e below Φ T3 (mkF m 24 #[.val (.long i0), .second, .val (.long i1), .second, .val (.int i2), .val (.long v13), .second, .val (.ref b2), .unset, .unset, .unset, .unset, .unset, .unset, .unset, .unset] [])
  obtain ⟨T4, h4, X4, e4, E4, A4, D4, -, st4⟩ := newO X3 hx hZ hown (hw _ (List.mem_of_getElem? (i := 13) rfl)) (hw _ (List.mem_of_getElem? (i := 14) rfl)) (hw _ (List.mem_of_getElem? (i := 15) rfl)) rfl (g := (mkF m 24 #[.val (.long i0), .second, .val (.long i1), .second, .val (.int i2), .val (.long v13), .second, .val (.ref b2), .unset, .unset, .unset, .unset, .unset, .unset, .unset, .unset] [])) rfl (hb hby at_24) (by decide) (by decide)
  obtain ⟨b4, g4⟩ : ∃ z, z = T3.heap.size := ⟨_, rfl⟩
  rw [← g4] at A4 D4 st4
  have ne_b2_b4 : b2 ≠ b4 := Nat.ne_of_lt (Nat.lt_of_lt_of_le E_b2.lt (Nat.le_of_eq g4.symm))
  have ne_b3_b4 : b3 ≠ b4 := Nat.ne_of_lt (Nat.lt_of_lt_of_le V_b3.lt (Nat.le_of_eq g4.symm))
  have g_b4 : n0 ≤ b4 := Nat.le_trans Z3 (Nat.le_of_eq g4.symm)
  have Z4 := Nat.le_trans Z3 E4.1
  have E_b2 := E_b2.ext E4
  have F_b2_ring := F_b2_ring.ext E4
  have F_b2_size := F_b2_size.ext E4
  have F_b2_head := F_b2_head.ext E4
  have V_b3 := V_b3.ext E4
  have E_b4 := A4
  have F_b4_position : Fld Z h4 b4 "com/example/demarq/demarq/broker/Message" "position" "J" (.long (0 : Int64)) := D4 (Or.inr (hw _ (List.mem_of_getElem? (i := 21) rfl))) (ty := .long) (by decide)
  have F_b4_encoded : Fld Z h4 b4 "com/example/demarq/demarq/broker/Message" "encoded" "[B" .null := D4 (Or.inl (hw _ (List.mem_of_getElem? (i := 23) rfl))) (ty := (.array .byte)) (by decide)
  have F_b4_durable : Fld Z h4 b4 "com/example/demarq/demarq/broker/Message" "durable" "Z" (.int (0 : Int32)) := D4 (Or.inr (hw _ (List.mem_of_getElem? (i := 25) rfl))) (ty := .boolean) (by decide)
  refine Go.of st4 ?_
  show Go p e below Φ T4 (mkF m 27 #[.val (.long i0), .second, .val (.long i1), .second, .val (.int i2), .val (.long v13), .second, .val (.ref b2), .unset, .unset, .unset, .unset, .unset, .unset, .unset, .unset] [(.ref b4)])
  refine Go.of (fun t k => XS.dup X4.here hx rfl (hb hby at_27) rfl rfl k) ?_
  show Go p e below Φ T4 (mkF m 28 #[.val (.long i0), .second, .val (.long i1), .second, .val (.int i2), .val (.long v13), .second, .val (.ref b2), .unset, .unset, .unset, .unset, .unset, .unset, .unset, .unset] [(.ref b4), (.ref b4)])
  refine Go.of (fun t k => XS.lloadN X4.here hx rfl (hb hby at_28) rfl  k) ?_
  show Go p e below Φ T4 (mkF m 29 #[.val (.long i0), .second, .val (.long i1), .second, .val (.int i2), .val (.long v13), .second, .val (.ref b2), .unset, .unset, .unset, .unset, .unset, .unset, .unset, .unset] [(.long i0), (.ref b4), (.ref b4)])
  refine Go.of (fun t k => XS.aconstNull X4.here hx rfl (hb hby at_29) k) ?_
  show Go p e below Φ T4 (mkF m 30 #[.val (.long i0), .second, .val (.long i1), .second, .val (.int i2), .val (.long v13), .second, .val (.ref b2), .unset, .unset, .unset, .unset, .unset, .unset, .unset, .unset] [.null, (.long i0), (.ref b4), (.ref b4)])
  refine Go.of (fun t k => XS.iconst X4.here hx rfl (hb hby at_30) k) ?_
  show Go p e below Φ T4 (mkF m 31 #[.val (.long i0), .second, .val (.long i1), .second, .val (.int i2), .val (.long v13), .second, .val (.ref b2), .unset, .unset, .unset, .unset, .unset, .unset, .unset, .unset] [(.int (0 : Int32)), .null, (.long i0), (.ref b4), (.ref b4)])
  obtain ⟨_, _, ⟨T5, L5, k5, n5⟩, -, X5, ⟨Lc5, hQ5, l5, y5, z5⟩, st5⟩ := X4.specialBack hx (y := (⟨"com/example/demarq/demarq/broker/Message", "<init>", "(J[BZ)V"⟩ : MethodName)) rfl hown (mvT hZ (hw _ (List.mem_of_getElem? (i := 16) rfl))) (mvT hZ (hw _ (List.mem_of_getElem? (i := 17) rfl))) (mvT hZ (hw _ (List.mem_of_getElem? (i := 18) rfl))) (by decide) (backOf (W := 1) (rm3 l Z a0 hw [] b4 i0 (0 : Int32) (0 : Int64) (0 : Int32) h4 n0 Z4 F_b4_position F_b4_encoded F_b4_durable E_b4 g_b4) hZ (hw _ (List.mem_of_getElem? (i := 18) rfl)) (hw _ (List.mem_of_getElem? (i := 15) rfl)) (by decide) (by decide)) (g := (mkF m 31 #[.val (.long i0), .second, .val (.long i1), .second, .val (.int i2), .val (.long v13), .second, .val (.ref b2), .unset, .unset, .unset, .unset, .unset, .unset, .unset, .unset] [(.int (0 : Int32)), .null, (.long i0), (.ref b4), (.ref b4)])) rfl (by rw [hml]; rfl) (Steps.refl _) (a := b4) (argsL := [(.long i0), .null, (.int (0 : Int32))]) (rest := [(.ref b4)]) (lenOf own_pd8 rfl) rfl (by show 2 * 0 + _ ≤ _; exact Nat.le_of_eq rfl) (hb hby at_31) (fun _ _ => ⟨rfl, e4, (by decide : 3 + 0 ≤ _), (by decide : 23 + 0 ≤ _)⟩)
  dsimp only [Pt.U, Pt.locs, Pt.cells, Pt.slots] at X5 l5 y5 z5 st5 hQ5
  subst l5 y5 z5
  obtain ⟨rfl, N5q, K5q, c5_0⟩ := hQ5
  have N5 := Fr.app N3 N5q
  obtain ⟨lc5, X5, N5⟩ : ∃ lc, Stand p l e room_1 s m #[(.long i0), (.long i1), (.int i2)] below meth c T5 lc 3 23 ∧ Fr n0 lc := ⟨_, X5, N5⟩
  have E_b2 := E_b2.keep K5q
  have F_b2_ring := F_b2_ring.keep K5q (ninS ne_b2_b4 nin0)
  have F_b2_size := F_b2_size.keep K5q (ninS ne_b2_b4 nin0)
  have F_b2_head := F_b2_head.keep K5q (ninS ne_b2_b4 nin0)
  have V_b3 := V_b3.keep K5q (ninS ne_b3_b4 nin0)
  have E_b4 := E_b4.keep K5q
  have F_b4_position := c5_0
  have Z5 := Nat.le_trans Z4 K5q.1
  refine Go.tr st5 ?_
  show Go p e below Φ T5 (mkF m 34 #[.val (.long i0), .second, .val (.long i1), .second, .val (.int i2), .val (.long v13), .second, .val (.ref b2), .unset, .unset, .unset, .unset, .unset, .unset, .unset, .unset] [(.ref b4)])
  refine Go.of (fun t k => XS.astore X5.here hx rfl (hb hby at_34) rfl rfl (l' := #[.val (.long i0), .second, .val (.long i1), .second, .val (.int i2), .val (.long v13), .second, .val (.ref b2), .val (.ref b4), .unset, .unset, .unset, .unset, .unset, .unset, .unset]) rfl k) ?_
  show Go p e below Φ T5 (mkF m 36 #[.val (.long i0), .second, .val (.long i1), .second, .val (.int i2), .val (.long v13), .second, .val (.ref b2), .val (.ref b4), .unset, .unset, .unset, .unset, .unset, .unset, .unset] [])
  obtain ⟨T6, h6, X6, e6, E6, A6, D6, -, st6⟩ := newO X5 hx hZ hown (hw _ (List.mem_of_getElem? (i := 13) rfl)) (hw _ (List.mem_of_getElem? (i := 14) rfl)) (hw _ (List.mem_of_getElem? (i := 15) rfl)) rfl (g := (mkF m 36 #[.val (.long i0), .second, .val (.long i1), .second, .val (.int i2), .val (.long v13), .second, .val (.ref b2), .val (.ref b4), .unset, .unset, .unset, .unset, .unset, .unset, .unset] [])) rfl (hb hby at_36) (by decide) (by decide)
  obtain ⟨b6, g6⟩ : ∃ z, z = T5.heap.size := ⟨_, rfl⟩
  rw [← g6] at A6 D6 st6
  have ne_b2_b6 : b2 ≠ b6 := Nat.ne_of_lt (Nat.lt_of_lt_of_le E_b2.lt (Nat.le_of_eq g6.symm))
  have ne_b3_b6 : b3 ≠ b6 := Nat.ne_of_lt (Nat.lt_of_lt_of_le V_b3.lt (Nat.le_of_eq g6.symm))
  have ne_b4_b6 : b4 ≠ b6 := Nat.ne_of_lt (Nat.lt_of_lt_of_le E_b4.lt (Nat.le_of_eq g6.symm))
  have g_b6 : n0 ≤ b6 := Nat.le_trans Z5 (Nat.le_of_eq g6.symm)
  have Z6 := Nat.le_trans Z5 E6.1
  have E_b2 := E_b2.ext E6
  have F_b2_ring := F_b2_ring.ext E6
  have F_b2_size := F_b2_size.ext E6
  have F_b2_head := F_b2_head.ext E6
  have V_b3 := V_b3.ext E6
  have E_b4 := E_b4.ext E6
  have F_b4_position := F_b4_position.ext E6
  have E_b6 := A6
  have F_b6_position : Fld Z h6 b6 "com/example/demarq/demarq/broker/Message" "position" "J" (.long (0 : Int64)) := D6 (Or.inr (hw _ (List.mem_of_getElem? (i := 21) rfl))) (ty := .long) (by decide)
  have F_b6_encoded : Fld Z h6 b6 "com/example/demarq/demarq/broker/Message" "encoded" "[B" .null := D6 (Or.inl (hw _ (List.mem_of_getElem? (i := 23) rfl))) (ty := (.array .byte)) (by decide)
  have F_b6_durable : Fld Z h6 b6 "com/example/demarq/demarq/broker/Message" "durable" "Z" (.int (0 : Int32)) := D6 (Or.inr (hw _ (List.mem_of_getElem? (i := 25) rfl))) (ty := .boolean) (by decide)
  refine Go.of st6 ?_
  show Go p e below Φ T6 (mkF m 39 #[.val (.long i0), .second, .val (.long i1), .second, .val (.int i2), .val (.long v13), .second, .val (.ref b2), .val (.ref b4), .unset, .unset, .unset, .unset, .unset, .unset, .unset] [(.ref b6)])
  refine Go.of (fun t k => XS.dup X6.here hx rfl (hb hby at_39) rfl rfl k) ?_
  show Go p e below Φ T6 (mkF m 40 #[.val (.long i0), .second, .val (.long i1), .second, .val (.int i2), .val (.long v13), .second, .val (.ref b2), .val (.ref b4), .unset, .unset, .unset, .unset, .unset, .unset, .unset] [(.ref b6), (.ref b6)])
  refine Go.of (fun t k => XS.lload X6.here hx rfl (hb hby at_40) rfl  k) ?_
  show Go p e below Φ T6 (mkF m 42 #[.val (.long i0), .second, .val (.long i1), .second, .val (.int i2), .val (.long v13), .second, .val (.ref b2), .val (.ref b4), .unset, .unset, .unset, .unset, .unset, .unset, .unset] [(.long v13), (.ref b6), (.ref b6)])
  refine Go.of (fun t k => XS.aconstNull X6.here hx rfl (hb hby at_42) k) ?_
  show Go p e below Φ T6 (mkF m 43 #[.val (.long i0), .second, .val (.long i1), .second, .val (.int i2), .val (.long v13), .second, .val (.ref b2), .val (.ref b4), .unset, .unset, .unset, .unset, .unset, .unset, .unset] [.null, (.long v13), (.ref b6), (.ref b6)])
  refine Go.of (fun t k => XS.iconst X6.here hx rfl (hb hby at_43) k) ?_
  show Go p e below Φ T6 (mkF m 44 #[.val (.long i0), .second, .val (.long i1), .second, .val (.int i2), .val (.long v13), .second, .val (.ref b2), .val (.ref b4), .unset, .unset, .unset, .unset, .unset, .unset, .unset] [(.int (1 : Int32)), .null, (.long v13), (.ref b6), (.ref b6)])
  obtain ⟨_, _, ⟨T7, L7, k7, n7⟩, -, X7, ⟨Lc7, hQ7, l7, y7, z7⟩, st7⟩ := X6.specialBack hx (y := (⟨"com/example/demarq/demarq/broker/Message", "<init>", "(J[BZ)V"⟩ : MethodName)) rfl hown (mvT hZ (hw _ (List.mem_of_getElem? (i := 16) rfl))) (mvT hZ (hw _ (List.mem_of_getElem? (i := 17) rfl))) (mvT hZ (hw _ (List.mem_of_getElem? (i := 18) rfl))) (by decide) (backOf (W := 1) (rm3 l Z a0 hw [] b6 v13 (1 : Int32) (0 : Int64) (0 : Int32) h6 n0 Z6 F_b6_position F_b6_encoded F_b6_durable E_b6 g_b6) hZ (hw _ (List.mem_of_getElem? (i := 18) rfl)) (hw _ (List.mem_of_getElem? (i := 15) rfl)) (by decide) (by decide)) (g := (mkF m 44 #[.val (.long i0), .second, .val (.long i1), .second, .val (.int i2), .val (.long v13), .second, .val (.ref b2), .val (.ref b4), .unset, .unset, .unset, .unset, .unset, .unset, .unset] [(.int (1 : Int32)), .null, (.long v13), (.ref b6), (.ref b6)])) rfl (by rw [hml]; rfl) (Steps.refl _) (a := b6) (argsL := [(.long v13), .null, (.int (1 : Int32))]) (rest := [(.ref b6)]) (lenOf own_pd8 rfl) rfl (by show 2 * 0 + _ ≤ _; exact Nat.le_of_eq rfl) (hb hby at_44) (fun _ _ => ⟨rfl, e6, (by decide : 4 + 0 ≤ _), (by decide : 27 + 0 ≤ _)⟩)
  dsimp only [Pt.U, Pt.locs, Pt.cells, Pt.slots] at X7 l7 y7 z7 st7 hQ7
  subst l7 y7 z7
  obtain ⟨rfl, N7q, K7q, c7_0⟩ := hQ7
  have N7 := Fr.app N5 N7q
  obtain ⟨lc7, X7, N7⟩ : ∃ lc, Stand p l e room_1 s m #[(.long i0), (.long i1), (.int i2)] below meth c T7 lc 4 27 ∧ Fr n0 lc := ⟨_, X7, N7⟩
  have E_b2 := E_b2.keep K7q
  have F_b2_ring := F_b2_ring.keep K7q (ninS ne_b2_b6 nin0)
  have F_b2_size := F_b2_size.keep K7q (ninS ne_b2_b6 nin0)
  have F_b2_head := F_b2_head.keep K7q (ninS ne_b2_b6 nin0)
  have V_b3 := V_b3.keep K7q (ninS ne_b3_b6 nin0)
  have E_b4 := E_b4.keep K7q
  have F_b4_position := F_b4_position.keep K7q (ninS ne_b4_b6 nin0)
  have E_b6 := E_b6.keep K7q
  have F_b6_position := c7_0
  have Z7 := Nat.le_trans Z6 K7q.1
  refine Go.tr st7 ?_
  show Go p e below Φ T7 (mkF m 47 #[.val (.long i0), .second, .val (.long i1), .second, .val (.int i2), .val (.long v13), .second, .val (.ref b2), .val (.ref b4), .unset, .unset, .unset, .unset, .unset, .unset, .unset] [(.ref b6)])
  refine Go.of (fun t k => XS.astore X7.here hx rfl (hb hby at_47) rfl rfl (l' := #[.val (.long i0), .second, .val (.long i1), .second, .val (.int i2), .val (.long v13), .second, .val (.ref b2), .val (.ref b4), .val (.ref b6), .unset, .unset, .unset, .unset, .unset, .unset]) rfl k) ?_
  show Go p e below Φ T7 (mkF m 49 #[.val (.long i0), .second, .val (.long i1), .second, .val (.int i2), .val (.long v13), .second, .val (.ref b2), .val (.ref b4), .val (.ref b6), .unset, .unset, .unset, .unset, .unset, .unset] [])
  refine Go.of (fun t k => XS.aload X7.here hx rfl (hb hby at_49) rfl rfl  k) ?_
  show Go p e below Φ T7 (mkF m 51 #[.val (.long i0), .second, .val (.long i1), .second, .val (.int i2), .val (.long v13), .second, .val (.ref b2), .val (.ref b4), .val (.ref b6), .unset, .unset, .unset, .unset, .unset, .unset] [(.ref b2)])
  obtain ⟨cq8, kq8, q8a, q8b, q8c⟩ := isOf hZ rfl E_b2
  obtain ⟨_, _, ⟨T8, L8, k8, n8⟩, -, X8, ⟨Lc8, hQ8, l8, y8, z8⟩, st8⟩ := X7.virtualBack hx (y := (⟨"com/example/demarq/demarq/broker/SortedMessages", "isEmpty", "()Z"⟩ : MethodName)) (z := (⟨"com/example/demarq/demarq/broker/SortedMessages", "isEmpty", "()Z"⟩ : MethodName)) hown (mvT hZ (hw _ (List.mem_of_getElem? (i := 26) rfl))) (mvT hZ (hw _ (List.mem_of_getElem? (i := 27) rfl))) (notFace_of_selects (args := #[]) (mvT hZ (hw _ (List.mem_of_getElem? (i := 29) rfl)))) (mvT hZ (hw _ (List.mem_of_getElem? (i := 29) rfl))) (mvT hZ (hw _ (List.mem_of_getElem? (i := 28) rfl))) (by decide) (backOf (W := 0) (rm4z l Z a0 hw [] b2 T7.heap n0 Z7 F_b2_size) hZ (hw _ (List.mem_of_getElem? (i := 30) rfl)) (hw _ (List.mem_of_getElem? (i := 2) rfl)) (by decide) (by decide)) q8a q8c (g := (mkF m 51 #[.val (.long i0), .second, .val (.long i1), .second, .val (.int i2), .val (.long v13), .second, .val (.ref b2), .val (.ref b4), .val (.ref b6), .unset, .unset, .unset, .unset, .unset, .unset] [(.ref b2)])) rfl (by rw [hml]; rfl) (Steps.refl _) (argsL := []) (rest := []) (lenOf own_pd9 rfl) rfl (by show 2 * 0 + _ ≤ _; exact Nat.le_of_eq rfl) (hb hby at_51) (fun _ _ => ⟨rfl, rfl, (by decide : 4 + 0 ≤ _), (by decide : 27 + 0 ≤ _)⟩)
  dsimp only [Pt.U, Pt.locs, Pt.cells, Pt.slots] at X8 l8 y8 z8 st8 hQ8
  subst l8 y8 z8
  obtain ⟨rfl, N8q, e8q⟩ := hQ8
  have N8 := Fr.app N7 N8q
  obtain ⟨lc8, X8, N8⟩ : ∃ lc, Stand p l e room_1 s m #[(.long i0), (.long i1), (.int i2)] below meth c T8 lc 4 27 ∧ Fr n0 lc := ⟨_, X8, N8⟩
  refine Go.tr st8 ?_
  show Go p e below Φ T8 (mkF m 54 #[.val (.long i0), .second, .val (.long i1), .second, .val (.int i2), .val (.long v13), .second, .val (.ref b2), .val (.ref b4), .val (.ref b6), .unset, .unset, .unset, .unset, .unset, .unset] [(.int (1 : Int32))])
  refine Go.of (fun t k => XS.istore X8.here hx rfl (hb hby at_54) rfl (l' := #[.val (.long i0), .second, .val (.long i1), .second, .val (.int i2), .val (.long v13), .second, .val (.ref b2), .val (.ref b4), .val (.ref b6), .val (.int (1 : Int32)), .unset, .unset, .unset, .unset, .unset]) rfl k) ?_
  show Go p e below Φ T8 (mkF m 56 #[.val (.long i0), .second, .val (.long i1), .second, .val (.int i2), .val (.long v13), .second, .val (.ref b2), .val (.ref b4), .val (.ref b6), .val (.int (1 : Int32)), .unset, .unset, .unset, .unset, .unset] [])
  refine Go.of (fun t k => XS.iload X8.here hx rfl (hb hby at_56) rfl  k) ?_
  show Go p e below Φ T8 (mkF m 58 #[.val (.long i0), .second, .val (.long i1), .second, .val (.int i2), .val (.long v13), .second, .val (.ref b2), .val (.ref b4), .val (.ref b6), .val (.int (1 : Int32)), .unset, .unset, .unset, .unset, .unset] [(.int i2)])
  refine Go.of (fun t k => XS.iconst X8.here hx rfl (hb hby at_58) k) ?_
  show Go p e below Φ T8 (mkF m 59 #[.val (.long i0), .second, .val (.long i1), .second, .val (.int i2), .val (.long v13), .second, .val (.ref b2), .val (.ref b4), .val (.ref b6), .val (.int (1 : Int32)), .unset, .unset, .unset, .unset, .unset] [(.int (3 : Int32)), (.int i2)])
  refine Go.of (fun t k => XS.iand X8.here hx rfl (hb hby at_59) rfl k) ?_
  show Go p e below Φ T8 (mkF m 60 #[.val (.long i0), .second, .val (.long i1), .second, .val (.int i2), .val (.long v13), .second, .val (.ref b2), .val (.ref b4), .val (.ref b6), .val (.int (1 : Int32)), .unset, .unset, .unset, .unset, .unset] [(.int (i2 &&& (3 : Int32)))])
  refine Go.of (fun t k => XS.iconst X8.here hx rfl (hb hby at_60) k) ?_
  show Go p e below Φ T8 (mkF m 61 #[.val (.long i0), .second, .val (.long i1), .second, .val (.int i2), .val (.long v13), .second, .val (.ref b2), .val (.ref b4), .val (.ref b6), .val (.int (1 : Int32)), .unset, .unset, .unset, .unset, .unset] [(.int (3 : Int32)), (.int (i2 &&& (3 : Int32)))])
  refine Go.of (fun t k => iremM X8 hx rfl (hb hby at_61) rfl (by decide) k) ?_
  show Go p e below Φ T8 (mkF m 62 #[.val (.long i0), .second, .val (.long i1), .second, .val (.int i2), .val (.long v13), .second, .val (.ref b2), .val (.ref b4), .val (.ref b6), .val (.int (1 : Int32)), .unset, .unset, .unset, .unset, .unset] [(.int ((i2 &&& (3 : Int32)) % (3 : Int32)))])
  obtain ⟨x62, hx62⟩ : ∃ z : Int32, z = ((i2 &&& (3 : Int32)) % (3 : Int32)) := ⟨_, rfl⟩
  rw [← hx62]
  refine Go.of (fun t k => XS.istore X8.here hx rfl (hb hby at_62) rfl (l' := #[.val (.long i0), .second, .val (.long i1), .second, .val (.int i2), .val (.long v13), .second, .val (.ref b2), .val (.ref b4), .val (.ref b6), .val (.int (1 : Int32)), .val (.int x62), .unset, .unset, .unset, .unset]) rfl k) ?_
  show Go p e below Φ T8 (mkF m 64 #[.val (.long i0), .second, .val (.long i1), .second, .val (.int i2), .val (.long v13), .second, .val (.ref b2), .val (.ref b4), .val (.ref b6), .val (.int (1 : Int32)), .val (.int x62), .unset, .unset, .unset, .unset] [])
  rcases own_adds _ _ hx62 with hadd | hadd | hadd
  · subst hadd
    show Go p e below Φ T8 (mkF m 64 #[.val (.long i0), .second, .val (.long i1), .second, .val (.int i2), .val (.long v13), .second, .val (.ref b2), .val (.ref b4), .val (.ref b6), .val (.int (1 : Int32)), .val (.int (0 : Int32)), .unset, .unset, .unset, .unset] [])
    refine Go.of (fun t k => XS.iload X8.here hx rfl (hb hby at_64) rfl  k) ?_
    show Go p e below Φ T8 (mkF m 66 #[.val (.long i0), .second, .val (.long i1), .second, .val (.int i2), .val (.long v13), .second, .val (.ref b2), .val (.ref b4), .val (.ref b6), .val (.int (1 : Int32)), .val (.int (0 : Int32)), .unset, .unset, .unset, .unset] [(.int i2)])
    refine Go.of (fun t k => XS.iconst X8.here hx rfl (hb hby at_66) k) ?_
    show Go p e below Φ T8 (mkF m 67 #[.val (.long i0), .second, .val (.long i1), .second, .val (.int i2), .val (.long v13), .second, .val (.ref b2), .val (.ref b4), .val (.ref b6), .val (.int (1 : Int32)), .val (.int (0 : Int32)), .unset, .unset, .unset, .unset] [(.int (4 : Int32)), (.int i2)])
    refine Go.of (fun t k => XS.iushr X8.here hx rfl (hb hby at_67) rfl k) ?_
    show Go p e below Φ T8 (mkF m 68 #[.val (.long i0), .second, .val (.long i1), .second, .val (.int i2), .val (.long v13), .second, .val (.ref b2), .val (.ref b4), .val (.ref b6), .val (.int (1 : Int32)), .val (.int (0 : Int32)), .unset, .unset, .unset, .unset] [(.int (own_ushr i2 (4 : Int32)))])
    refine Go.of (fun t k => XS.iconst X8.here hx rfl (hb hby at_68) k) ?_
    show Go p e below Φ T8 (mkF m 69 #[.val (.long i0), .second, .val (.long i1), .second, .val (.int i2), .val (.long v13), .second, .val (.ref b2), .val (.ref b4), .val (.ref b6), .val (.int (1 : Int32)), .val (.int (0 : Int32)), .unset, .unset, .unset, .unset] [(.int (1 : Int32)), (.int (own_ushr i2 (4 : Int32)))])
    refine Go.of (fun t k => XS.iand X8.here hx rfl (hb hby at_69) rfl k) ?_
    show Go p e below Φ T8 (mkF m 70 #[.val (.long i0), .second, .val (.long i1), .second, .val (.int i2), .val (.long v13), .second, .val (.ref b2), .val (.ref b4), .val (.ref b6), .val (.int (1 : Int32)), .val (.int (0 : Int32)), .unset, .unset, .unset, .unset] [(.int ((own_ushr i2 (4 : Int32)) &&& (1 : Int32)))])
    by_cases hc70 : ((own_ushr i2 (4 : Int32)) &&& (1 : Int32)) = (0 : Int32)
    · refine Go.of (fun t k => XS.ifYes X8.here hx rfl (pc0 := 70) (pc' := 77) rfl (hb hby at_70) rfl (XT.i0_eq_t hc70) (by decide) (by decide) k) ?_
      show Go p e below Φ T8 (mkF m 77 #[.val (.long i0), .second, .val (.long i1), .second, .val (.int i2), .val (.long v13), .second, .val (.ref b2), .val (.ref b4), .val (.ref b6), .val (.int (1 : Int32)), .val (.int (0 : Int32)), .unset, .unset, .unset, .unset] [])
      refine Go.of (fun t k => XS.iconst X8.here hx rfl (hb hby at_77) k) ?_
      show Go p e below Φ T8 (mkF m 78 #[.val (.long i0), .second, .val (.long i1), .second, .val (.int i2), .val (.long v13), .second, .val (.ref b2), .val (.ref b4), .val (.ref b6), .val (.int (1 : Int32)), .val (.int (0 : Int32)), .unset, .unset, .unset, .unset] [(.int (0 : Int32))])
      refine Go.of (fun t k => XS.istore X8.here hx rfl (hb hby at_78) rfl (l' := #[.val (.long i0), .second, .val (.long i1), .second, .val (.int i2), .val (.long v13), .second, .val (.ref b2), .val (.ref b4), .val (.ref b6), .val (.int (1 : Int32)), .val (.int (0 : Int32)), .val (.int (0 : Int32)), .unset, .unset, .unset]) rfl k) ?_
      show Go p e below Φ T8 (mkF m 80 #[.val (.long i0), .second, .val (.long i1), .second, .val (.int i2), .val (.long v13), .second, .val (.ref b2), .val (.ref b4), .val (.ref b6), .val (.int (1 : Int32)), .val (.int (0 : Int32)), .val (.int (0 : Int32)), .unset, .unset, .unset] [])
      refine Go.of (fun t k => XS.iload X8.here hx rfl (hb hby at_80) rfl  k) ?_
      show Go p e below Φ T8 (mkF m 82 #[.val (.long i0), .second, .val (.long i1), .second, .val (.int i2), .val (.long v13), .second, .val (.ref b2), .val (.ref b4), .val (.ref b6), .val (.int (1 : Int32)), .val (.int (0 : Int32)), .val (.int (0 : Int32)), .unset, .unset, .unset] [(.int (0 : Int32))])
      refine Go.of (fun t k => XS.ifYes X8.here hx rfl (pc0 := 82) (pc' := 90) rfl (hb hby at_82) rfl (XT.i0_eq_t rfl) (by decide) (by decide) k) ?_
      show Go p e below Φ T8 (mkF m 90 #[.val (.long i0), .second, .val (.long i1), .second, .val (.int i2), .val (.long v13), .second, .val (.ref b2), .val (.ref b4), .val (.ref b6), .val (.int (1 : Int32)), .val (.int (0 : Int32)), .val (.int (0 : Int32)), .unset, .unset, .unset] [])
      refine Go.of (fun t k => XS.aload X8.here hx rfl (hb hby at_90) rfl rfl  k) ?_
      show Go p e below Φ T8 (mkF m 92 #[.val (.long i0), .second, .val (.long i1), .second, .val (.int i2), .val (.long v13), .second, .val (.ref b2), .val (.ref b4), .val (.ref b6), .val (.int (1 : Int32)), .val (.int (0 : Int32)), .val (.int (0 : Int32)), .unset, .unset, .unset] [(.ref b4)])
      refine Go.of (fun t k => XS.astore X8.here hx rfl (hb hby at_92) rfl rfl (l' := #[.val (.long i0), .second, .val (.long i1), .second, .val (.int i2), .val (.long v13), .second, .val (.ref b2), .val (.ref b4), .val (.ref b6), .val (.int (1 : Int32)), .val (.int (0 : Int32)), .val (.int (0 : Int32)), .val (.ref b4), .unset, .unset]) rfl k) ?_
      show Go p e below Φ T8 (mkF m 94 #[.val (.long i0), .second, .val (.long i1), .second, .val (.int i2), .val (.long v13), .second, .val (.ref b2), .val (.ref b4), .val (.ref b6), .val (.int (1 : Int32)), .val (.int (0 : Int32)), .val (.int (0 : Int32)), .val (.ref b4), .unset, .unset] [])
      refine Go.of (fun t k => XS.iload X8.here hx rfl (hb hby at_94) rfl  k) ?_
      show Go p e below Φ T8 (mkF m 96 #[.val (.long i0), .second, .val (.long i1), .second, .val (.int i2), .val (.long v13), .second, .val (.ref b2), .val (.ref b4), .val (.ref b6), .val (.int (1 : Int32)), .val (.int (0 : Int32)), .val (.int (0 : Int32)), .val (.ref b4), .unset, .unset] [(.int (0 : Int32))])
      refine Go.of (fun t k => XS.ifYes X8.here hx rfl (pc0 := 96) (pc' := 104) rfl (hb hby at_96) rfl (XT.i0_eq_t rfl) (by decide) (by decide) k) ?_
      show Go p e below Φ T8 (mkF m 104 #[.val (.long i0), .second, .val (.long i1), .second, .val (.int i2), .val (.long v13), .second, .val (.ref b2), .val (.ref b4), .val (.ref b6), .val (.int (1 : Int32)), .val (.int (0 : Int32)), .val (.int (0 : Int32)), .val (.ref b4), .unset, .unset] [])
      refine Go.of (fun t k => XS.aload X8.here hx rfl (hb hby at_104) rfl rfl  k) ?_
      show Go p e below Φ T8 (mkF m 106 #[.val (.long i0), .second, .val (.long i1), .second, .val (.int i2), .val (.long v13), .second, .val (.ref b2), .val (.ref b4), .val (.ref b6), .val (.int (1 : Int32)), .val (.int (0 : Int32)), .val (.int (0 : Int32)), .val (.ref b4), .unset, .unset] [(.ref b6)])
      refine Go.of (fun t k => XS.astore X8.here hx rfl (hb hby at_106) rfl rfl (l' := #[.val (.long i0), .second, .val (.long i1), .second, .val (.int i2), .val (.long v13), .second, .val (.ref b2), .val (.ref b4), .val (.ref b6), .val (.int (1 : Int32)), .val (.int (0 : Int32)), .val (.int (0 : Int32)), .val (.ref b4), .val (.ref b6), .unset]) rfl k) ?_
      show Go p e below Φ T8 (mkF m 108 #[.val (.long i0), .second, .val (.long i1), .second, .val (.int i2), .val (.long v13), .second, .val (.ref b2), .val (.ref b4), .val (.ref b6), .val (.int (1 : Int32)), .val (.int (0 : Int32)), .val (.int (0 : Int32)), .val (.ref b4), .val (.ref b6), .unset] [])
      refine Go.of (fun t k => XS.iload X8.here hx rfl (hb hby at_108) rfl  k) ?_
      show Go p e below Φ T8 (mkF m 110 #[.val (.long i0), .second, .val (.long i1), .second, .val (.int i2), .val (.long v13), .second, .val (.ref b2), .val (.ref b4), .val (.ref b6), .val (.int (1 : Int32)), .val (.int (0 : Int32)), .val (.int (0 : Int32)), .val (.ref b4), .val (.ref b6), .unset] [(.int (0 : Int32))])
      refine Go.of (fun t k => XS.iconst X8.here hx rfl (hb hby at_110) k) ?_
      show Go p e below Φ T8 (mkF m 111 #[.val (.long i0), .second, .val (.long i1), .second, .val (.int i2), .val (.long v13), .second, .val (.ref b2), .val (.ref b4), .val (.ref b6), .val (.int (1 : Int32)), .val (.int (0 : Int32)), .val (.int (0 : Int32)), .val (.ref b4), .val (.ref b6), .unset] [(.int (1 : Int32)), (.int (0 : Int32))])
      refine Go.of (fun t k => XS.icmpYes X8.here hx rfl (pc0 := 111) (pc' := 121) rfl (hb hby at_111) rfl (XT.ii_lt_t (by decide)) (by decide) (by decide) k) ?_
      show Go p e below Φ T8 (mkF m 121 #[.val (.long i0), .second, .val (.long i1), .second, .val (.int i2), .val (.long v13), .second, .val (.ref b2), .val (.ref b4), .val (.ref b6), .val (.int (1 : Int32)), .val (.int (0 : Int32)), .val (.int (0 : Int32)), .val (.ref b4), .val (.ref b6), .unset] [])
      refine Go.of (fun t k => XS.iload X8.here hx rfl (hb hby at_121) rfl  k) ?_
      show Go p e below Φ T8 (mkF m 123 #[.val (.long i0), .second, .val (.long i1), .second, .val (.int i2), .val (.long v13), .second, .val (.ref b2), .val (.ref b4), .val (.ref b6), .val (.int (1 : Int32)), .val (.int (0 : Int32)), .val (.int (0 : Int32)), .val (.ref b4), .val (.ref b6), .unset] [(.int (0 : Int32))])
      refine Go.of (fun t k => XS.iconst X8.here hx rfl (hb hby at_123) k) ?_
      show Go p e below Φ T8 (mkF m 124 #[.val (.long i0), .second, .val (.long i1), .second, .val (.int i2), .val (.long v13), .second, .val (.ref b2), .val (.ref b4), .val (.ref b6), .val (.int (1 : Int32)), .val (.int (0 : Int32)), .val (.int (0 : Int32)), .val (.ref b4), .val (.ref b6), .unset] [(.int (2 : Int32)), (.int (0 : Int32))])
      refine Go.of (fun t k => XS.icmpYes X8.here hx rfl (pc0 := 124) (pc' := 134) rfl (hb hby at_124) rfl (XT.ii_lt_t (by decide)) (by decide) (by decide) k) ?_
      show Go p e below Φ T8 (mkF m 134 #[.val (.long i0), .second, .val (.long i1), .second, .val (.int i2), .val (.long v13), .second, .val (.ref b2), .val (.ref b4), .val (.ref b6), .val (.int (1 : Int32)), .val (.int (0 : Int32)), .val (.int (0 : Int32)), .val (.ref b4), .val (.ref b6), .unset] [])
      refine Go.of (fun t k => XS.iload X8.here hx rfl (hb hby at_134) rfl  k) ?_
      show Go p e below Φ T8 (mkF m 136 #[.val (.long i0), .second, .val (.long i1), .second, .val (.int i2), .val (.long v13), .second, .val (.ref b2), .val (.ref b4), .val (.ref b6), .val (.int (1 : Int32)), .val (.int (0 : Int32)), .val (.int (0 : Int32)), .val (.ref b4), .val (.ref b6), .unset] [(.int (1 : Int32))])
      refine Go.of (fun t k => XS.ifNo X8.here hx rfl (hb hby at_136) rfl (XT.i0_eq_f (by decide)) k) ?_
      show Go p e below Φ T8 (mkF m 139 #[.val (.long i0), .second, .val (.long i1), .second, .val (.int i2), .val (.long v13), .second, .val (.ref b2), .val (.ref b4), .val (.ref b6), .val (.int (1 : Int32)), .val (.int (0 : Int32)), .val (.int (0 : Int32)), .val (.ref b4), .val (.ref b6), .unset] [])
      refine Go.of (fun t k => XS.aload X8.here hx rfl (hb hby at_139) rfl rfl  k) ?_
      show Go p e below Φ T8 (mkF m 141 #[.val (.long i0), .second, .val (.long i1), .second, .val (.int i2), .val (.long v13), .second, .val (.ref b2), .val (.ref b4), .val (.ref b6), .val (.int (1 : Int32)), .val (.int (0 : Int32)), .val (.int (0 : Int32)), .val (.ref b4), .val (.ref b6), .unset] [(.ref b2)])
      obtain ⟨cq9, kq9, q9a, q9b, q9c⟩ := isOf hZ (e8q) E_b2
      obtain ⟨_, _, ⟨T9, L9, k9, n9⟩, -, X9, ⟨Lc9, hQ9, l9, y9, z9⟩, st9⟩ := X8.virtualBack hx (y := (⟨"com/example/demarq/demarq/broker/SortedMessages", "isEmpty", "()Z"⟩ : MethodName)) (z := (⟨"com/example/demarq/demarq/broker/SortedMessages", "isEmpty", "()Z"⟩ : MethodName)) hown (mvT hZ (hw _ (List.mem_of_getElem? (i := 26) rfl))) (mvT hZ (hw _ (List.mem_of_getElem? (i := 27) rfl))) (notFace_of_selects (args := #[]) (mvT hZ (hw _ (List.mem_of_getElem? (i := 29) rfl)))) (mvT hZ (hw _ (List.mem_of_getElem? (i := 29) rfl))) (mvT hZ (hw _ (List.mem_of_getElem? (i := 28) rfl))) (by decide) (backOf (W := 0) (rm4z l Z a0 hw [] b2 T7.heap n0 Z7 F_b2_size) hZ (hw _ (List.mem_of_getElem? (i := 30) rfl)) (hw _ (List.mem_of_getElem? (i := 2) rfl)) (by decide) (by decide)) q9a q9c (g := (mkF m 141 #[.val (.long i0), .second, .val (.long i1), .second, .val (.int i2), .val (.long v13), .second, .val (.ref b2), .val (.ref b4), .val (.ref b6), .val (.int (1 : Int32)), .val (.int (0 : Int32)), .val (.int (0 : Int32)), .val (.ref b4), .val (.ref b6), .unset] [(.ref b2)])) rfl (by rw [hml]; rfl) (Steps.refl _) (argsL := []) (rest := []) (lenOf own_pd9 rfl) rfl (by show 2 * 0 + _ ≤ _; exact Nat.le_of_eq rfl) (hb hby at_141) (fun _ _ => ⟨rfl, (e8q), (by decide : 4 + 0 ≤ _), (by decide : 27 + 0 ≤ _)⟩)
      dsimp only [Pt.U, Pt.locs, Pt.cells, Pt.slots] at X9 l9 y9 z9 st9 hQ9
      subst l9 y9 z9
      obtain ⟨rfl, N9q, e9q⟩ := hQ9
      have N9 := Fr.app N8 N9q
      obtain ⟨lc9, X9, N9⟩ : ∃ lc, Stand p l e room_1 s m #[(.long i0), (.long i1), (.int i2)] below meth c T9 lc 4 27 ∧ Fr n0 lc := ⟨_, X9, N9⟩
      refine Go.tr st9 ?_
      show Go p e below Φ T9 (mkF m 144 #[.val (.long i0), .second, .val (.long i1), .second, .val (.int i2), .val (.long v13), .second, .val (.ref b2), .val (.ref b4), .val (.ref b6), .val (.int (1 : Int32)), .val (.int (0 : Int32)), .val (.int (0 : Int32)), .val (.ref b4), .val (.ref b6), .unset] [(.int (1 : Int32))])
      refine Go.of (fun t k => XS.iload X9.here hx rfl (hb hby at_144) rfl  k) ?_
      show Go p e below Φ T9 (mkF m 146 #[.val (.long i0), .second, .val (.long i1), .second, .val (.int i2), .val (.long v13), .second, .val (.ref b2), .val (.ref b4), .val (.ref b6), .val (.int (1 : Int32)), .val (.int (0 : Int32)), .val (.int (0 : Int32)), .val (.ref b4), .val (.ref b6), .unset] [(.int (0 : Int32)), (.int (1 : Int32))])
      refine Go.of (fun t k => XS.ifNo X9.here hx rfl (hb hby at_146) rfl (XT.i0_ne_f rfl) k) ?_
      show Go p e below Φ T9 (mkF m 149 #[.val (.long i0), .second, .val (.long i1), .second, .val (.int i2), .val (.long v13), .second, .val (.ref b2), .val (.ref b4), .val (.ref b6), .val (.int (1 : Int32)), .val (.int (0 : Int32)), .val (.int (0 : Int32)), .val (.ref b4), .val (.ref b6), .unset] [(.int (1 : Int32))])
      refine Go.of (fun t k => XS.iconst X9.here hx rfl (hb hby at_149) k) ?_
      show Go p e below Φ T9 (mkF m 150 #[.val (.long i0), .second, .val (.long i1), .second, .val (.int i2), .val (.long v13), .second, .val (.ref b2), .val (.ref b4), .val (.ref b6), .val (.int (1 : Int32)), .val (.int (0 : Int32)), .val (.int (0 : Int32)), .val (.ref b4), .val (.ref b6), .unset] [(.int (1 : Int32)), (.int (1 : Int32))])
      refine Go.of (fun t k => XS.goto X9.here hx rfl (pc0 := 150) (pc' := 154) rfl (hb hby at_150) (by decide) (by decide) k) ?_
      show Go p e below Φ T9 (mkF m 154 #[.val (.long i0), .second, .val (.long i1), .second, .val (.int i2), .val (.long v13), .second, .val (.ref b2), .val (.ref b4), .val (.ref b6), .val (.int (1 : Int32)), .val (.int (0 : Int32)), .val (.int (0 : Int32)), .val (.ref b4), .val (.ref b6), .unset] [(.int (1 : Int32)), (.int (1 : Int32))])
      refine Go.of (fun t k => XS.icmpNo X9.here hx rfl (hb hby at_154) rfl (XT.ii_ne_f rfl) k) ?_
      show Go p e below Φ T9 (mkF m 157 #[.val (.long i0), .second, .val (.long i1), .second, .val (.int i2), .val (.long v13), .second, .val (.ref b2), .val (.ref b4), .val (.ref b6), .val (.int (1 : Int32)), .val (.int (0 : Int32)), .val (.int (0 : Int32)), .val (.ref b4), .val (.ref b6), .unset] [])
      refine Go.of (fun t k => XS.iconst X9.here hx rfl (hb hby at_157) k) ?_
      show Go p e below Φ T9 (mkF m 158 #[.val (.long i0), .second, .val (.long i1), .second, .val (.int i2), .val (.long v13), .second, .val (.ref b2), .val (.ref b4), .val (.ref b6), .val (.int (1 : Int32)), .val (.int (0 : Int32)), .val (.int (0 : Int32)), .val (.ref b4), .val (.ref b6), .unset] [(.int (1 : Int32))])
      refine Go.of (fun t k => XS.goto X9.here hx rfl (pc0 := 158) (pc' := 162) rfl (hb hby at_158) (by decide) (by decide) k) ?_
      show Go p e below Φ T9 (mkF m 162 #[.val (.long i0), .second, .val (.long i1), .second, .val (.int i2), .val (.long v13), .second, .val (.ref b2), .val (.ref b4), .val (.ref b6), .val (.int (1 : Int32)), .val (.int (0 : Int32)), .val (.int (0 : Int32)), .val (.ref b4), .val (.ref b6), .unset] [(.int (1 : Int32))])
      refine Go.of (fun t k => XS.istore X9.here hx rfl (hb hby at_162) rfl (l' := #[.val (.long i0), .second, .val (.long i1), .second, .val (.int i2), .val (.long v13), .second, .val (.ref b2), .val (.ref b4), .val (.ref b6), .val (.int (1 : Int32)), .val (.int (0 : Int32)), .val (.int (0 : Int32)), .val (.ref b4), .val (.ref b6), .unset]) rfl k) ?_
      show Go p e below Φ T9 (mkF m 164 #[.val (.long i0), .second, .val (.long i1), .second, .val (.int i2), .val (.long v13), .second, .val (.ref b2), .val (.ref b4), .val (.ref b6), .val (.int (1 : Int32)), .val (.int (0 : Int32)), .val (.int (0 : Int32)), .val (.ref b4), .val (.ref b6), .unset] [])
      refine Go.of (fun t k => XS.iconst X9.here hx rfl (hb hby at_164) k) ?_
      show Go p e below Φ T9 (mkF m 165 #[.val (.long i0), .second, .val (.long i1), .second, .val (.int i2), .val (.long v13), .second, .val (.ref b2), .val (.ref b4), .val (.ref b6), .val (.int (1 : Int32)), .val (.int (0 : Int32)), .val (.int (0 : Int32)), .val (.ref b4), .val (.ref b6), .unset] [(.int (0 : Int32))])
      refine Go.of (fun t k => XS.istore X9.here hx rfl (hb hby at_165) rfl (l' := #[.val (.long i0), .second, .val (.long i1), .second, .val (.int i2), .val (.long v13), .second, .val (.ref b2), .val (.ref b4), .val (.ref b6), .val (.int (1 : Int32)), .val (.int (0 : Int32)), .val (.int (0 : Int32)), .val (.ref b4), .val (.ref b6), .val (.int (0 : Int32))]) rfl k) ?_
      show Go p e below Φ T9 (mkF m 167 #[.val (.long i0), .second, .val (.long i1), .second, .val (.int i2), .val (.long v13), .second, .val (.ref b2), .val (.ref b4), .val (.ref b6), .val (.int (1 : Int32)), .val (.int (0 : Int32)), .val (.int (0 : Int32)), .val (.ref b4), .val (.ref b6), .val (.int (0 : Int32))] [])
      refine Go.of (fun t k => XS.iload X9.here hx rfl (hb hby at_167) rfl  k) ?_
      show Go p e below Φ T9 (mkF m 169 #[.val (.long i0), .second, .val (.long i1), .second, .val (.int i2), .val (.long v13), .second, .val (.ref b2), .val (.ref b4), .val (.ref b6), .val (.int (1 : Int32)), .val (.int (0 : Int32)), .val (.int (0 : Int32)), .val (.ref b4), .val (.ref b6), .val (.int (0 : Int32))] [(.int (0 : Int32))])
      refine Go.of (fun t k => XS.iconst X9.here hx rfl (hb hby at_169) k) ?_
      show Go p e below Φ T9 (mkF m 170 #[.val (.long i0), .second, .val (.long i1), .second, .val (.int i2), .val (.long v13), .second, .val (.ref b2), .val (.ref b4), .val (.ref b6), .val (.int (1 : Int32)), .val (.int (0 : Int32)), .val (.int (0 : Int32)), .val (.ref b4), .val (.ref b6), .val (.int (0 : Int32))] [(.int (1 : Int32)), (.int (0 : Int32))])
      refine Go.of (fun t k => XS.icmpYes X9.here hx rfl (pc0 := 170) (pc' := 192) rfl (hb hby at_170) rfl (XT.ii_lt_t (by decide)) (by decide) (by decide) k) ?_
      show Go p e below Φ T9 (mkF m 192 #[.val (.long i0), .second, .val (.long i1), .second, .val (.int i2), .val (.long v13), .second, .val (.ref b2), .val (.ref b4), .val (.ref b6), .val (.int (1 : Int32)), .val (.int (0 : Int32)), .val (.int (0 : Int32)), .val (.ref b4), .val (.ref b6), .val (.int (0 : Int32))] [])
      refine Go.of (fun t k => XS.iload X9.here hx rfl (hb hby at_192) rfl  k) ?_
      show Go p e below Φ T9 (mkF m 194 #[.val (.long i0), .second, .val (.long i1), .second, .val (.int i2), .val (.long v13), .second, .val (.ref b2), .val (.ref b4), .val (.ref b6), .val (.int (1 : Int32)), .val (.int (0 : Int32)), .val (.int (0 : Int32)), .val (.ref b4), .val (.ref b6), .val (.int (0 : Int32))] [(.int (0 : Int32))])
      refine Go.of (fun t k => XS.iconst X9.here hx rfl (hb hby at_194) k) ?_
      show Go p e below Φ T9 (mkF m 195 #[.val (.long i0), .second, .val (.long i1), .second, .val (.int i2), .val (.long v13), .second, .val (.ref b2), .val (.ref b4), .val (.ref b6), .val (.int (1 : Int32)), .val (.int (0 : Int32)), .val (.int (0 : Int32)), .val (.ref b4), .val (.ref b6), .val (.int (0 : Int32))] [(.int (2 : Int32)), (.int (0 : Int32))])
      refine Go.of (fun t k => XS.icmpYes X9.here hx rfl (pc0 := 195) (pc' := 217) rfl (hb hby at_195) rfl (XT.ii_lt_t (by decide)) (by decide) (by decide) k) ?_
      show Go p e below Φ T9 (mkF m 217 #[.val (.long i0), .second, .val (.long i1), .second, .val (.int i2), .val (.long v13), .second, .val (.ref b2), .val (.ref b4), .val (.ref b6), .val (.int (1 : Int32)), .val (.int (0 : Int32)), .val (.int (0 : Int32)), .val (.ref b4), .val (.ref b6), .val (.int (0 : Int32))] [])
      refine Go.of (fun t k => XS.iload X9.here hx rfl (hb hby at_217) rfl  k) ?_
      show Go p e below Φ T9 (mkF m 219 #[.val (.long i0), .second, .val (.long i1), .second, .val (.int i2), .val (.long v13), .second, .val (.ref b2), .val (.ref b4), .val (.ref b6), .val (.int (1 : Int32)), .val (.int (0 : Int32)), .val (.int (0 : Int32)), .val (.ref b4), .val (.ref b6), .val (.int (0 : Int32))] [(.int (1 : Int32))])
      refine Go.of (fun t k => XS.ifNo X9.here hx rfl (hb hby at_219) rfl (XT.i0_eq_f (by decide)) k) ?_
      show Go p e below Φ T9 (mkF m 222 #[.val (.long i0), .second, .val (.long i1), .second, .val (.int i2), .val (.long v13), .second, .val (.ref b2), .val (.ref b4), .val (.ref b6), .val (.int (1 : Int32)), .val (.int (0 : Int32)), .val (.int (0 : Int32)), .val (.ref b4), .val (.ref b6), .val (.int (0 : Int32))] [])
      refine Go.of (fun t k => XS.aload X9.here hx rfl (hb hby at_222) rfl rfl  k) ?_
      show Go p e below Φ T9 (mkF m 224 #[.val (.long i0), .second, .val (.long i1), .second, .val (.int i2), .val (.long v13), .second, .val (.ref b2), .val (.ref b4), .val (.ref b6), .val (.int (1 : Int32)), .val (.int (0 : Int32)), .val (.int (0 : Int32)), .val (.ref b4), .val (.ref b6), .val (.int (0 : Int32))] [(.ref b2)])
      obtain ⟨cq10, kq10, q10a, q10b, q10c⟩ := isOf hZ (e9q) E_b2
      obtain ⟨_, _, ⟨T10, L10, k10, n10⟩, -, X10, ⟨Lc10, hQ10, l10, y10, z10⟩, st10⟩ := X9.virtualBack hx (y := (⟨"com/example/demarq/demarq/broker/SortedMessages", "isEmpty", "()Z"⟩ : MethodName)) (z := (⟨"com/example/demarq/demarq/broker/SortedMessages", "isEmpty", "()Z"⟩ : MethodName)) hown (mvT hZ (hw _ (List.mem_of_getElem? (i := 26) rfl))) (mvT hZ (hw _ (List.mem_of_getElem? (i := 27) rfl))) (notFace_of_selects (args := #[]) (mvT hZ (hw _ (List.mem_of_getElem? (i := 29) rfl)))) (mvT hZ (hw _ (List.mem_of_getElem? (i := 29) rfl))) (mvT hZ (hw _ (List.mem_of_getElem? (i := 28) rfl))) (by decide) (backOf (W := 0) (rm4z l Z a0 hw [] b2 T7.heap n0 Z7 F_b2_size) hZ (hw _ (List.mem_of_getElem? (i := 30) rfl)) (hw _ (List.mem_of_getElem? (i := 2) rfl)) (by decide) (by decide)) q10a q10c (g := (mkF m 224 #[.val (.long i0), .second, .val (.long i1), .second, .val (.int i2), .val (.long v13), .second, .val (.ref b2), .val (.ref b4), .val (.ref b6), .val (.int (1 : Int32)), .val (.int (0 : Int32)), .val (.int (0 : Int32)), .val (.ref b4), .val (.ref b6), .val (.int (0 : Int32))] [(.ref b2)])) rfl (by rw [hml]; rfl) (Steps.refl _) (argsL := []) (rest := []) (lenOf own_pd9 rfl) rfl (by show 2 * 0 + _ ≤ _; exact Nat.le_of_eq rfl) (hb hby at_224) (fun _ _ => ⟨rfl, (e9q), (by decide : 4 + 0 ≤ _), (by decide : 27 + 0 ≤ _)⟩)
      dsimp only [Pt.U, Pt.locs, Pt.cells, Pt.slots] at X10 l10 y10 z10 st10 hQ10
      subst l10 y10 z10
      obtain ⟨rfl, N10q, e10q⟩ := hQ10
      have N10 := Fr.app N9 N10q
      obtain ⟨lc10, X10, N10⟩ : ∃ lc, Stand p l e room_1 s m #[(.long i0), (.long i1), (.int i2)] below meth c T10 lc 4 27 ∧ Fr n0 lc := ⟨_, X10, N10⟩
      refine Go.tr st10 ?_
      show Go p e below Φ T10 (mkF m 227 #[.val (.long i0), .second, .val (.long i1), .second, .val (.int i2), .val (.long v13), .second, .val (.ref b2), .val (.ref b4), .val (.ref b6), .val (.int (1 : Int32)), .val (.int (0 : Int32)), .val (.int (0 : Int32)), .val (.ref b4), .val (.ref b6), .val (.int (0 : Int32))] [(.int (1 : Int32))])
      refine Go.of (fun t k => XS.iload X10.here hx rfl (hb hby at_227) rfl  k) ?_
      show Go p e below Φ T10 (mkF m 229 #[.val (.long i0), .second, .val (.long i1), .second, .val (.int i2), .val (.long v13), .second, .val (.ref b2), .val (.ref b4), .val (.ref b6), .val (.int (1 : Int32)), .val (.int (0 : Int32)), .val (.int (0 : Int32)), .val (.ref b4), .val (.ref b6), .val (.int (0 : Int32))] [(.int (0 : Int32)), (.int (1 : Int32))])
      refine Go.of (fun t k => XS.iload X10.here hx rfl (hb hby at_229) rfl  k) ?_
      show Go p e below Φ T10 (mkF m 231 #[.val (.long i0), .second, .val (.long i1), .second, .val (.int i2), .val (.long v13), .second, .val (.ref b2), .val (.ref b4), .val (.ref b6), .val (.int (1 : Int32)), .val (.int (0 : Int32)), .val (.int (0 : Int32)), .val (.ref b4), .val (.ref b6), .val (.int (0 : Int32))] [(.int (0 : Int32)), (.int (0 : Int32)), (.int (1 : Int32))])
      refine Go.of (fun t k => XS.isub X10.here hx rfl (hb hby at_231) rfl k) ?_
      show Go p e below Φ T10 (mkF m 232 #[.val (.long i0), .second, .val (.long i1), .second, .val (.int i2), .val (.long v13), .second, .val (.ref b2), .val (.ref b4), .val (.ref b6), .val (.int (1 : Int32)), .val (.int (0 : Int32)), .val (.int (0 : Int32)), .val (.ref b4), .val (.ref b6), .val (.int (0 : Int32))] [(.int (0 : Int32)), (.int (1 : Int32))])
      refine Go.of (fun t k => XS.ifNo X10.here hx rfl (hb hby at_232) rfl (XT.i0_ne_f rfl) k) ?_
      show Go p e below Φ T10 (mkF m 235 #[.val (.long i0), .second, .val (.long i1), .second, .val (.int i2), .val (.long v13), .second, .val (.ref b2), .val (.ref b4), .val (.ref b6), .val (.int (1 : Int32)), .val (.int (0 : Int32)), .val (.int (0 : Int32)), .val (.ref b4), .val (.ref b6), .val (.int (0 : Int32))] [(.int (1 : Int32))])
      refine Go.of (fun t k => XS.iconst X10.here hx rfl (hb hby at_235) k) ?_
      show Go p e below Φ T10 (mkF m 236 #[.val (.long i0), .second, .val (.long i1), .second, .val (.int i2), .val (.long v13), .second, .val (.ref b2), .val (.ref b4), .val (.ref b6), .val (.int (1 : Int32)), .val (.int (0 : Int32)), .val (.int (0 : Int32)), .val (.ref b4), .val (.ref b6), .val (.int (0 : Int32))] [(.int (1 : Int32)), (.int (1 : Int32))])
      refine Go.of (fun t k => XS.goto X10.here hx rfl (pc0 := 236) (pc' := 240) rfl (hb hby at_236) (by decide) (by decide) k) ?_
      show Go p e below Φ T10 (mkF m 240 #[.val (.long i0), .second, .val (.long i1), .second, .val (.int i2), .val (.long v13), .second, .val (.ref b2), .val (.ref b4), .val (.ref b6), .val (.int (1 : Int32)), .val (.int (0 : Int32)), .val (.int (0 : Int32)), .val (.ref b4), .val (.ref b6), .val (.int (0 : Int32))] [(.int (1 : Int32)), (.int (1 : Int32))])
      refine Go.of (fun t k => XS.icmpNo X10.here hx rfl (hb hby at_240) rfl (XT.ii_ne_f rfl) k) ?_
      show Go p e below Φ T10 (mkF m 243 #[.val (.long i0), .second, .val (.long i1), .second, .val (.int i2), .val (.long v13), .second, .val (.ref b2), .val (.ref b4), .val (.ref b6), .val (.int (1 : Int32)), .val (.int (0 : Int32)), .val (.int (0 : Int32)), .val (.ref b4), .val (.ref b6), .val (.int (0 : Int32))] [])
      refine Go.of (fun t k => XS.iconst X10.here hx rfl (hb hby at_243) k) ?_
      show Go p e below Φ T10 (mkF m 244 #[.val (.long i0), .second, .val (.long i1), .second, .val (.int i2), .val (.long v13), .second, .val (.ref b2), .val (.ref b4), .val (.ref b6), .val (.int (1 : Int32)), .val (.int (0 : Int32)), .val (.int (0 : Int32)), .val (.ref b4), .val (.ref b6), .val (.int (0 : Int32))] [(.int (1 : Int32))])
      refine Go.of (fun t k => XS.goto X10.here hx rfl (pc0 := 244) (pc' := 248) rfl (hb hby at_244) (by decide) (by decide) k) ?_
      show Go p e below Φ T10 (mkF m 248 #[.val (.long i0), .second, .val (.long i1), .second, .val (.int i2), .val (.long v13), .second, .val (.ref b2), .val (.ref b4), .val (.ref b6), .val (.int (1 : Int32)), .val (.int (0 : Int32)), .val (.int (0 : Int32)), .val (.ref b4), .val (.ref b6), .val (.int (0 : Int32))] [(.int (1 : Int32))])
      refine Go.of (fun t k => XS.istore X10.here hx rfl (hb hby at_248) rfl (l' := #[.val (.long i0), .second, .val (.long i1), .second, .val (.int i2), .val (.long v13), .second, .val (.ref b2), .val (.ref b4), .val (.ref b6), .val (.int (1 : Int32)), .val (.int (0 : Int32)), .val (.int (0 : Int32)), .val (.ref b4), .val (.ref b6), .val (.int (0 : Int32))]) rfl k) ?_
      show Go p e below Φ T10 (mkF m 250 #[.val (.long i0), .second, .val (.long i1), .second, .val (.int i2), .val (.long v13), .second, .val (.ref b2), .val (.ref b4), .val (.ref b6), .val (.int (1 : Int32)), .val (.int (0 : Int32)), .val (.int (0 : Int32)), .val (.ref b4), .val (.ref b6), .val (.int (0 : Int32))] [])
      refine Go.of (fun t k => XS.iload X10.here hx rfl (hb hby at_250) rfl  k) ?_
      show Go p e below Φ T10 (mkF m 252 #[.val (.long i0), .second, .val (.long i1), .second, .val (.int i2), .val (.long v13), .second, .val (.ref b2), .val (.ref b4), .val (.ref b6), .val (.int (1 : Int32)), .val (.int (0 : Int32)), .val (.int (0 : Int32)), .val (.ref b4), .val (.ref b6), .val (.int (0 : Int32))] [(.int (1 : Int32))])
      rw [hΦ]
      refine Go.ret X10 hx Bd.notSynchronized Bd.returns rfl (Or.inl ⟨rfl, Or.inr (Or.inl rfl), _, rfl⟩) (hb hby at_252) (by decide) (by decide) ?_
      rw [(e10q)]
      exact ⟨rfl, N10⟩
    · refine Go.of (fun t k => XS.ifNo X8.here hx rfl (hb hby at_70) rfl (XT.i0_eq_f hc70) k) ?_
      show Go p e below Φ T8 (mkF m 73 #[.val (.long i0), .second, .val (.long i1), .second, .val (.int i2), .val (.long v13), .second, .val (.ref b2), .val (.ref b4), .val (.ref b6), .val (.int (1 : Int32)), .val (.int (0 : Int32)), .unset, .unset, .unset, .unset] [])
      refine Go.of (fun t k => XS.iconst X8.here hx rfl (hb hby at_73) k) ?_
      show Go p e below Φ T8 (mkF m 74 #[.val (.long i0), .second, .val (.long i1), .second, .val (.int i2), .val (.long v13), .second, .val (.ref b2), .val (.ref b4), .val (.ref b6), .val (.int (1 : Int32)), .val (.int (0 : Int32)), .unset, .unset, .unset, .unset] [(.int (1 : Int32))])
      refine Go.of (fun t k => XS.goto X8.here hx rfl (pc0 := 74) (pc' := 78) rfl (hb hby at_74) (by decide) (by decide) k) ?_
      show Go p e below Φ T8 (mkF m 78 #[.val (.long i0), .second, .val (.long i1), .second, .val (.int i2), .val (.long v13), .second, .val (.ref b2), .val (.ref b4), .val (.ref b6), .val (.int (1 : Int32)), .val (.int (0 : Int32)), .unset, .unset, .unset, .unset] [(.int (1 : Int32))])
      refine Go.of (fun t k => XS.istore X8.here hx rfl (hb hby at_78) rfl (l' := #[.val (.long i0), .second, .val (.long i1), .second, .val (.int i2), .val (.long v13), .second, .val (.ref b2), .val (.ref b4), .val (.ref b6), .val (.int (1 : Int32)), .val (.int (0 : Int32)), .val (.int (1 : Int32)), .unset, .unset, .unset]) rfl k) ?_
      show Go p e below Φ T8 (mkF m 80 #[.val (.long i0), .second, .val (.long i1), .second, .val (.int i2), .val (.long v13), .second, .val (.ref b2), .val (.ref b4), .val (.ref b6), .val (.int (1 : Int32)), .val (.int (0 : Int32)), .val (.int (1 : Int32)), .unset, .unset, .unset] [])
      refine Go.of (fun t k => XS.iload X8.here hx rfl (hb hby at_80) rfl  k) ?_
      show Go p e below Φ T8 (mkF m 82 #[.val (.long i0), .second, .val (.long i1), .second, .val (.int i2), .val (.long v13), .second, .val (.ref b2), .val (.ref b4), .val (.ref b6), .val (.int (1 : Int32)), .val (.int (0 : Int32)), .val (.int (1 : Int32)), .unset, .unset, .unset] [(.int (1 : Int32))])
      refine Go.of (fun t k => XS.ifNo X8.here hx rfl (hb hby at_82) rfl (XT.i0_eq_f (by decide)) k) ?_
      show Go p e below Φ T8 (mkF m 85 #[.val (.long i0), .second, .val (.long i1), .second, .val (.int i2), .val (.long v13), .second, .val (.ref b2), .val (.ref b4), .val (.ref b6), .val (.int (1 : Int32)), .val (.int (0 : Int32)), .val (.int (1 : Int32)), .unset, .unset, .unset] [])
      refine Go.of (fun t k => XS.aload X8.here hx rfl (hb hby at_85) rfl rfl  k) ?_
      show Go p e below Φ T8 (mkF m 87 #[.val (.long i0), .second, .val (.long i1), .second, .val (.int i2), .val (.long v13), .second, .val (.ref b2), .val (.ref b4), .val (.ref b6), .val (.int (1 : Int32)), .val (.int (0 : Int32)), .val (.int (1 : Int32)), .unset, .unset, .unset] [(.ref b6)])
      refine Go.of (fun t k => XS.goto X8.here hx rfl (pc0 := 87) (pc' := 92) rfl (hb hby at_87) (by decide) (by decide) k) ?_
      show Go p e below Φ T8 (mkF m 92 #[.val (.long i0), .second, .val (.long i1), .second, .val (.int i2), .val (.long v13), .second, .val (.ref b2), .val (.ref b4), .val (.ref b6), .val (.int (1 : Int32)), .val (.int (0 : Int32)), .val (.int (1 : Int32)), .unset, .unset, .unset] [(.ref b6)])
      refine Go.of (fun t k => XS.astore X8.here hx rfl (hb hby at_92) rfl rfl (l' := #[.val (.long i0), .second, .val (.long i1), .second, .val (.int i2), .val (.long v13), .second, .val (.ref b2), .val (.ref b4), .val (.ref b6), .val (.int (1 : Int32)), .val (.int (0 : Int32)), .val (.int (1 : Int32)), .val (.ref b6), .unset, .unset]) rfl k) ?_
      show Go p e below Φ T8 (mkF m 94 #[.val (.long i0), .second, .val (.long i1), .second, .val (.int i2), .val (.long v13), .second, .val (.ref b2), .val (.ref b4), .val (.ref b6), .val (.int (1 : Int32)), .val (.int (0 : Int32)), .val (.int (1 : Int32)), .val (.ref b6), .unset, .unset] [])
      refine Go.of (fun t k => XS.iload X8.here hx rfl (hb hby at_94) rfl  k) ?_
      show Go p e below Φ T8 (mkF m 96 #[.val (.long i0), .second, .val (.long i1), .second, .val (.int i2), .val (.long v13), .second, .val (.ref b2), .val (.ref b4), .val (.ref b6), .val (.int (1 : Int32)), .val (.int (0 : Int32)), .val (.int (1 : Int32)), .val (.ref b6), .unset, .unset] [(.int (1 : Int32))])
      refine Go.of (fun t k => XS.ifNo X8.here hx rfl (hb hby at_96) rfl (XT.i0_eq_f (by decide)) k) ?_
      show Go p e below Φ T8 (mkF m 99 #[.val (.long i0), .second, .val (.long i1), .second, .val (.int i2), .val (.long v13), .second, .val (.ref b2), .val (.ref b4), .val (.ref b6), .val (.int (1 : Int32)), .val (.int (0 : Int32)), .val (.int (1 : Int32)), .val (.ref b6), .unset, .unset] [])
      refine Go.of (fun t k => XS.aload X8.here hx rfl (hb hby at_99) rfl rfl  k) ?_
      show Go p e below Φ T8 (mkF m 101 #[.val (.long i0), .second, .val (.long i1), .second, .val (.int i2), .val (.long v13), .second, .val (.ref b2), .val (.ref b4), .val (.ref b6), .val (.int (1 : Int32)), .val (.int (0 : Int32)), .val (.int (1 : Int32)), .val (.ref b6), .unset, .unset] [(.ref b4)])
      refine Go.of (fun t k => XS.goto X8.here hx rfl (pc0 := 101) (pc' := 106) rfl (hb hby at_101) (by decide) (by decide) k) ?_
      show Go p e below Φ T8 (mkF m 106 #[.val (.long i0), .second, .val (.long i1), .second, .val (.int i2), .val (.long v13), .second, .val (.ref b2), .val (.ref b4), .val (.ref b6), .val (.int (1 : Int32)), .val (.int (0 : Int32)), .val (.int (1 : Int32)), .val (.ref b6), .unset, .unset] [(.ref b4)])
      refine Go.of (fun t k => XS.astore X8.here hx rfl (hb hby at_106) rfl rfl (l' := #[.val (.long i0), .second, .val (.long i1), .second, .val (.int i2), .val (.long v13), .second, .val (.ref b2), .val (.ref b4), .val (.ref b6), .val (.int (1 : Int32)), .val (.int (0 : Int32)), .val (.int (1 : Int32)), .val (.ref b6), .val (.ref b4), .unset]) rfl k) ?_
      show Go p e below Φ T8 (mkF m 108 #[.val (.long i0), .second, .val (.long i1), .second, .val (.int i2), .val (.long v13), .second, .val (.ref b2), .val (.ref b4), .val (.ref b6), .val (.int (1 : Int32)), .val (.int (0 : Int32)), .val (.int (1 : Int32)), .val (.ref b6), .val (.ref b4), .unset] [])
      refine Go.of (fun t k => XS.iload X8.here hx rfl (hb hby at_108) rfl  k) ?_
      show Go p e below Φ T8 (mkF m 110 #[.val (.long i0), .second, .val (.long i1), .second, .val (.int i2), .val (.long v13), .second, .val (.ref b2), .val (.ref b4), .val (.ref b6), .val (.int (1 : Int32)), .val (.int (0 : Int32)), .val (.int (1 : Int32)), .val (.ref b6), .val (.ref b4), .unset] [(.int (0 : Int32))])
      refine Go.of (fun t k => XS.iconst X8.here hx rfl (hb hby at_110) k) ?_
      show Go p e below Φ T8 (mkF m 111 #[.val (.long i0), .second, .val (.long i1), .second, .val (.int i2), .val (.long v13), .second, .val (.ref b2), .val (.ref b4), .val (.ref b6), .val (.int (1 : Int32)), .val (.int (0 : Int32)), .val (.int (1 : Int32)), .val (.ref b6), .val (.ref b4), .unset] [(.int (1 : Int32)), (.int (0 : Int32))])
      refine Go.of (fun t k => XS.icmpYes X8.here hx rfl (pc0 := 111) (pc' := 121) rfl (hb hby at_111) rfl (XT.ii_lt_t (by decide)) (by decide) (by decide) k) ?_
      show Go p e below Φ T8 (mkF m 121 #[.val (.long i0), .second, .val (.long i1), .second, .val (.int i2), .val (.long v13), .second, .val (.ref b2), .val (.ref b4), .val (.ref b6), .val (.int (1 : Int32)), .val (.int (0 : Int32)), .val (.int (1 : Int32)), .val (.ref b6), .val (.ref b4), .unset] [])
      refine Go.of (fun t k => XS.iload X8.here hx rfl (hb hby at_121) rfl  k) ?_
      show Go p e below Φ T8 (mkF m 123 #[.val (.long i0), .second, .val (.long i1), .second, .val (.int i2), .val (.long v13), .second, .val (.ref b2), .val (.ref b4), .val (.ref b6), .val (.int (1 : Int32)), .val (.int (0 : Int32)), .val (.int (1 : Int32)), .val (.ref b6), .val (.ref b4), .unset] [(.int (0 : Int32))])
      refine Go.of (fun t k => XS.iconst X8.here hx rfl (hb hby at_123) k) ?_
      show Go p e below Φ T8 (mkF m 124 #[.val (.long i0), .second, .val (.long i1), .second, .val (.int i2), .val (.long v13), .second, .val (.ref b2), .val (.ref b4), .val (.ref b6), .val (.int (1 : Int32)), .val (.int (0 : Int32)), .val (.int (1 : Int32)), .val (.ref b6), .val (.ref b4), .unset] [(.int (2 : Int32)), (.int (0 : Int32))])
      refine Go.of (fun t k => XS.icmpYes X8.here hx rfl (pc0 := 124) (pc' := 134) rfl (hb hby at_124) rfl (XT.ii_lt_t (by decide)) (by decide) (by decide) k) ?_
      show Go p e below Φ T8 (mkF m 134 #[.val (.long i0), .second, .val (.long i1), .second, .val (.int i2), .val (.long v13), .second, .val (.ref b2), .val (.ref b4), .val (.ref b6), .val (.int (1 : Int32)), .val (.int (0 : Int32)), .val (.int (1 : Int32)), .val (.ref b6), .val (.ref b4), .unset] [])
      refine Go.of (fun t k => XS.iload X8.here hx rfl (hb hby at_134) rfl  k) ?_
      show Go p e below Φ T8 (mkF m 136 #[.val (.long i0), .second, .val (.long i1), .second, .val (.int i2), .val (.long v13), .second, .val (.ref b2), .val (.ref b4), .val (.ref b6), .val (.int (1 : Int32)), .val (.int (0 : Int32)), .val (.int (1 : Int32)), .val (.ref b6), .val (.ref b4), .unset] [(.int (1 : Int32))])
      refine Go.of (fun t k => XS.ifNo X8.here hx rfl (hb hby at_136) rfl (XT.i0_eq_f (by decide)) k) ?_
      show Go p e below Φ T8 (mkF m 139 #[.val (.long i0), .second, .val (.long i1), .second, .val (.int i2), .val (.long v13), .second, .val (.ref b2), .val (.ref b4), .val (.ref b6), .val (.int (1 : Int32)), .val (.int (0 : Int32)), .val (.int (1 : Int32)), .val (.ref b6), .val (.ref b4), .unset] [])
      refine Go.of (fun t k => XS.aload X8.here hx rfl (hb hby at_139) rfl rfl  k) ?_
      show Go p e below Φ T8 (mkF m 141 #[.val (.long i0), .second, .val (.long i1), .second, .val (.int i2), .val (.long v13), .second, .val (.ref b2), .val (.ref b4), .val (.ref b6), .val (.int (1 : Int32)), .val (.int (0 : Int32)), .val (.int (1 : Int32)), .val (.ref b6), .val (.ref b4), .unset] [(.ref b2)])
      obtain ⟨cq11, kq11, q11a, q11b, q11c⟩ := isOf hZ (e8q) E_b2
      obtain ⟨_, _, ⟨T11, L11, k11, n11⟩, -, X11, ⟨Lc11, hQ11, l11, y11, z11⟩, st11⟩ := X8.virtualBack hx (y := (⟨"com/example/demarq/demarq/broker/SortedMessages", "isEmpty", "()Z"⟩ : MethodName)) (z := (⟨"com/example/demarq/demarq/broker/SortedMessages", "isEmpty", "()Z"⟩ : MethodName)) hown (mvT hZ (hw _ (List.mem_of_getElem? (i := 26) rfl))) (mvT hZ (hw _ (List.mem_of_getElem? (i := 27) rfl))) (notFace_of_selects (args := #[]) (mvT hZ (hw _ (List.mem_of_getElem? (i := 29) rfl)))) (mvT hZ (hw _ (List.mem_of_getElem? (i := 29) rfl))) (mvT hZ (hw _ (List.mem_of_getElem? (i := 28) rfl))) (by decide) (backOf (W := 0) (rm4z l Z a0 hw [] b2 T7.heap n0 Z7 F_b2_size) hZ (hw _ (List.mem_of_getElem? (i := 30) rfl)) (hw _ (List.mem_of_getElem? (i := 2) rfl)) (by decide) (by decide)) q11a q11c (g := (mkF m 141 #[.val (.long i0), .second, .val (.long i1), .second, .val (.int i2), .val (.long v13), .second, .val (.ref b2), .val (.ref b4), .val (.ref b6), .val (.int (1 : Int32)), .val (.int (0 : Int32)), .val (.int (1 : Int32)), .val (.ref b6), .val (.ref b4), .unset] [(.ref b2)])) rfl (by rw [hml]; rfl) (Steps.refl _) (argsL := []) (rest := []) (lenOf own_pd9 rfl) rfl (by show 2 * 0 + _ ≤ _; exact Nat.le_of_eq rfl) (hb hby at_141) (fun _ _ => ⟨rfl, (e8q), (by decide : 4 + 0 ≤ _), (by decide : 27 + 0 ≤ _)⟩)
      dsimp only [Pt.U, Pt.locs, Pt.cells, Pt.slots] at X11 l11 y11 z11 st11 hQ11
      subst l11 y11 z11
      obtain ⟨rfl, N11q, e11q⟩ := hQ11
      have N11 := Fr.app N8 N11q
      obtain ⟨lc11, X11, N11⟩ : ∃ lc, Stand p l e room_1 s m #[(.long i0), (.long i1), (.int i2)] below meth c T11 lc 4 27 ∧ Fr n0 lc := ⟨_, X11, N11⟩
      refine Go.tr st11 ?_
      show Go p e below Φ T11 (mkF m 144 #[.val (.long i0), .second, .val (.long i1), .second, .val (.int i2), .val (.long v13), .second, .val (.ref b2), .val (.ref b4), .val (.ref b6), .val (.int (1 : Int32)), .val (.int (0 : Int32)), .val (.int (1 : Int32)), .val (.ref b6), .val (.ref b4), .unset] [(.int (1 : Int32))])
      refine Go.of (fun t k => XS.iload X11.here hx rfl (hb hby at_144) rfl  k) ?_
      show Go p e below Φ T11 (mkF m 146 #[.val (.long i0), .second, .val (.long i1), .second, .val (.int i2), .val (.long v13), .second, .val (.ref b2), .val (.ref b4), .val (.ref b6), .val (.int (1 : Int32)), .val (.int (0 : Int32)), .val (.int (1 : Int32)), .val (.ref b6), .val (.ref b4), .unset] [(.int (0 : Int32)), (.int (1 : Int32))])
      refine Go.of (fun t k => XS.ifNo X11.here hx rfl (hb hby at_146) rfl (XT.i0_ne_f rfl) k) ?_
      show Go p e below Φ T11 (mkF m 149 #[.val (.long i0), .second, .val (.long i1), .second, .val (.int i2), .val (.long v13), .second, .val (.ref b2), .val (.ref b4), .val (.ref b6), .val (.int (1 : Int32)), .val (.int (0 : Int32)), .val (.int (1 : Int32)), .val (.ref b6), .val (.ref b4), .unset] [(.int (1 : Int32))])
      refine Go.of (fun t k => XS.iconst X11.here hx rfl (hb hby at_149) k) ?_
      show Go p e below Φ T11 (mkF m 150 #[.val (.long i0), .second, .val (.long i1), .second, .val (.int i2), .val (.long v13), .second, .val (.ref b2), .val (.ref b4), .val (.ref b6), .val (.int (1 : Int32)), .val (.int (0 : Int32)), .val (.int (1 : Int32)), .val (.ref b6), .val (.ref b4), .unset] [(.int (1 : Int32)), (.int (1 : Int32))])
      refine Go.of (fun t k => XS.goto X11.here hx rfl (pc0 := 150) (pc' := 154) rfl (hb hby at_150) (by decide) (by decide) k) ?_
      show Go p e below Φ T11 (mkF m 154 #[.val (.long i0), .second, .val (.long i1), .second, .val (.int i2), .val (.long v13), .second, .val (.ref b2), .val (.ref b4), .val (.ref b6), .val (.int (1 : Int32)), .val (.int (0 : Int32)), .val (.int (1 : Int32)), .val (.ref b6), .val (.ref b4), .unset] [(.int (1 : Int32)), (.int (1 : Int32))])
      refine Go.of (fun t k => XS.icmpNo X11.here hx rfl (hb hby at_154) rfl (XT.ii_ne_f rfl) k) ?_
      show Go p e below Φ T11 (mkF m 157 #[.val (.long i0), .second, .val (.long i1), .second, .val (.int i2), .val (.long v13), .second, .val (.ref b2), .val (.ref b4), .val (.ref b6), .val (.int (1 : Int32)), .val (.int (0 : Int32)), .val (.int (1 : Int32)), .val (.ref b6), .val (.ref b4), .unset] [])
      refine Go.of (fun t k => XS.iconst X11.here hx rfl (hb hby at_157) k) ?_
      show Go p e below Φ T11 (mkF m 158 #[.val (.long i0), .second, .val (.long i1), .second, .val (.int i2), .val (.long v13), .second, .val (.ref b2), .val (.ref b4), .val (.ref b6), .val (.int (1 : Int32)), .val (.int (0 : Int32)), .val (.int (1 : Int32)), .val (.ref b6), .val (.ref b4), .unset] [(.int (1 : Int32))])
      refine Go.of (fun t k => XS.goto X11.here hx rfl (pc0 := 158) (pc' := 162) rfl (hb hby at_158) (by decide) (by decide) k) ?_
      show Go p e below Φ T11 (mkF m 162 #[.val (.long i0), .second, .val (.long i1), .second, .val (.int i2), .val (.long v13), .second, .val (.ref b2), .val (.ref b4), .val (.ref b6), .val (.int (1 : Int32)), .val (.int (0 : Int32)), .val (.int (1 : Int32)), .val (.ref b6), .val (.ref b4), .unset] [(.int (1 : Int32))])
      refine Go.of (fun t k => XS.istore X11.here hx rfl (hb hby at_162) rfl (l' := #[.val (.long i0), .second, .val (.long i1), .second, .val (.int i2), .val (.long v13), .second, .val (.ref b2), .val (.ref b4), .val (.ref b6), .val (.int (1 : Int32)), .val (.int (0 : Int32)), .val (.int (1 : Int32)), .val (.ref b6), .val (.ref b4), .unset]) rfl k) ?_
      show Go p e below Φ T11 (mkF m 164 #[.val (.long i0), .second, .val (.long i1), .second, .val (.int i2), .val (.long v13), .second, .val (.ref b2), .val (.ref b4), .val (.ref b6), .val (.int (1 : Int32)), .val (.int (0 : Int32)), .val (.int (1 : Int32)), .val (.ref b6), .val (.ref b4), .unset] [])
      refine Go.of (fun t k => XS.iconst X11.here hx rfl (hb hby at_164) k) ?_
      show Go p e below Φ T11 (mkF m 165 #[.val (.long i0), .second, .val (.long i1), .second, .val (.int i2), .val (.long v13), .second, .val (.ref b2), .val (.ref b4), .val (.ref b6), .val (.int (1 : Int32)), .val (.int (0 : Int32)), .val (.int (1 : Int32)), .val (.ref b6), .val (.ref b4), .unset] [(.int (0 : Int32))])
      refine Go.of (fun t k => XS.istore X11.here hx rfl (hb hby at_165) rfl (l' := #[.val (.long i0), .second, .val (.long i1), .second, .val (.int i2), .val (.long v13), .second, .val (.ref b2), .val (.ref b4), .val (.ref b6), .val (.int (1 : Int32)), .val (.int (0 : Int32)), .val (.int (1 : Int32)), .val (.ref b6), .val (.ref b4), .val (.int (0 : Int32))]) rfl k) ?_
      show Go p e below Φ T11 (mkF m 167 #[.val (.long i0), .second, .val (.long i1), .second, .val (.int i2), .val (.long v13), .second, .val (.ref b2), .val (.ref b4), .val (.ref b6), .val (.int (1 : Int32)), .val (.int (0 : Int32)), .val (.int (1 : Int32)), .val (.ref b6), .val (.ref b4), .val (.int (0 : Int32))] [])
      refine Go.of (fun t k => XS.iload X11.here hx rfl (hb hby at_167) rfl  k) ?_
      show Go p e below Φ T11 (mkF m 169 #[.val (.long i0), .second, .val (.long i1), .second, .val (.int i2), .val (.long v13), .second, .val (.ref b2), .val (.ref b4), .val (.ref b6), .val (.int (1 : Int32)), .val (.int (0 : Int32)), .val (.int (1 : Int32)), .val (.ref b6), .val (.ref b4), .val (.int (0 : Int32))] [(.int (0 : Int32))])
      refine Go.of (fun t k => XS.iconst X11.here hx rfl (hb hby at_169) k) ?_
      show Go p e below Φ T11 (mkF m 170 #[.val (.long i0), .second, .val (.long i1), .second, .val (.int i2), .val (.long v13), .second, .val (.ref b2), .val (.ref b4), .val (.ref b6), .val (.int (1 : Int32)), .val (.int (0 : Int32)), .val (.int (1 : Int32)), .val (.ref b6), .val (.ref b4), .val (.int (0 : Int32))] [(.int (1 : Int32)), (.int (0 : Int32))])
      refine Go.of (fun t k => XS.icmpYes X11.here hx rfl (pc0 := 170) (pc' := 192) rfl (hb hby at_170) rfl (XT.ii_lt_t (by decide)) (by decide) (by decide) k) ?_
      show Go p e below Φ T11 (mkF m 192 #[.val (.long i0), .second, .val (.long i1), .second, .val (.int i2), .val (.long v13), .second, .val (.ref b2), .val (.ref b4), .val (.ref b6), .val (.int (1 : Int32)), .val (.int (0 : Int32)), .val (.int (1 : Int32)), .val (.ref b6), .val (.ref b4), .val (.int (0 : Int32))] [])
      refine Go.of (fun t k => XS.iload X11.here hx rfl (hb hby at_192) rfl  k) ?_
      show Go p e below Φ T11 (mkF m 194 #[.val (.long i0), .second, .val (.long i1), .second, .val (.int i2), .val (.long v13), .second, .val (.ref b2), .val (.ref b4), .val (.ref b6), .val (.int (1 : Int32)), .val (.int (0 : Int32)), .val (.int (1 : Int32)), .val (.ref b6), .val (.ref b4), .val (.int (0 : Int32))] [(.int (0 : Int32))])
      refine Go.of (fun t k => XS.iconst X11.here hx rfl (hb hby at_194) k) ?_
      show Go p e below Φ T11 (mkF m 195 #[.val (.long i0), .second, .val (.long i1), .second, .val (.int i2), .val (.long v13), .second, .val (.ref b2), .val (.ref b4), .val (.ref b6), .val (.int (1 : Int32)), .val (.int (0 : Int32)), .val (.int (1 : Int32)), .val (.ref b6), .val (.ref b4), .val (.int (0 : Int32))] [(.int (2 : Int32)), (.int (0 : Int32))])
      refine Go.of (fun t k => XS.icmpYes X11.here hx rfl (pc0 := 195) (pc' := 217) rfl (hb hby at_195) rfl (XT.ii_lt_t (by decide)) (by decide) (by decide) k) ?_
      show Go p e below Φ T11 (mkF m 217 #[.val (.long i0), .second, .val (.long i1), .second, .val (.int i2), .val (.long v13), .second, .val (.ref b2), .val (.ref b4), .val (.ref b6), .val (.int (1 : Int32)), .val (.int (0 : Int32)), .val (.int (1 : Int32)), .val (.ref b6), .val (.ref b4), .val (.int (0 : Int32))] [])
      refine Go.of (fun t k => XS.iload X11.here hx rfl (hb hby at_217) rfl  k) ?_
      show Go p e below Φ T11 (mkF m 219 #[.val (.long i0), .second, .val (.long i1), .second, .val (.int i2), .val (.long v13), .second, .val (.ref b2), .val (.ref b4), .val (.ref b6), .val (.int (1 : Int32)), .val (.int (0 : Int32)), .val (.int (1 : Int32)), .val (.ref b6), .val (.ref b4), .val (.int (0 : Int32))] [(.int (1 : Int32))])
      refine Go.of (fun t k => XS.ifNo X11.here hx rfl (hb hby at_219) rfl (XT.i0_eq_f (by decide)) k) ?_
      show Go p e below Φ T11 (mkF m 222 #[.val (.long i0), .second, .val (.long i1), .second, .val (.int i2), .val (.long v13), .second, .val (.ref b2), .val (.ref b4), .val (.ref b6), .val (.int (1 : Int32)), .val (.int (0 : Int32)), .val (.int (1 : Int32)), .val (.ref b6), .val (.ref b4), .val (.int (0 : Int32))] [])
      refine Go.of (fun t k => XS.aload X11.here hx rfl (hb hby at_222) rfl rfl  k) ?_
      show Go p e below Φ T11 (mkF m 224 #[.val (.long i0), .second, .val (.long i1), .second, .val (.int i2), .val (.long v13), .second, .val (.ref b2), .val (.ref b4), .val (.ref b6), .val (.int (1 : Int32)), .val (.int (0 : Int32)), .val (.int (1 : Int32)), .val (.ref b6), .val (.ref b4), .val (.int (0 : Int32))] [(.ref b2)])
      obtain ⟨cq12, kq12, q12a, q12b, q12c⟩ := isOf hZ (e11q) E_b2
      obtain ⟨_, _, ⟨T12, L12, k12, n12⟩, -, X12, ⟨Lc12, hQ12, l12, y12, z12⟩, st12⟩ := X11.virtualBack hx (y := (⟨"com/example/demarq/demarq/broker/SortedMessages", "isEmpty", "()Z"⟩ : MethodName)) (z := (⟨"com/example/demarq/demarq/broker/SortedMessages", "isEmpty", "()Z"⟩ : MethodName)) hown (mvT hZ (hw _ (List.mem_of_getElem? (i := 26) rfl))) (mvT hZ (hw _ (List.mem_of_getElem? (i := 27) rfl))) (notFace_of_selects (args := #[]) (mvT hZ (hw _ (List.mem_of_getElem? (i := 29) rfl)))) (mvT hZ (hw _ (List.mem_of_getElem? (i := 29) rfl))) (mvT hZ (hw _ (List.mem_of_getElem? (i := 28) rfl))) (by decide) (backOf (W := 0) (rm4z l Z a0 hw [] b2 T7.heap n0 Z7 F_b2_size) hZ (hw _ (List.mem_of_getElem? (i := 30) rfl)) (hw _ (List.mem_of_getElem? (i := 2) rfl)) (by decide) (by decide)) q12a q12c (g := (mkF m 224 #[.val (.long i0), .second, .val (.long i1), .second, .val (.int i2), .val (.long v13), .second, .val (.ref b2), .val (.ref b4), .val (.ref b6), .val (.int (1 : Int32)), .val (.int (0 : Int32)), .val (.int (1 : Int32)), .val (.ref b6), .val (.ref b4), .val (.int (0 : Int32))] [(.ref b2)])) rfl (by rw [hml]; rfl) (Steps.refl _) (argsL := []) (rest := []) (lenOf own_pd9 rfl) rfl (by show 2 * 0 + _ ≤ _; exact Nat.le_of_eq rfl) (hb hby at_224) (fun _ _ => ⟨rfl, (e11q), (by decide : 4 + 0 ≤ _), (by decide : 27 + 0 ≤ _)⟩)
      dsimp only [Pt.U, Pt.locs, Pt.cells, Pt.slots] at X12 l12 y12 z12 st12 hQ12
      subst l12 y12 z12
      obtain ⟨rfl, N12q, e12q⟩ := hQ12
      have N12 := Fr.app N11 N12q
      obtain ⟨lc12, X12, N12⟩ : ∃ lc, Stand p l e room_1 s m #[(.long i0), (.long i1), (.int i2)] below meth c T12 lc 4 27 ∧ Fr n0 lc := ⟨_, X12, N12⟩
      refine Go.tr st12 ?_
      show Go p e below Φ T12 (mkF m 227 #[.val (.long i0), .second, .val (.long i1), .second, .val (.int i2), .val (.long v13), .second, .val (.ref b2), .val (.ref b4), .val (.ref b6), .val (.int (1 : Int32)), .val (.int (0 : Int32)), .val (.int (1 : Int32)), .val (.ref b6), .val (.ref b4), .val (.int (0 : Int32))] [(.int (1 : Int32))])
      refine Go.of (fun t k => XS.iload X12.here hx rfl (hb hby at_227) rfl  k) ?_
      show Go p e below Φ T12 (mkF m 229 #[.val (.long i0), .second, .val (.long i1), .second, .val (.int i2), .val (.long v13), .second, .val (.ref b2), .val (.ref b4), .val (.ref b6), .val (.int (1 : Int32)), .val (.int (0 : Int32)), .val (.int (1 : Int32)), .val (.ref b6), .val (.ref b4), .val (.int (0 : Int32))] [(.int (0 : Int32)), (.int (1 : Int32))])
      refine Go.of (fun t k => XS.iload X12.here hx rfl (hb hby at_229) rfl  k) ?_
      show Go p e below Φ T12 (mkF m 231 #[.val (.long i0), .second, .val (.long i1), .second, .val (.int i2), .val (.long v13), .second, .val (.ref b2), .val (.ref b4), .val (.ref b6), .val (.int (1 : Int32)), .val (.int (0 : Int32)), .val (.int (1 : Int32)), .val (.ref b6), .val (.ref b4), .val (.int (0 : Int32))] [(.int (0 : Int32)), (.int (0 : Int32)), (.int (1 : Int32))])
      refine Go.of (fun t k => XS.isub X12.here hx rfl (hb hby at_231) rfl k) ?_
      show Go p e below Φ T12 (mkF m 232 #[.val (.long i0), .second, .val (.long i1), .second, .val (.int i2), .val (.long v13), .second, .val (.ref b2), .val (.ref b4), .val (.ref b6), .val (.int (1 : Int32)), .val (.int (0 : Int32)), .val (.int (1 : Int32)), .val (.ref b6), .val (.ref b4), .val (.int (0 : Int32))] [(.int (0 : Int32)), (.int (1 : Int32))])
      refine Go.of (fun t k => XS.ifNo X12.here hx rfl (hb hby at_232) rfl (XT.i0_ne_f rfl) k) ?_
      show Go p e below Φ T12 (mkF m 235 #[.val (.long i0), .second, .val (.long i1), .second, .val (.int i2), .val (.long v13), .second, .val (.ref b2), .val (.ref b4), .val (.ref b6), .val (.int (1 : Int32)), .val (.int (0 : Int32)), .val (.int (1 : Int32)), .val (.ref b6), .val (.ref b4), .val (.int (0 : Int32))] [(.int (1 : Int32))])
      refine Go.of (fun t k => XS.iconst X12.here hx rfl (hb hby at_235) k) ?_
      show Go p e below Φ T12 (mkF m 236 #[.val (.long i0), .second, .val (.long i1), .second, .val (.int i2), .val (.long v13), .second, .val (.ref b2), .val (.ref b4), .val (.ref b6), .val (.int (1 : Int32)), .val (.int (0 : Int32)), .val (.int (1 : Int32)), .val (.ref b6), .val (.ref b4), .val (.int (0 : Int32))] [(.int (1 : Int32)), (.int (1 : Int32))])
      refine Go.of (fun t k => XS.goto X12.here hx rfl (pc0 := 236) (pc' := 240) rfl (hb hby at_236) (by decide) (by decide) k) ?_
      show Go p e below Φ T12 (mkF m 240 #[.val (.long i0), .second, .val (.long i1), .second, .val (.int i2), .val (.long v13), .second, .val (.ref b2), .val (.ref b4), .val (.ref b6), .val (.int (1 : Int32)), .val (.int (0 : Int32)), .val (.int (1 : Int32)), .val (.ref b6), .val (.ref b4), .val (.int (0 : Int32))] [(.int (1 : Int32)), (.int (1 : Int32))])
      refine Go.of (fun t k => XS.icmpNo X12.here hx rfl (hb hby at_240) rfl (XT.ii_ne_f rfl) k) ?_
      show Go p e below Φ T12 (mkF m 243 #[.val (.long i0), .second, .val (.long i1), .second, .val (.int i2), .val (.long v13), .second, .val (.ref b2), .val (.ref b4), .val (.ref b6), .val (.int (1 : Int32)), .val (.int (0 : Int32)), .val (.int (1 : Int32)), .val (.ref b6), .val (.ref b4), .val (.int (0 : Int32))] [])
      refine Go.of (fun t k => XS.iconst X12.here hx rfl (hb hby at_243) k) ?_
      show Go p e below Φ T12 (mkF m 244 #[.val (.long i0), .second, .val (.long i1), .second, .val (.int i2), .val (.long v13), .second, .val (.ref b2), .val (.ref b4), .val (.ref b6), .val (.int (1 : Int32)), .val (.int (0 : Int32)), .val (.int (1 : Int32)), .val (.ref b6), .val (.ref b4), .val (.int (0 : Int32))] [(.int (1 : Int32))])
      refine Go.of (fun t k => XS.goto X12.here hx rfl (pc0 := 244) (pc' := 248) rfl (hb hby at_244) (by decide) (by decide) k) ?_
      show Go p e below Φ T12 (mkF m 248 #[.val (.long i0), .second, .val (.long i1), .second, .val (.int i2), .val (.long v13), .second, .val (.ref b2), .val (.ref b4), .val (.ref b6), .val (.int (1 : Int32)), .val (.int (0 : Int32)), .val (.int (1 : Int32)), .val (.ref b6), .val (.ref b4), .val (.int (0 : Int32))] [(.int (1 : Int32))])
      refine Go.of (fun t k => XS.istore X12.here hx rfl (hb hby at_248) rfl (l' := #[.val (.long i0), .second, .val (.long i1), .second, .val (.int i2), .val (.long v13), .second, .val (.ref b2), .val (.ref b4), .val (.ref b6), .val (.int (1 : Int32)), .val (.int (0 : Int32)), .val (.int (1 : Int32)), .val (.ref b6), .val (.ref b4), .val (.int (0 : Int32))]) rfl k) ?_
      show Go p e below Φ T12 (mkF m 250 #[.val (.long i0), .second, .val (.long i1), .second, .val (.int i2), .val (.long v13), .second, .val (.ref b2), .val (.ref b4), .val (.ref b6), .val (.int (1 : Int32)), .val (.int (0 : Int32)), .val (.int (1 : Int32)), .val (.ref b6), .val (.ref b4), .val (.int (0 : Int32))] [])
      refine Go.of (fun t k => XS.iload X12.here hx rfl (hb hby at_250) rfl  k) ?_
      show Go p e below Φ T12 (mkF m 252 #[.val (.long i0), .second, .val (.long i1), .second, .val (.int i2), .val (.long v13), .second, .val (.ref b2), .val (.ref b4), .val (.ref b6), .val (.int (1 : Int32)), .val (.int (0 : Int32)), .val (.int (1 : Int32)), .val (.ref b6), .val (.ref b4), .val (.int (0 : Int32))] [(.int (1 : Int32))])
      rw [hΦ]
      refine Go.ret X12 hx Bd.notSynchronized Bd.returns rfl (Or.inl ⟨rfl, Or.inr (Or.inl rfl), _, rfl⟩) (hb hby at_252) (by decide) (by decide) ?_
      rw [(e12q)]
      exact ⟨rfl, N12⟩
  · subst hadd
    show Go p e below Φ T8 (mkF m 64 #[.val (.long i0), .second, .val (.long i1), .second, .val (.int i2), .val (.long v13), .second, .val (.ref b2), .val (.ref b4), .val (.ref b6), .val (.int (1 : Int32)), .val (.int (1 : Int32)), .unset, .unset, .unset, .unset] [])
    refine Go.of (fun t k => XS.iload X8.here hx rfl (hb hby at_64) rfl  k) ?_
    show Go p e below Φ T8 (mkF m 66 #[.val (.long i0), .second, .val (.long i1), .second, .val (.int i2), .val (.long v13), .second, .val (.ref b2), .val (.ref b4), .val (.ref b6), .val (.int (1 : Int32)), .val (.int (1 : Int32)), .unset, .unset, .unset, .unset] [(.int i2)])
    refine Go.of (fun t k => XS.iconst X8.here hx rfl (hb hby at_66) k) ?_
    show Go p e below Φ T8 (mkF m 67 #[.val (.long i0), .second, .val (.long i1), .second, .val (.int i2), .val (.long v13), .second, .val (.ref b2), .val (.ref b4), .val (.ref b6), .val (.int (1 : Int32)), .val (.int (1 : Int32)), .unset, .unset, .unset, .unset] [(.int (4 : Int32)), (.int i2)])
    refine Go.of (fun t k => XS.iushr X8.here hx rfl (hb hby at_67) rfl k) ?_
    show Go p e below Φ T8 (mkF m 68 #[.val (.long i0), .second, .val (.long i1), .second, .val (.int i2), .val (.long v13), .second, .val (.ref b2), .val (.ref b4), .val (.ref b6), .val (.int (1 : Int32)), .val (.int (1 : Int32)), .unset, .unset, .unset, .unset] [(.int (own_ushr i2 (4 : Int32)))])
    refine Go.of (fun t k => XS.iconst X8.here hx rfl (hb hby at_68) k) ?_
    show Go p e below Φ T8 (mkF m 69 #[.val (.long i0), .second, .val (.long i1), .second, .val (.int i2), .val (.long v13), .second, .val (.ref b2), .val (.ref b4), .val (.ref b6), .val (.int (1 : Int32)), .val (.int (1 : Int32)), .unset, .unset, .unset, .unset] [(.int (1 : Int32)), (.int (own_ushr i2 (4 : Int32)))])
    refine Go.of (fun t k => XS.iand X8.here hx rfl (hb hby at_69) rfl k) ?_
    show Go p e below Φ T8 (mkF m 70 #[.val (.long i0), .second, .val (.long i1), .second, .val (.int i2), .val (.long v13), .second, .val (.ref b2), .val (.ref b4), .val (.ref b6), .val (.int (1 : Int32)), .val (.int (1 : Int32)), .unset, .unset, .unset, .unset] [(.int ((own_ushr i2 (4 : Int32)) &&& (1 : Int32)))])
    by_cases hc70 : ((own_ushr i2 (4 : Int32)) &&& (1 : Int32)) = (0 : Int32)
    · refine Go.of (fun t k => XS.ifYes X8.here hx rfl (pc0 := 70) (pc' := 77) rfl (hb hby at_70) rfl (XT.i0_eq_t hc70) (by decide) (by decide) k) ?_
      show Go p e below Φ T8 (mkF m 77 #[.val (.long i0), .second, .val (.long i1), .second, .val (.int i2), .val (.long v13), .second, .val (.ref b2), .val (.ref b4), .val (.ref b6), .val (.int (1 : Int32)), .val (.int (1 : Int32)), .unset, .unset, .unset, .unset] [])
      refine Go.of (fun t k => XS.iconst X8.here hx rfl (hb hby at_77) k) ?_
      show Go p e below Φ T8 (mkF m 78 #[.val (.long i0), .second, .val (.long i1), .second, .val (.int i2), .val (.long v13), .second, .val (.ref b2), .val (.ref b4), .val (.ref b6), .val (.int (1 : Int32)), .val (.int (1 : Int32)), .unset, .unset, .unset, .unset] [(.int (0 : Int32))])
      refine Go.of (fun t k => XS.istore X8.here hx rfl (hb hby at_78) rfl (l' := #[.val (.long i0), .second, .val (.long i1), .second, .val (.int i2), .val (.long v13), .second, .val (.ref b2), .val (.ref b4), .val (.ref b6), .val (.int (1 : Int32)), .val (.int (1 : Int32)), .val (.int (0 : Int32)), .unset, .unset, .unset]) rfl k) ?_
      show Go p e below Φ T8 (mkF m 80 #[.val (.long i0), .second, .val (.long i1), .second, .val (.int i2), .val (.long v13), .second, .val (.ref b2), .val (.ref b4), .val (.ref b6), .val (.int (1 : Int32)), .val (.int (1 : Int32)), .val (.int (0 : Int32)), .unset, .unset, .unset] [])
      refine Go.of (fun t k => XS.iload X8.here hx rfl (hb hby at_80) rfl  k) ?_
      show Go p e below Φ T8 (mkF m 82 #[.val (.long i0), .second, .val (.long i1), .second, .val (.int i2), .val (.long v13), .second, .val (.ref b2), .val (.ref b4), .val (.ref b6), .val (.int (1 : Int32)), .val (.int (1 : Int32)), .val (.int (0 : Int32)), .unset, .unset, .unset] [(.int (0 : Int32))])
      refine Go.of (fun t k => XS.ifYes X8.here hx rfl (pc0 := 82) (pc' := 90) rfl (hb hby at_82) rfl (XT.i0_eq_t rfl) (by decide) (by decide) k) ?_
      show Go p e below Φ T8 (mkF m 90 #[.val (.long i0), .second, .val (.long i1), .second, .val (.int i2), .val (.long v13), .second, .val (.ref b2), .val (.ref b4), .val (.ref b6), .val (.int (1 : Int32)), .val (.int (1 : Int32)), .val (.int (0 : Int32)), .unset, .unset, .unset] [])
      refine Go.of (fun t k => XS.aload X8.here hx rfl (hb hby at_90) rfl rfl  k) ?_
      show Go p e below Φ T8 (mkF m 92 #[.val (.long i0), .second, .val (.long i1), .second, .val (.int i2), .val (.long v13), .second, .val (.ref b2), .val (.ref b4), .val (.ref b6), .val (.int (1 : Int32)), .val (.int (1 : Int32)), .val (.int (0 : Int32)), .unset, .unset, .unset] [(.ref b4)])
      refine Go.of (fun t k => XS.astore X8.here hx rfl (hb hby at_92) rfl rfl (l' := #[.val (.long i0), .second, .val (.long i1), .second, .val (.int i2), .val (.long v13), .second, .val (.ref b2), .val (.ref b4), .val (.ref b6), .val (.int (1 : Int32)), .val (.int (1 : Int32)), .val (.int (0 : Int32)), .val (.ref b4), .unset, .unset]) rfl k) ?_
      show Go p e below Φ T8 (mkF m 94 #[.val (.long i0), .second, .val (.long i1), .second, .val (.int i2), .val (.long v13), .second, .val (.ref b2), .val (.ref b4), .val (.ref b6), .val (.int (1 : Int32)), .val (.int (1 : Int32)), .val (.int (0 : Int32)), .val (.ref b4), .unset, .unset] [])
      refine Go.of (fun t k => XS.iload X8.here hx rfl (hb hby at_94) rfl  k) ?_
      show Go p e below Φ T8 (mkF m 96 #[.val (.long i0), .second, .val (.long i1), .second, .val (.int i2), .val (.long v13), .second, .val (.ref b2), .val (.ref b4), .val (.ref b6), .val (.int (1 : Int32)), .val (.int (1 : Int32)), .val (.int (0 : Int32)), .val (.ref b4), .unset, .unset] [(.int (0 : Int32))])
      refine Go.of (fun t k => XS.ifYes X8.here hx rfl (pc0 := 96) (pc' := 104) rfl (hb hby at_96) rfl (XT.i0_eq_t rfl) (by decide) (by decide) k) ?_
      show Go p e below Φ T8 (mkF m 104 #[.val (.long i0), .second, .val (.long i1), .second, .val (.int i2), .val (.long v13), .second, .val (.ref b2), .val (.ref b4), .val (.ref b6), .val (.int (1 : Int32)), .val (.int (1 : Int32)), .val (.int (0 : Int32)), .val (.ref b4), .unset, .unset] [])
      refine Go.of (fun t k => XS.aload X8.here hx rfl (hb hby at_104) rfl rfl  k) ?_
      show Go p e below Φ T8 (mkF m 106 #[.val (.long i0), .second, .val (.long i1), .second, .val (.int i2), .val (.long v13), .second, .val (.ref b2), .val (.ref b4), .val (.ref b6), .val (.int (1 : Int32)), .val (.int (1 : Int32)), .val (.int (0 : Int32)), .val (.ref b4), .unset, .unset] [(.ref b6)])
      refine Go.of (fun t k => XS.astore X8.here hx rfl (hb hby at_106) rfl rfl (l' := #[.val (.long i0), .second, .val (.long i1), .second, .val (.int i2), .val (.long v13), .second, .val (.ref b2), .val (.ref b4), .val (.ref b6), .val (.int (1 : Int32)), .val (.int (1 : Int32)), .val (.int (0 : Int32)), .val (.ref b4), .val (.ref b6), .unset]) rfl k) ?_
      show Go p e below Φ T8 (mkF m 108 #[.val (.long i0), .second, .val (.long i1), .second, .val (.int i2), .val (.long v13), .second, .val (.ref b2), .val (.ref b4), .val (.ref b6), .val (.int (1 : Int32)), .val (.int (1 : Int32)), .val (.int (0 : Int32)), .val (.ref b4), .val (.ref b6), .unset] [])
      refine Go.of (fun t k => XS.iload X8.here hx rfl (hb hby at_108) rfl  k) ?_
      show Go p e below Φ T8 (mkF m 110 #[.val (.long i0), .second, .val (.long i1), .second, .val (.int i2), .val (.long v13), .second, .val (.ref b2), .val (.ref b4), .val (.ref b6), .val (.int (1 : Int32)), .val (.int (1 : Int32)), .val (.int (0 : Int32)), .val (.ref b4), .val (.ref b6), .unset] [(.int (1 : Int32))])
      refine Go.of (fun t k => XS.iconst X8.here hx rfl (hb hby at_110) k) ?_
      show Go p e below Φ T8 (mkF m 111 #[.val (.long i0), .second, .val (.long i1), .second, .val (.int i2), .val (.long v13), .second, .val (.ref b2), .val (.ref b4), .val (.ref b6), .val (.int (1 : Int32)), .val (.int (1 : Int32)), .val (.int (0 : Int32)), .val (.ref b4), .val (.ref b6), .unset] [(.int (1 : Int32)), (.int (1 : Int32))])
      refine Go.of (fun t k => XS.icmpNo X8.here hx rfl (hb hby at_111) rfl (XT.ii_lt_f (by decide)) k) ?_
      show Go p e below Φ T8 (mkF m 114 #[.val (.long i0), .second, .val (.long i1), .second, .val (.int i2), .val (.long v13), .second, .val (.ref b2), .val (.ref b4), .val (.ref b6), .val (.int (1 : Int32)), .val (.int (1 : Int32)), .val (.int (0 : Int32)), .val (.ref b4), .val (.ref b6), .unset] [])
      refine Go.of (fun t k => XS.aload X8.here hx rfl (hb hby at_114) rfl rfl  k) ?_
      show Go p e below Φ T8 (mkF m 116 #[.val (.long i0), .second, .val (.long i1), .second, .val (.int i2), .val (.long v13), .second, .val (.ref b2), .val (.ref b4), .val (.ref b6), .val (.int (1 : Int32)), .val (.int (1 : Int32)), .val (.int (0 : Int32)), .val (.ref b4), .val (.ref b6), .unset] [(.ref b2)])
      refine Go.of (fun t k => XS.aload X8.here hx rfl (hb hby at_116) rfl rfl  k) ?_
      show Go p e below Φ T8 (mkF m 118 #[.val (.long i0), .second, .val (.long i1), .second, .val (.int i2), .val (.long v13), .second, .val (.ref b2), .val (.ref b4), .val (.ref b6), .val (.int (1 : Int32)), .val (.int (1 : Int32)), .val (.int (0 : Int32)), .val (.ref b4), .val (.ref b6), .unset] [(.ref b4), (.ref b2)])
      obtain ⟨cq13, kq13, q13a, q13b, q13c⟩ := isOf hZ (e8q) E_b2
      obtain ⟨_, _, ⟨T13, L13, k13, n13⟩, -, X13, ⟨Lc13, hQ13, l13, y13, z13⟩, st13⟩ := X8.virtualBack hx (y := (⟨"com/example/demarq/demarq/broker/SortedMessages", "add", "(Lcom/example/demarq/demarq/broker/Message;)V"⟩ : MethodName)) (z := (⟨"com/example/demarq/demarq/broker/SortedMessages", "add", "(Lcom/example/demarq/demarq/broker/Message;)V"⟩ : MethodName)) hown (mvT hZ (hw _ (List.mem_of_getElem? (i := 33) rfl))) (mvT hZ (hw _ (List.mem_of_getElem? (i := 34) rfl))) (notFace_of_selects (args := #[]) (mvT hZ (hw _ (List.mem_of_getElem? (i := 36) rfl)))) (mvT hZ (hw _ (List.mem_of_getElem? (i := 36) rfl))) (mvT hZ (hw _ (List.mem_of_getElem? (i := 35) rfl))) (by decide) (backOf (W := 0) (rm5z l Z a0 hw [] b2 b4 b3 k3 [] T7.heap n0 Z7 F_b2_head F_b2_ring V_b3 F_b2_size E_b4 E_b2 g_b2 g_b3 ne_b2_b3 Ov3) hZ (hw _ (List.mem_of_getElem? (i := 37) rfl)) (hw _ (List.mem_of_getElem? (i := 2) rfl)) (by decide) (by decide)) q13a q13c (g := (mkF m 118 #[.val (.long i0), .second, .val (.long i1), .second, .val (.int i2), .val (.long v13), .second, .val (.ref b2), .val (.ref b4), .val (.ref b6), .val (.int (1 : Int32)), .val (.int (1 : Int32)), .val (.int (0 : Int32)), .val (.ref b4), .val (.ref b6), .unset] [(.ref b4), (.ref b2)])) rfl (by rw [hml]; rfl) (Steps.refl _) (argsL := [(.ref b4)]) (rest := []) (lenOf own_pd10 rfl) rfl (by show 2 * 0 + _ ≤ _; exact Nat.le_of_eq rfl) (hb hby at_118) (fun _ _ => ⟨rfl, (e8q), (by decide : 4 + 0 ≤ _), (by decide : 27 + 0 ≤ _)⟩)
      dsimp only [Pt.U, Pt.locs, Pt.cells, Pt.slots] at X13 l13 y13 z13 st13 hQ13
      subst l13 y13 z13
      obtain ⟨rfl, N13q, K13q, c13_0, c13_1, c13_2, c13_3⟩ := hQ13
      have N13 := Fr.app N8 N13q
      obtain ⟨lc13, X13, N13⟩ : ∃ lc, Stand p l e room_1 s m #[(.long i0), (.long i1), (.int i2)] below meth c T13 lc 4 27 ∧ Fr n0 lc := ⟨_, X13, N13⟩
      have E_b2 := E_b2.keep K13q
      have E_b4 := E_b4.keep K13q
      have F_b4_position := F_b4_position.keep K13q (ninS (Ne.symm ne_b2_b4) (ninS (Ne.symm ne_b3_b4) nin0))
      have E_b6 := E_b6.keep K13q
      have F_b6_position := F_b6_position.keep K13q (ninS (Ne.symm ne_b2_b6) (ninS (Ne.symm ne_b3_b6) nin0))
      have F_b2_size := c13_0
      have F_b2_head := c13_1
      have F_b2_ring := c13_2
      have V_b3 : Arh Z T13.heap b3 k3 (.object "com/example/demarq/demarq/broker/Message") (16 : Int32) (((0 : Int32), (.ref b4)) :: []) [] .null := c13_3
      have Z13 := Nat.le_trans Z7 K13q.1
      refine Go.tr st13 ?_
      show Go p e below Φ T13 (mkF m 121 #[.val (.long i0), .second, .val (.long i1), .second, .val (.int i2), .val (.long v13), .second, .val (.ref b2), .val (.ref b4), .val (.ref b6), .val (.int (1 : Int32)), .val (.int (1 : Int32)), .val (.int (0 : Int32)), .val (.ref b4), .val (.ref b6), .unset] [])
      refine Go.of (fun t k => XS.iload X13.here hx rfl (hb hby at_121) rfl  k) ?_
      show Go p e below Φ T13 (mkF m 123 #[.val (.long i0), .second, .val (.long i1), .second, .val (.int i2), .val (.long v13), .second, .val (.ref b2), .val (.ref b4), .val (.ref b6), .val (.int (1 : Int32)), .val (.int (1 : Int32)), .val (.int (0 : Int32)), .val (.ref b4), .val (.ref b6), .unset] [(.int (1 : Int32))])
      refine Go.of (fun t k => XS.iconst X13.here hx rfl (hb hby at_123) k) ?_
      show Go p e below Φ T13 (mkF m 124 #[.val (.long i0), .second, .val (.long i1), .second, .val (.int i2), .val (.long v13), .second, .val (.ref b2), .val (.ref b4), .val (.ref b6), .val (.int (1 : Int32)), .val (.int (1 : Int32)), .val (.int (0 : Int32)), .val (.ref b4), .val (.ref b6), .unset] [(.int (2 : Int32)), (.int (1 : Int32))])
      refine Go.of (fun t k => XS.icmpYes X13.here hx rfl (pc0 := 124) (pc' := 134) rfl (hb hby at_124) rfl (XT.ii_lt_t (by decide)) (by decide) (by decide) k) ?_
      show Go p e below Φ T13 (mkF m 134 #[.val (.long i0), .second, .val (.long i1), .second, .val (.int i2), .val (.long v13), .second, .val (.ref b2), .val (.ref b4), .val (.ref b6), .val (.int (1 : Int32)), .val (.int (1 : Int32)), .val (.int (0 : Int32)), .val (.ref b4), .val (.ref b6), .unset] [])
      refine Go.of (fun t k => XS.iload X13.here hx rfl (hb hby at_134) rfl  k) ?_
      show Go p e below Φ T13 (mkF m 136 #[.val (.long i0), .second, .val (.long i1), .second, .val (.int i2), .val (.long v13), .second, .val (.ref b2), .val (.ref b4), .val (.ref b6), .val (.int (1 : Int32)), .val (.int (1 : Int32)), .val (.int (0 : Int32)), .val (.ref b4), .val (.ref b6), .unset] [(.int (1 : Int32))])
      refine Go.of (fun t k => XS.ifNo X13.here hx rfl (hb hby at_136) rfl (XT.i0_eq_f (by decide)) k) ?_
      show Go p e below Φ T13 (mkF m 139 #[.val (.long i0), .second, .val (.long i1), .second, .val (.int i2), .val (.long v13), .second, .val (.ref b2), .val (.ref b4), .val (.ref b6), .val (.int (1 : Int32)), .val (.int (1 : Int32)), .val (.int (0 : Int32)), .val (.ref b4), .val (.ref b6), .unset] [])
      refine Go.of (fun t k => XS.aload X13.here hx rfl (hb hby at_139) rfl rfl  k) ?_
      show Go p e below Φ T13 (mkF m 141 #[.val (.long i0), .second, .val (.long i1), .second, .val (.int i2), .val (.long v13), .second, .val (.ref b2), .val (.ref b4), .val (.ref b6), .val (.int (1 : Int32)), .val (.int (1 : Int32)), .val (.int (0 : Int32)), .val (.ref b4), .val (.ref b6), .unset] [(.ref b2)])
      obtain ⟨cq14, kq14, q14a, q14b, q14c⟩ := isOf hZ rfl E_b2
      obtain ⟨_, _, ⟨T14, L14, k14, n14⟩, -, X14, ⟨Lc14, hQ14, l14, y14, z14⟩, st14⟩ := X13.virtualBack hx (y := (⟨"com/example/demarq/demarq/broker/SortedMessages", "isEmpty", "()Z"⟩ : MethodName)) (z := (⟨"com/example/demarq/demarq/broker/SortedMessages", "isEmpty", "()Z"⟩ : MethodName)) hown (mvT hZ (hw _ (List.mem_of_getElem? (i := 26) rfl))) (mvT hZ (hw _ (List.mem_of_getElem? (i := 27) rfl))) (notFace_of_selects (args := #[]) (mvT hZ (hw _ (List.mem_of_getElem? (i := 29) rfl)))) (mvT hZ (hw _ (List.mem_of_getElem? (i := 29) rfl))) (mvT hZ (hw _ (List.mem_of_getElem? (i := 28) rfl))) (by decide) (backOf (W := 0) (rm4n l Z a0 hw [] b2 (1 : Int32) T13.heap n0 Z13 F_b2_size (by decide)) hZ (hw _ (List.mem_of_getElem? (i := 30) rfl)) (hw _ (List.mem_of_getElem? (i := 2) rfl)) (by decide) (by decide)) q14a q14c (g := (mkF m 141 #[.val (.long i0), .second, .val (.long i1), .second, .val (.int i2), .val (.long v13), .second, .val (.ref b2), .val (.ref b4), .val (.ref b6), .val (.int (1 : Int32)), .val (.int (1 : Int32)), .val (.int (0 : Int32)), .val (.ref b4), .val (.ref b6), .unset] [(.ref b2)])) rfl (by rw [hml]; rfl) (Steps.refl _) (argsL := []) (rest := []) (lenOf own_pd9 rfl) rfl (by show 2 * 0 + _ ≤ _; exact Nat.le_of_eq rfl) (hb hby at_141) (fun _ _ => ⟨rfl, rfl, (by decide : 4 + 0 ≤ _), (by decide : 27 + 0 ≤ _)⟩)
      dsimp only [Pt.U, Pt.locs, Pt.cells, Pt.slots] at X14 l14 y14 z14 st14 hQ14
      subst l14 y14 z14
      obtain ⟨rfl, N14q, e14q⟩ := hQ14
      have N14 := Fr.app N13 N14q
      obtain ⟨lc14, X14, N14⟩ : ∃ lc, Stand p l e room_1 s m #[(.long i0), (.long i1), (.int i2)] below meth c T14 lc 4 27 ∧ Fr n0 lc := ⟨_, X14, N14⟩
      refine Go.tr st14 ?_
      show Go p e below Φ T14 (mkF m 144 #[.val (.long i0), .second, .val (.long i1), .second, .val (.int i2), .val (.long v13), .second, .val (.ref b2), .val (.ref b4), .val (.ref b6), .val (.int (1 : Int32)), .val (.int (1 : Int32)), .val (.int (0 : Int32)), .val (.ref b4), .val (.ref b6), .unset] [(.int (0 : Int32))])
      refine Go.of (fun t k => XS.iload X14.here hx rfl (hb hby at_144) rfl  k) ?_
      show Go p e below Φ T14 (mkF m 146 #[.val (.long i0), .second, .val (.long i1), .second, .val (.int i2), .val (.long v13), .second, .val (.ref b2), .val (.ref b4), .val (.ref b6), .val (.int (1 : Int32)), .val (.int (1 : Int32)), .val (.int (0 : Int32)), .val (.ref b4), .val (.ref b6), .unset] [(.int (1 : Int32)), (.int (0 : Int32))])
      refine Go.of (fun t k => XS.ifYes X14.here hx rfl (pc0 := 146) (pc' := 153) rfl (hb hby at_146) rfl (XT.i0_ne_t (by decide)) (by decide) (by decide) k) ?_
      show Go p e below Φ T14 (mkF m 153 #[.val (.long i0), .second, .val (.long i1), .second, .val (.int i2), .val (.long v13), .second, .val (.ref b2), .val (.ref b4), .val (.ref b6), .val (.int (1 : Int32)), .val (.int (1 : Int32)), .val (.int (0 : Int32)), .val (.ref b4), .val (.ref b6), .unset] [(.int (0 : Int32))])
      refine Go.of (fun t k => XS.iconst X14.here hx rfl (hb hby at_153) k) ?_
      show Go p e below Φ T14 (mkF m 154 #[.val (.long i0), .second, .val (.long i1), .second, .val (.int i2), .val (.long v13), .second, .val (.ref b2), .val (.ref b4), .val (.ref b6), .val (.int (1 : Int32)), .val (.int (1 : Int32)), .val (.int (0 : Int32)), .val (.ref b4), .val (.ref b6), .unset] [(.int (0 : Int32)), (.int (0 : Int32))])
      refine Go.of (fun t k => XS.icmpNo X14.here hx rfl (hb hby at_154) rfl (XT.ii_ne_f rfl) k) ?_
      show Go p e below Φ T14 (mkF m 157 #[.val (.long i0), .second, .val (.long i1), .second, .val (.int i2), .val (.long v13), .second, .val (.ref b2), .val (.ref b4), .val (.ref b6), .val (.int (1 : Int32)), .val (.int (1 : Int32)), .val (.int (0 : Int32)), .val (.ref b4), .val (.ref b6), .unset] [])
      refine Go.of (fun t k => XS.iconst X14.here hx rfl (hb hby at_157) k) ?_
      show Go p e below Φ T14 (mkF m 158 #[.val (.long i0), .second, .val (.long i1), .second, .val (.int i2), .val (.long v13), .second, .val (.ref b2), .val (.ref b4), .val (.ref b6), .val (.int (1 : Int32)), .val (.int (1 : Int32)), .val (.int (0 : Int32)), .val (.ref b4), .val (.ref b6), .unset] [(.int (1 : Int32))])
      refine Go.of (fun t k => XS.goto X14.here hx rfl (pc0 := 158) (pc' := 162) rfl (hb hby at_158) (by decide) (by decide) k) ?_
      show Go p e below Φ T14 (mkF m 162 #[.val (.long i0), .second, .val (.long i1), .second, .val (.int i2), .val (.long v13), .second, .val (.ref b2), .val (.ref b4), .val (.ref b6), .val (.int (1 : Int32)), .val (.int (1 : Int32)), .val (.int (0 : Int32)), .val (.ref b4), .val (.ref b6), .unset] [(.int (1 : Int32))])
      refine Go.of (fun t k => XS.istore X14.here hx rfl (hb hby at_162) rfl (l' := #[.val (.long i0), .second, .val (.long i1), .second, .val (.int i2), .val (.long v13), .second, .val (.ref b2), .val (.ref b4), .val (.ref b6), .val (.int (1 : Int32)), .val (.int (1 : Int32)), .val (.int (0 : Int32)), .val (.ref b4), .val (.ref b6), .unset]) rfl k) ?_
      show Go p e below Φ T14 (mkF m 164 #[.val (.long i0), .second, .val (.long i1), .second, .val (.int i2), .val (.long v13), .second, .val (.ref b2), .val (.ref b4), .val (.ref b6), .val (.int (1 : Int32)), .val (.int (1 : Int32)), .val (.int (0 : Int32)), .val (.ref b4), .val (.ref b6), .unset] [])
      refine Go.of (fun t k => XS.iconst X14.here hx rfl (hb hby at_164) k) ?_
      show Go p e below Φ T14 (mkF m 165 #[.val (.long i0), .second, .val (.long i1), .second, .val (.int i2), .val (.long v13), .second, .val (.ref b2), .val (.ref b4), .val (.ref b6), .val (.int (1 : Int32)), .val (.int (1 : Int32)), .val (.int (0 : Int32)), .val (.ref b4), .val (.ref b6), .unset] [(.int (0 : Int32))])
      refine Go.of (fun t k => XS.istore X14.here hx rfl (hb hby at_165) rfl (l' := #[.val (.long i0), .second, .val (.long i1), .second, .val (.int i2), .val (.long v13), .second, .val (.ref b2), .val (.ref b4), .val (.ref b6), .val (.int (1 : Int32)), .val (.int (1 : Int32)), .val (.int (0 : Int32)), .val (.ref b4), .val (.ref b6), .val (.int (0 : Int32))]) rfl k) ?_
      show Go p e below Φ T14 (mkF m 167 #[.val (.long i0), .second, .val (.long i1), .second, .val (.int i2), .val (.long v13), .second, .val (.ref b2), .val (.ref b4), .val (.ref b6), .val (.int (1 : Int32)), .val (.int (1 : Int32)), .val (.int (0 : Int32)), .val (.ref b4), .val (.ref b6), .val (.int (0 : Int32))] [])
      refine Go.of (fun t k => XS.iload X14.here hx rfl (hb hby at_167) rfl  k) ?_
      show Go p e below Φ T14 (mkF m 169 #[.val (.long i0), .second, .val (.long i1), .second, .val (.int i2), .val (.long v13), .second, .val (.ref b2), .val (.ref b4), .val (.ref b6), .val (.int (1 : Int32)), .val (.int (1 : Int32)), .val (.int (0 : Int32)), .val (.ref b4), .val (.ref b6), .val (.int (0 : Int32))] [(.int (1 : Int32))])
      refine Go.of (fun t k => XS.iconst X14.here hx rfl (hb hby at_169) k) ?_
      show Go p e below Φ T14 (mkF m 170 #[.val (.long i0), .second, .val (.long i1), .second, .val (.int i2), .val (.long v13), .second, .val (.ref b2), .val (.ref b4), .val (.ref b6), .val (.int (1 : Int32)), .val (.int (1 : Int32)), .val (.int (0 : Int32)), .val (.ref b4), .val (.ref b6), .val (.int (0 : Int32))] [(.int (1 : Int32)), (.int (1 : Int32))])
      refine Go.of (fun t k => XS.icmpNo X14.here hx rfl (hb hby at_170) rfl (XT.ii_lt_f (by decide)) k) ?_
      show Go p e below Φ T14 (mkF m 173 #[.val (.long i0), .second, .val (.long i1), .second, .val (.int i2), .val (.long v13), .second, .val (.ref b2), .val (.ref b4), .val (.ref b6), .val (.int (1 : Int32)), .val (.int (1 : Int32)), .val (.int (0 : Int32)), .val (.ref b4), .val (.ref b6), .val (.int (0 : Int32))] [])
      refine Go.of (fun t k => XS.iload X14.here hx rfl (hb hby at_173) rfl  k) ?_
      show Go p e below Φ T14 (mkF m 175 #[.val (.long i0), .second, .val (.long i1), .second, .val (.int i2), .val (.long v13), .second, .val (.ref b2), .val (.ref b4), .val (.ref b6), .val (.int (1 : Int32)), .val (.int (1 : Int32)), .val (.int (0 : Int32)), .val (.ref b4), .val (.ref b6), .val (.int (0 : Int32))] [(.int i2)])
      refine Go.of (fun t k => XS.iconst X14.here hx rfl (hb hby at_175) k) ?_
      show Go p e below Φ T14 (mkF m 176 #[.val (.long i0), .second, .val (.long i1), .second, .val (.int i2), .val (.long v13), .second, .val (.ref b2), .val (.ref b4), .val (.ref b6), .val (.int (1 : Int32)), .val (.int (1 : Int32)), .val (.int (0 : Int32)), .val (.ref b4), .val (.ref b6), .val (.int (0 : Int32))] [(.int (2 : Int32)), (.int i2)])
      refine Go.of (fun t k => XS.iushr X14.here hx rfl (hb hby at_176) rfl k) ?_
      show Go p e below Φ T14 (mkF m 177 #[.val (.long i0), .second, .val (.long i1), .second, .val (.int i2), .val (.long v13), .second, .val (.ref b2), .val (.ref b4), .val (.ref b6), .val (.int (1 : Int32)), .val (.int (1 : Int32)), .val (.int (0 : Int32)), .val (.ref b4), .val (.ref b6), .val (.int (0 : Int32))] [(.int (own_ushr i2 (2 : Int32)))])
      refine Go.of (fun t k => XS.iconst X14.here hx rfl (hb hby at_177) k) ?_
      show Go p e below Φ T14 (mkF m 178 #[.val (.long i0), .second, .val (.long i1), .second, .val (.int i2), .val (.long v13), .second, .val (.ref b2), .val (.ref b4), .val (.ref b6), .val (.int (1 : Int32)), .val (.int (1 : Int32)), .val (.int (0 : Int32)), .val (.ref b4), .val (.ref b6), .val (.int (0 : Int32))] [(.int (1 : Int32)), (.int (own_ushr i2 (2 : Int32)))])
      refine Go.of (fun t k => XS.iand X14.here hx rfl (hb hby at_178) rfl k) ?_
      show Go p e below Φ T14 (mkF m 179 #[.val (.long i0), .second, .val (.long i1), .second, .val (.int i2), .val (.long v13), .second, .val (.ref b2), .val (.ref b4), .val (.ref b6), .val (.int (1 : Int32)), .val (.int (1 : Int32)), .val (.int (0 : Int32)), .val (.ref b4), .val (.ref b6), .val (.int (0 : Int32))] [(.int ((own_ushr i2 (2 : Int32)) &&& (1 : Int32)))])
      by_cases hc179 : ((own_ushr i2 (2 : Int32)) &&& (1 : Int32)) = (0 : Int32)
      · refine Go.of (fun t k => XS.ifYes X14.here hx rfl (pc0 := 179) (pc' := 192) rfl (hb hby at_179) rfl (XT.i0_eq_t hc179) (by decide) (by decide) k) ?_
        show Go p e below Φ T14 (mkF m 192 #[.val (.long i0), .second, .val (.long i1), .second, .val (.int i2), .val (.long v13), .second, .val (.ref b2), .val (.ref b4), .val (.ref b6), .val (.int (1 : Int32)), .val (.int (1 : Int32)), .val (.int (0 : Int32)), .val (.ref b4), .val (.ref b6), .val (.int (0 : Int32))] [])
        refine Go.of (fun t k => XS.iload X14.here hx rfl (hb hby at_192) rfl  k) ?_
        show Go p e below Φ T14 (mkF m 194 #[.val (.long i0), .second, .val (.long i1), .second, .val (.int i2), .val (.long v13), .second, .val (.ref b2), .val (.ref b4), .val (.ref b6), .val (.int (1 : Int32)), .val (.int (1 : Int32)), .val (.int (0 : Int32)), .val (.ref b4), .val (.ref b6), .val (.int (0 : Int32))] [(.int (1 : Int32))])
        refine Go.of (fun t k => XS.iconst X14.here hx rfl (hb hby at_194) k) ?_
        show Go p e below Φ T14 (mkF m 195 #[.val (.long i0), .second, .val (.long i1), .second, .val (.int i2), .val (.long v13), .second, .val (.ref b2), .val (.ref b4), .val (.ref b6), .val (.int (1 : Int32)), .val (.int (1 : Int32)), .val (.int (0 : Int32)), .val (.ref b4), .val (.ref b6), .val (.int (0 : Int32))] [(.int (2 : Int32)), (.int (1 : Int32))])
        refine Go.of (fun t k => XS.icmpYes X14.here hx rfl (pc0 := 195) (pc' := 217) rfl (hb hby at_195) rfl (XT.ii_lt_t (by decide)) (by decide) (by decide) k) ?_
        show Go p e below Φ T14 (mkF m 217 #[.val (.long i0), .second, .val (.long i1), .second, .val (.int i2), .val (.long v13), .second, .val (.ref b2), .val (.ref b4), .val (.ref b6), .val (.int (1 : Int32)), .val (.int (1 : Int32)), .val (.int (0 : Int32)), .val (.ref b4), .val (.ref b6), .val (.int (0 : Int32))] [])
        refine Go.of (fun t k => XS.iload X14.here hx rfl (hb hby at_217) rfl  k) ?_
        show Go p e below Φ T14 (mkF m 219 #[.val (.long i0), .second, .val (.long i1), .second, .val (.int i2), .val (.long v13), .second, .val (.ref b2), .val (.ref b4), .val (.ref b6), .val (.int (1 : Int32)), .val (.int (1 : Int32)), .val (.int (0 : Int32)), .val (.ref b4), .val (.ref b6), .val (.int (0 : Int32))] [(.int (1 : Int32))])
        refine Go.of (fun t k => XS.ifNo X14.here hx rfl (hb hby at_219) rfl (XT.i0_eq_f (by decide)) k) ?_
        show Go p e below Φ T14 (mkF m 222 #[.val (.long i0), .second, .val (.long i1), .second, .val (.int i2), .val (.long v13), .second, .val (.ref b2), .val (.ref b4), .val (.ref b6), .val (.int (1 : Int32)), .val (.int (1 : Int32)), .val (.int (0 : Int32)), .val (.ref b4), .val (.ref b6), .val (.int (0 : Int32))] [])
        refine Go.of (fun t k => XS.aload X14.here hx rfl (hb hby at_222) rfl rfl  k) ?_
        show Go p e below Φ T14 (mkF m 224 #[.val (.long i0), .second, .val (.long i1), .second, .val (.int i2), .val (.long v13), .second, .val (.ref b2), .val (.ref b4), .val (.ref b6), .val (.int (1 : Int32)), .val (.int (1 : Int32)), .val (.int (0 : Int32)), .val (.ref b4), .val (.ref b6), .val (.int (0 : Int32))] [(.ref b2)])
        obtain ⟨cq15, kq15, q15a, q15b, q15c⟩ := isOf hZ (e14q) E_b2
        obtain ⟨_, _, ⟨T15, L15, k15, n15⟩, -, X15, ⟨Lc15, hQ15, l15, y15, z15⟩, st15⟩ := X14.virtualBack hx (y := (⟨"com/example/demarq/demarq/broker/SortedMessages", "isEmpty", "()Z"⟩ : MethodName)) (z := (⟨"com/example/demarq/demarq/broker/SortedMessages", "isEmpty", "()Z"⟩ : MethodName)) hown (mvT hZ (hw _ (List.mem_of_getElem? (i := 26) rfl))) (mvT hZ (hw _ (List.mem_of_getElem? (i := 27) rfl))) (notFace_of_selects (args := #[]) (mvT hZ (hw _ (List.mem_of_getElem? (i := 29) rfl)))) (mvT hZ (hw _ (List.mem_of_getElem? (i := 29) rfl))) (mvT hZ (hw _ (List.mem_of_getElem? (i := 28) rfl))) (by decide) (backOf (W := 0) (rm4n l Z a0 hw [] b2 (1 : Int32) T13.heap n0 Z13 F_b2_size (by decide)) hZ (hw _ (List.mem_of_getElem? (i := 30) rfl)) (hw _ (List.mem_of_getElem? (i := 2) rfl)) (by decide) (by decide)) q15a q15c (g := (mkF m 224 #[.val (.long i0), .second, .val (.long i1), .second, .val (.int i2), .val (.long v13), .second, .val (.ref b2), .val (.ref b4), .val (.ref b6), .val (.int (1 : Int32)), .val (.int (1 : Int32)), .val (.int (0 : Int32)), .val (.ref b4), .val (.ref b6), .val (.int (0 : Int32))] [(.ref b2)])) rfl (by rw [hml]; rfl) (Steps.refl _) (argsL := []) (rest := []) (lenOf own_pd9 rfl) rfl (by show 2 * 0 + _ ≤ _; exact Nat.le_of_eq rfl) (hb hby at_224) (fun _ _ => ⟨rfl, (e14q), (by decide : 4 + 0 ≤ _), (by decide : 27 + 0 ≤ _)⟩)
        dsimp only [Pt.U, Pt.locs, Pt.cells, Pt.slots] at X15 l15 y15 z15 st15 hQ15
        subst l15 y15 z15
        obtain ⟨rfl, N15q, e15q⟩ := hQ15
        have N15 := Fr.app N14 N15q
        obtain ⟨lc15, X15, N15⟩ : ∃ lc, Stand p l e room_1 s m #[(.long i0), (.long i1), (.int i2)] below meth c T15 lc 4 27 ∧ Fr n0 lc := ⟨_, X15, N15⟩
        refine Go.tr st15 ?_
        show Go p e below Φ T15 (mkF m 227 #[.val (.long i0), .second, .val (.long i1), .second, .val (.int i2), .val (.long v13), .second, .val (.ref b2), .val (.ref b4), .val (.ref b6), .val (.int (1 : Int32)), .val (.int (1 : Int32)), .val (.int (0 : Int32)), .val (.ref b4), .val (.ref b6), .val (.int (0 : Int32))] [(.int (0 : Int32))])
        refine Go.of (fun t k => XS.iload X15.here hx rfl (hb hby at_227) rfl  k) ?_
        show Go p e below Φ T15 (mkF m 229 #[.val (.long i0), .second, .val (.long i1), .second, .val (.int i2), .val (.long v13), .second, .val (.ref b2), .val (.ref b4), .val (.ref b6), .val (.int (1 : Int32)), .val (.int (1 : Int32)), .val (.int (0 : Int32)), .val (.ref b4), .val (.ref b6), .val (.int (0 : Int32))] [(.int (1 : Int32)), (.int (0 : Int32))])
        refine Go.of (fun t k => XS.iload X15.here hx rfl (hb hby at_229) rfl  k) ?_
        show Go p e below Φ T15 (mkF m 231 #[.val (.long i0), .second, .val (.long i1), .second, .val (.int i2), .val (.long v13), .second, .val (.ref b2), .val (.ref b4), .val (.ref b6), .val (.int (1 : Int32)), .val (.int (1 : Int32)), .val (.int (0 : Int32)), .val (.ref b4), .val (.ref b6), .val (.int (0 : Int32))] [(.int (0 : Int32)), (.int (1 : Int32)), (.int (0 : Int32))])
        refine Go.of (fun t k => XS.isub X15.here hx rfl (hb hby at_231) rfl k) ?_
        show Go p e below Φ T15 (mkF m 232 #[.val (.long i0), .second, .val (.long i1), .second, .val (.int i2), .val (.long v13), .second, .val (.ref b2), .val (.ref b4), .val (.ref b6), .val (.int (1 : Int32)), .val (.int (1 : Int32)), .val (.int (0 : Int32)), .val (.ref b4), .val (.ref b6), .val (.int (0 : Int32))] [(.int (1 : Int32)), (.int (0 : Int32))])
        refine Go.of (fun t k => XS.ifYes X15.here hx rfl (pc0 := 232) (pc' := 239) rfl (hb hby at_232) rfl (XT.i0_ne_t (by decide)) (by decide) (by decide) k) ?_
        show Go p e below Φ T15 (mkF m 239 #[.val (.long i0), .second, .val (.long i1), .second, .val (.int i2), .val (.long v13), .second, .val (.ref b2), .val (.ref b4), .val (.ref b6), .val (.int (1 : Int32)), .val (.int (1 : Int32)), .val (.int (0 : Int32)), .val (.ref b4), .val (.ref b6), .val (.int (0 : Int32))] [(.int (0 : Int32))])
        refine Go.of (fun t k => XS.iconst X15.here hx rfl (hb hby at_239) k) ?_
        show Go p e below Φ T15 (mkF m 240 #[.val (.long i0), .second, .val (.long i1), .second, .val (.int i2), .val (.long v13), .second, .val (.ref b2), .val (.ref b4), .val (.ref b6), .val (.int (1 : Int32)), .val (.int (1 : Int32)), .val (.int (0 : Int32)), .val (.ref b4), .val (.ref b6), .val (.int (0 : Int32))] [(.int (0 : Int32)), (.int (0 : Int32))])
        refine Go.of (fun t k => XS.icmpNo X15.here hx rfl (hb hby at_240) rfl (XT.ii_ne_f rfl) k) ?_
        show Go p e below Φ T15 (mkF m 243 #[.val (.long i0), .second, .val (.long i1), .second, .val (.int i2), .val (.long v13), .second, .val (.ref b2), .val (.ref b4), .val (.ref b6), .val (.int (1 : Int32)), .val (.int (1 : Int32)), .val (.int (0 : Int32)), .val (.ref b4), .val (.ref b6), .val (.int (0 : Int32))] [])
        refine Go.of (fun t k => XS.iconst X15.here hx rfl (hb hby at_243) k) ?_
        show Go p e below Φ T15 (mkF m 244 #[.val (.long i0), .second, .val (.long i1), .second, .val (.int i2), .val (.long v13), .second, .val (.ref b2), .val (.ref b4), .val (.ref b6), .val (.int (1 : Int32)), .val (.int (1 : Int32)), .val (.int (0 : Int32)), .val (.ref b4), .val (.ref b6), .val (.int (0 : Int32))] [(.int (1 : Int32))])
        refine Go.of (fun t k => XS.goto X15.here hx rfl (pc0 := 244) (pc' := 248) rfl (hb hby at_244) (by decide) (by decide) k) ?_
        show Go p e below Φ T15 (mkF m 248 #[.val (.long i0), .second, .val (.long i1), .second, .val (.int i2), .val (.long v13), .second, .val (.ref b2), .val (.ref b4), .val (.ref b6), .val (.int (1 : Int32)), .val (.int (1 : Int32)), .val (.int (0 : Int32)), .val (.ref b4), .val (.ref b6), .val (.int (0 : Int32))] [(.int (1 : Int32))])
        refine Go.of (fun t k => XS.istore X15.here hx rfl (hb hby at_248) rfl (l' := #[.val (.long i0), .second, .val (.long i1), .second, .val (.int i2), .val (.long v13), .second, .val (.ref b2), .val (.ref b4), .val (.ref b6), .val (.int (1 : Int32)), .val (.int (1 : Int32)), .val (.int (0 : Int32)), .val (.ref b4), .val (.ref b6), .val (.int (0 : Int32))]) rfl k) ?_
        show Go p e below Φ T15 (mkF m 250 #[.val (.long i0), .second, .val (.long i1), .second, .val (.int i2), .val (.long v13), .second, .val (.ref b2), .val (.ref b4), .val (.ref b6), .val (.int (1 : Int32)), .val (.int (1 : Int32)), .val (.int (0 : Int32)), .val (.ref b4), .val (.ref b6), .val (.int (0 : Int32))] [])
        refine Go.of (fun t k => XS.iload X15.here hx rfl (hb hby at_250) rfl  k) ?_
        show Go p e below Φ T15 (mkF m 252 #[.val (.long i0), .second, .val (.long i1), .second, .val (.int i2), .val (.long v13), .second, .val (.ref b2), .val (.ref b4), .val (.ref b6), .val (.int (1 : Int32)), .val (.int (1 : Int32)), .val (.int (0 : Int32)), .val (.ref b4), .val (.ref b6), .val (.int (0 : Int32))] [(.int (1 : Int32))])
        rw [hΦ]
        refine Go.ret X15 hx Bd.notSynchronized Bd.returns rfl (Or.inl ⟨rfl, Or.inr (Or.inl rfl), _, rfl⟩) (hb hby at_252) (by decide) (by decide) ?_
        rw [(e15q)]
        exact ⟨rfl, N15⟩
      · refine Go.of (fun t k => XS.ifNo X14.here hx rfl (hb hby at_179) rfl (XT.i0_eq_f hc179) k) ?_
        show Go p e below Φ T14 (mkF m 182 #[.val (.long i0), .second, .val (.long i1), .second, .val (.int i2), .val (.long v13), .second, .val (.ref b2), .val (.ref b4), .val (.ref b6), .val (.int (1 : Int32)), .val (.int (1 : Int32)), .val (.int (0 : Int32)), .val (.ref b4), .val (.ref b6), .val (.int (0 : Int32))] [])
        refine Go.of (fun t k => XS.aload X14.here hx rfl (hb hby at_182) rfl rfl  k) ?_
        show Go p e below Φ T14 (mkF m 184 #[.val (.long i0), .second, .val (.long i1), .second, .val (.int i2), .val (.long v13), .second, .val (.ref b2), .val (.ref b4), .val (.ref b6), .val (.int (1 : Int32)), .val (.int (1 : Int32)), .val (.int (0 : Int32)), .val (.ref b4), .val (.ref b6), .val (.int (0 : Int32))] [(.ref b2)])
        refine Go.of (fun t k => XS.aload X14.here hx rfl (hb hby at_184) rfl rfl  k) ?_
        show Go p e below Φ T14 (mkF m 186 #[.val (.long i0), .second, .val (.long i1), .second, .val (.int i2), .val (.long v13), .second, .val (.ref b2), .val (.ref b4), .val (.ref b6), .val (.int (1 : Int32)), .val (.int (1 : Int32)), .val (.int (0 : Int32)), .val (.ref b4), .val (.ref b6), .val (.int (0 : Int32))] [(.ref b4), (.ref b2)])
        obtain ⟨cq16, kq16, q16a, q16b, q16c⟩ := isOf hZ (e14q) E_b2
        obtain ⟨_, _, ⟨T16, L16, k16, n16⟩, -, X16, ⟨Lc16, hQ16, l16, y16, z16⟩, st16⟩ := X14.virtualBack hx (y := (⟨"com/example/demarq/demarq/broker/SortedMessages", "remove", "(Lcom/example/demarq/demarq/broker/Message;)V"⟩ : MethodName)) (z := (⟨"com/example/demarq/demarq/broker/SortedMessages", "remove", "(Lcom/example/demarq/demarq/broker/Message;)V"⟩ : MethodName)) hown (mvT hZ (hw _ (List.mem_of_getElem? (i := 49) rfl))) (mvT hZ (hw _ (List.mem_of_getElem? (i := 50) rfl))) (notFace_of_selects (args := #[]) (mvT hZ (hw _ (List.mem_of_getElem? (i := 52) rfl)))) (mvT hZ (hw _ (List.mem_of_getElem? (i := 52) rfl))) (mvT hZ (hw _ (List.mem_of_getElem? (i := 51) rfl))) (by decide) (backOf (W := 0) (rm8a l Z a0 hw [] b2 b4 b3 k3 (((0 : Int32), (.ref b4)) :: []) (0 : Int32) i0 T13.heap n0 Z13 F_b2_head F_b2_ring V_b3 E_b2 g_b2 g_b3 ne_b2_b3 F_b2_size ⟨by decide, by decide⟩ (getH_hit (by decide) (by decide)) E_b4 F_b4_position (Ne.symm ne_b2_b4) (Ne.symm ne_b3_b4)) hZ (hw _ (List.mem_of_getElem? (i := 53) rfl)) (hw _ (List.mem_of_getElem? (i := 2) rfl)) (by decide) (by decide)) q16a q16c (g := (mkF m 186 #[.val (.long i0), .second, .val (.long i1), .second, .val (.int i2), .val (.long v13), .second, .val (.ref b2), .val (.ref b4), .val (.ref b6), .val (.int (1 : Int32)), .val (.int (1 : Int32)), .val (.int (0 : Int32)), .val (.ref b4), .val (.ref b6), .val (.int (0 : Int32))] [(.ref b4), (.ref b2)])) rfl (by rw [hml]; rfl) (Steps.refl _) (argsL := [(.ref b4)]) (rest := []) (lenOf own_pd10 rfl) rfl (by show 2 * 0 + _ ≤ _; exact Nat.le_of_eq rfl) (hb hby at_186) (fun _ _ => ⟨rfl, (e14q), (by decide : 4 + 1 ≤ _), (by decide : 27 + 2 ≤ _)⟩)
        dsimp only [Pt.U, Pt.locs, Pt.cells, Pt.slots] at X16 l16 y16 z16 st16 hQ16
        subst l16 y16 z16
        obtain ⟨rfl, N16q, K16q, c16_0⟩ := hQ16
        have N16 := Fr.app N14 N16q
        obtain ⟨lc16, X16, N16⟩ : ∃ lc, Stand p l e room_1 s m #[(.long i0), (.long i1), (.int i2)] below meth c T16 lc 5 29 ∧ Fr n0 lc := ⟨_, X16, N16⟩
        have E_b2 := E_b2.keep K16q
        have E_b4 := E_b4.keep K16q
        have F_b4_position := F_b4_position.keep K16q (ninS (Ne.symm ne_b2_b4) (ninS (Ne.symm ne_b3_b4) nin0))
        have E_b6 := E_b6.keep K16q
        have F_b6_position := F_b6_position.keep K16q (ninS (Ne.symm ne_b2_b6) (ninS (Ne.symm ne_b3_b6) nin0))
        have F_b2_size := c16_0
        have Z16 := Nat.le_trans Z13 K16q.1
        refine Go.tr st16 ?_
        show Go p e below Φ T16 (mkF m 189 #[.val (.long i0), .second, .val (.long i1), .second, .val (.int i2), .val (.long v13), .second, .val (.ref b2), .val (.ref b4), .val (.ref b6), .val (.int (1 : Int32)), .val (.int (1 : Int32)), .val (.int (0 : Int32)), .val (.ref b4), .val (.ref b6), .val (.int (0 : Int32))] [])
        refine Go.of (fun t k => XS.iinc X16.here hx rfl (hb hby at_189) rfl (l' := #[.val (.long i0), .second, .val (.long i1), .second, .val (.int i2), .val (.long v13), .second, .val (.ref b2), .val (.ref b4), .val (.ref b6), .val (.int (1 : Int32)), .val (.int (1 : Int32)), .val (.int (0 : Int32)), .val (.ref b4), .val (.ref b6), .val (.int (1 : Int32))]) rfl k) ?_
        show Go p e below Φ T16 (mkF m 192 #[.val (.long i0), .second, .val (.long i1), .second, .val (.int i2), .val (.long v13), .second, .val (.ref b2), .val (.ref b4), .val (.ref b6), .val (.int (1 : Int32)), .val (.int (1 : Int32)), .val (.int (0 : Int32)), .val (.ref b4), .val (.ref b6), .val (.int (1 : Int32))] [])
        refine Go.of (fun t k => XS.iload X16.here hx rfl (hb hby at_192) rfl  k) ?_
        show Go p e below Φ T16 (mkF m 194 #[.val (.long i0), .second, .val (.long i1), .second, .val (.int i2), .val (.long v13), .second, .val (.ref b2), .val (.ref b4), .val (.ref b6), .val (.int (1 : Int32)), .val (.int (1 : Int32)), .val (.int (0 : Int32)), .val (.ref b4), .val (.ref b6), .val (.int (1 : Int32))] [(.int (1 : Int32))])
        refine Go.of (fun t k => XS.iconst X16.here hx rfl (hb hby at_194) k) ?_
        show Go p e below Φ T16 (mkF m 195 #[.val (.long i0), .second, .val (.long i1), .second, .val (.int i2), .val (.long v13), .second, .val (.ref b2), .val (.ref b4), .val (.ref b6), .val (.int (1 : Int32)), .val (.int (1 : Int32)), .val (.int (0 : Int32)), .val (.ref b4), .val (.ref b6), .val (.int (1 : Int32))] [(.int (2 : Int32)), (.int (1 : Int32))])
        refine Go.of (fun t k => XS.icmpYes X16.here hx rfl (pc0 := 195) (pc' := 217) rfl (hb hby at_195) rfl (XT.ii_lt_t (by decide)) (by decide) (by decide) k) ?_
        show Go p e below Φ T16 (mkF m 217 #[.val (.long i0), .second, .val (.long i1), .second, .val (.int i2), .val (.long v13), .second, .val (.ref b2), .val (.ref b4), .val (.ref b6), .val (.int (1 : Int32)), .val (.int (1 : Int32)), .val (.int (0 : Int32)), .val (.ref b4), .val (.ref b6), .val (.int (1 : Int32))] [])
        refine Go.of (fun t k => XS.iload X16.here hx rfl (hb hby at_217) rfl  k) ?_
        show Go p e below Φ T16 (mkF m 219 #[.val (.long i0), .second, .val (.long i1), .second, .val (.int i2), .val (.long v13), .second, .val (.ref b2), .val (.ref b4), .val (.ref b6), .val (.int (1 : Int32)), .val (.int (1 : Int32)), .val (.int (0 : Int32)), .val (.ref b4), .val (.ref b6), .val (.int (1 : Int32))] [(.int (1 : Int32))])
        refine Go.of (fun t k => XS.ifNo X16.here hx rfl (hb hby at_219) rfl (XT.i0_eq_f (by decide)) k) ?_
        show Go p e below Φ T16 (mkF m 222 #[.val (.long i0), .second, .val (.long i1), .second, .val (.int i2), .val (.long v13), .second, .val (.ref b2), .val (.ref b4), .val (.ref b6), .val (.int (1 : Int32)), .val (.int (1 : Int32)), .val (.int (0 : Int32)), .val (.ref b4), .val (.ref b6), .val (.int (1 : Int32))] [])
        refine Go.of (fun t k => XS.aload X16.here hx rfl (hb hby at_222) rfl rfl  k) ?_
        show Go p e below Φ T16 (mkF m 224 #[.val (.long i0), .second, .val (.long i1), .second, .val (.int i2), .val (.long v13), .second, .val (.ref b2), .val (.ref b4), .val (.ref b6), .val (.int (1 : Int32)), .val (.int (1 : Int32)), .val (.int (0 : Int32)), .val (.ref b4), .val (.ref b6), .val (.int (1 : Int32))] [(.ref b2)])
        obtain ⟨cq17, kq17, q17a, q17b, q17c⟩ := isOf hZ rfl E_b2
        obtain ⟨_, _, ⟨T17, L17, k17, n17⟩, -, X17, ⟨Lc17, hQ17, l17, y17, z17⟩, st17⟩ := X16.virtualBack hx (y := (⟨"com/example/demarq/demarq/broker/SortedMessages", "isEmpty", "()Z"⟩ : MethodName)) (z := (⟨"com/example/demarq/demarq/broker/SortedMessages", "isEmpty", "()Z"⟩ : MethodName)) hown (mvT hZ (hw _ (List.mem_of_getElem? (i := 26) rfl))) (mvT hZ (hw _ (List.mem_of_getElem? (i := 27) rfl))) (notFace_of_selects (args := #[]) (mvT hZ (hw _ (List.mem_of_getElem? (i := 29) rfl)))) (mvT hZ (hw _ (List.mem_of_getElem? (i := 29) rfl))) (mvT hZ (hw _ (List.mem_of_getElem? (i := 28) rfl))) (by decide) (backOf (W := 0) (rm4z l Z a0 hw [] b2 T16.heap n0 Z16 F_b2_size) hZ (hw _ (List.mem_of_getElem? (i := 30) rfl)) (hw _ (List.mem_of_getElem? (i := 2) rfl)) (by decide) (by decide)) q17a q17c (g := (mkF m 224 #[.val (.long i0), .second, .val (.long i1), .second, .val (.int i2), .val (.long v13), .second, .val (.ref b2), .val (.ref b4), .val (.ref b6), .val (.int (1 : Int32)), .val (.int (1 : Int32)), .val (.int (0 : Int32)), .val (.ref b4), .val (.ref b6), .val (.int (1 : Int32))] [(.ref b2)])) rfl (by rw [hml]; rfl) (Steps.refl _) (argsL := []) (rest := []) (lenOf own_pd9 rfl) rfl (by show 2 * 0 + _ ≤ _; exact Nat.le_of_eq rfl) (hb hby at_224) (fun _ _ => ⟨rfl, rfl, (by decide : 5 + 0 ≤ _), (by decide : 29 + 0 ≤ _)⟩)
        dsimp only [Pt.U, Pt.locs, Pt.cells, Pt.slots] at X17 l17 y17 z17 st17 hQ17
        subst l17 y17 z17
        obtain ⟨rfl, N17q, e17q⟩ := hQ17
        have N17 := Fr.app N16 N17q
        obtain ⟨lc17, X17, N17⟩ : ∃ lc, Stand p l e room_1 s m #[(.long i0), (.long i1), (.int i2)] below meth c T17 lc 5 29 ∧ Fr n0 lc := ⟨_, X17, N17⟩
        refine Go.tr st17 ?_
        show Go p e below Φ T17 (mkF m 227 #[.val (.long i0), .second, .val (.long i1), .second, .val (.int i2), .val (.long v13), .second, .val (.ref b2), .val (.ref b4), .val (.ref b6), .val (.int (1 : Int32)), .val (.int (1 : Int32)), .val (.int (0 : Int32)), .val (.ref b4), .val (.ref b6), .val (.int (1 : Int32))] [(.int (1 : Int32))])
        refine Go.of (fun t k => XS.iload X17.here hx rfl (hb hby at_227) rfl  k) ?_
        show Go p e below Φ T17 (mkF m 229 #[.val (.long i0), .second, .val (.long i1), .second, .val (.int i2), .val (.long v13), .second, .val (.ref b2), .val (.ref b4), .val (.ref b6), .val (.int (1 : Int32)), .val (.int (1 : Int32)), .val (.int (0 : Int32)), .val (.ref b4), .val (.ref b6), .val (.int (1 : Int32))] [(.int (1 : Int32)), (.int (1 : Int32))])
        refine Go.of (fun t k => XS.iload X17.here hx rfl (hb hby at_229) rfl  k) ?_
        show Go p e below Φ T17 (mkF m 231 #[.val (.long i0), .second, .val (.long i1), .second, .val (.int i2), .val (.long v13), .second, .val (.ref b2), .val (.ref b4), .val (.ref b6), .val (.int (1 : Int32)), .val (.int (1 : Int32)), .val (.int (0 : Int32)), .val (.ref b4), .val (.ref b6), .val (.int (1 : Int32))] [(.int (1 : Int32)), (.int (1 : Int32)), (.int (1 : Int32))])
        refine Go.of (fun t k => XS.isub X17.here hx rfl (hb hby at_231) rfl k) ?_
        show Go p e below Φ T17 (mkF m 232 #[.val (.long i0), .second, .val (.long i1), .second, .val (.int i2), .val (.long v13), .second, .val (.ref b2), .val (.ref b4), .val (.ref b6), .val (.int (1 : Int32)), .val (.int (1 : Int32)), .val (.int (0 : Int32)), .val (.ref b4), .val (.ref b6), .val (.int (1 : Int32))] [(.int (0 : Int32)), (.int (1 : Int32))])
        refine Go.of (fun t k => XS.ifNo X17.here hx rfl (hb hby at_232) rfl (XT.i0_ne_f rfl) k) ?_
        show Go p e below Φ T17 (mkF m 235 #[.val (.long i0), .second, .val (.long i1), .second, .val (.int i2), .val (.long v13), .second, .val (.ref b2), .val (.ref b4), .val (.ref b6), .val (.int (1 : Int32)), .val (.int (1 : Int32)), .val (.int (0 : Int32)), .val (.ref b4), .val (.ref b6), .val (.int (1 : Int32))] [(.int (1 : Int32))])
        refine Go.of (fun t k => XS.iconst X17.here hx rfl (hb hby at_235) k) ?_
        show Go p e below Φ T17 (mkF m 236 #[.val (.long i0), .second, .val (.long i1), .second, .val (.int i2), .val (.long v13), .second, .val (.ref b2), .val (.ref b4), .val (.ref b6), .val (.int (1 : Int32)), .val (.int (1 : Int32)), .val (.int (0 : Int32)), .val (.ref b4), .val (.ref b6), .val (.int (1 : Int32))] [(.int (1 : Int32)), (.int (1 : Int32))])
        refine Go.of (fun t k => XS.goto X17.here hx rfl (pc0 := 236) (pc' := 240) rfl (hb hby at_236) (by decide) (by decide) k) ?_
        show Go p e below Φ T17 (mkF m 240 #[.val (.long i0), .second, .val (.long i1), .second, .val (.int i2), .val (.long v13), .second, .val (.ref b2), .val (.ref b4), .val (.ref b6), .val (.int (1 : Int32)), .val (.int (1 : Int32)), .val (.int (0 : Int32)), .val (.ref b4), .val (.ref b6), .val (.int (1 : Int32))] [(.int (1 : Int32)), (.int (1 : Int32))])
        refine Go.of (fun t k => XS.icmpNo X17.here hx rfl (hb hby at_240) rfl (XT.ii_ne_f rfl) k) ?_
        show Go p e below Φ T17 (mkF m 243 #[.val (.long i0), .second, .val (.long i1), .second, .val (.int i2), .val (.long v13), .second, .val (.ref b2), .val (.ref b4), .val (.ref b6), .val (.int (1 : Int32)), .val (.int (1 : Int32)), .val (.int (0 : Int32)), .val (.ref b4), .val (.ref b6), .val (.int (1 : Int32))] [])
        refine Go.of (fun t k => XS.iconst X17.here hx rfl (hb hby at_243) k) ?_
        show Go p e below Φ T17 (mkF m 244 #[.val (.long i0), .second, .val (.long i1), .second, .val (.int i2), .val (.long v13), .second, .val (.ref b2), .val (.ref b4), .val (.ref b6), .val (.int (1 : Int32)), .val (.int (1 : Int32)), .val (.int (0 : Int32)), .val (.ref b4), .val (.ref b6), .val (.int (1 : Int32))] [(.int (1 : Int32))])
        refine Go.of (fun t k => XS.goto X17.here hx rfl (pc0 := 244) (pc' := 248) rfl (hb hby at_244) (by decide) (by decide) k) ?_
        show Go p e below Φ T17 (mkF m 248 #[.val (.long i0), .second, .val (.long i1), .second, .val (.int i2), .val (.long v13), .second, .val (.ref b2), .val (.ref b4), .val (.ref b6), .val (.int (1 : Int32)), .val (.int (1 : Int32)), .val (.int (0 : Int32)), .val (.ref b4), .val (.ref b6), .val (.int (1 : Int32))] [(.int (1 : Int32))])
        refine Go.of (fun t k => XS.istore X17.here hx rfl (hb hby at_248) rfl (l' := #[.val (.long i0), .second, .val (.long i1), .second, .val (.int i2), .val (.long v13), .second, .val (.ref b2), .val (.ref b4), .val (.ref b6), .val (.int (1 : Int32)), .val (.int (1 : Int32)), .val (.int (0 : Int32)), .val (.ref b4), .val (.ref b6), .val (.int (1 : Int32))]) rfl k) ?_
        show Go p e below Φ T17 (mkF m 250 #[.val (.long i0), .second, .val (.long i1), .second, .val (.int i2), .val (.long v13), .second, .val (.ref b2), .val (.ref b4), .val (.ref b6), .val (.int (1 : Int32)), .val (.int (1 : Int32)), .val (.int (0 : Int32)), .val (.ref b4), .val (.ref b6), .val (.int (1 : Int32))] [])
        refine Go.of (fun t k => XS.iload X17.here hx rfl (hb hby at_250) rfl  k) ?_
        show Go p e below Φ T17 (mkF m 252 #[.val (.long i0), .second, .val (.long i1), .second, .val (.int i2), .val (.long v13), .second, .val (.ref b2), .val (.ref b4), .val (.ref b6), .val (.int (1 : Int32)), .val (.int (1 : Int32)), .val (.int (0 : Int32)), .val (.ref b4), .val (.ref b6), .val (.int (1 : Int32))] [(.int (1 : Int32))])
        rw [hΦ]
        refine Go.ret X17 hx Bd.notSynchronized Bd.returns rfl (Or.inl ⟨rfl, Or.inr (Or.inl rfl), _, rfl⟩) (hb hby at_252) (by decide) (by decide) ?_
        rw [(e17q)]
        exact ⟨rfl, N17⟩
    · refine Go.of (fun t k => XS.ifNo X8.here hx rfl (hb hby at_70) rfl (XT.i0_eq_f hc70) k) ?_
      show Go p e below Φ T8 (mkF m 73 #[.val (.long i0), .second, .val (.long i1), .second, .val (.int i2), .val (.long v13), .second, .val (.ref b2), .val (.ref b4), .val (.ref b6), .val (.int (1 : Int32)), .val (.int (1 : Int32)), .unset, .unset, .unset, .unset] [])
      refine Go.of (fun t k => XS.iconst X8.here hx rfl (hb hby at_73) k) ?_
      show Go p e below Φ T8 (mkF m 74 #[.val (.long i0), .second, .val (.long i1), .second, .val (.int i2), .val (.long v13), .second, .val (.ref b2), .val (.ref b4), .val (.ref b6), .val (.int (1 : Int32)), .val (.int (1 : Int32)), .unset, .unset, .unset, .unset] [(.int (1 : Int32))])
      refine Go.of (fun t k => XS.goto X8.here hx rfl (pc0 := 74) (pc' := 78) rfl (hb hby at_74) (by decide) (by decide) k) ?_
      show Go p e below Φ T8 (mkF m 78 #[.val (.long i0), .second, .val (.long i1), .second, .val (.int i2), .val (.long v13), .second, .val (.ref b2), .val (.ref b4), .val (.ref b6), .val (.int (1 : Int32)), .val (.int (1 : Int32)), .unset, .unset, .unset, .unset] [(.int (1 : Int32))])
      refine Go.of (fun t k => XS.istore X8.here hx rfl (hb hby at_78) rfl (l' := #[.val (.long i0), .second, .val (.long i1), .second, .val (.int i2), .val (.long v13), .second, .val (.ref b2), .val (.ref b4), .val (.ref b6), .val (.int (1 : Int32)), .val (.int (1 : Int32)), .val (.int (1 : Int32)), .unset, .unset, .unset]) rfl k) ?_
      show Go p e below Φ T8 (mkF m 80 #[.val (.long i0), .second, .val (.long i1), .second, .val (.int i2), .val (.long v13), .second, .val (.ref b2), .val (.ref b4), .val (.ref b6), .val (.int (1 : Int32)), .val (.int (1 : Int32)), .val (.int (1 : Int32)), .unset, .unset, .unset] [])
      refine Go.of (fun t k => XS.iload X8.here hx rfl (hb hby at_80) rfl  k) ?_
      show Go p e below Φ T8 (mkF m 82 #[.val (.long i0), .second, .val (.long i1), .second, .val (.int i2), .val (.long v13), .second, .val (.ref b2), .val (.ref b4), .val (.ref b6), .val (.int (1 : Int32)), .val (.int (1 : Int32)), .val (.int (1 : Int32)), .unset, .unset, .unset] [(.int (1 : Int32))])
      refine Go.of (fun t k => XS.ifNo X8.here hx rfl (hb hby at_82) rfl (XT.i0_eq_f (by decide)) k) ?_
      show Go p e below Φ T8 (mkF m 85 #[.val (.long i0), .second, .val (.long i1), .second, .val (.int i2), .val (.long v13), .second, .val (.ref b2), .val (.ref b4), .val (.ref b6), .val (.int (1 : Int32)), .val (.int (1 : Int32)), .val (.int (1 : Int32)), .unset, .unset, .unset] [])
      refine Go.of (fun t k => XS.aload X8.here hx rfl (hb hby at_85) rfl rfl  k) ?_
      show Go p e below Φ T8 (mkF m 87 #[.val (.long i0), .second, .val (.long i1), .second, .val (.int i2), .val (.long v13), .second, .val (.ref b2), .val (.ref b4), .val (.ref b6), .val (.int (1 : Int32)), .val (.int (1 : Int32)), .val (.int (1 : Int32)), .unset, .unset, .unset] [(.ref b6)])
      refine Go.of (fun t k => XS.goto X8.here hx rfl (pc0 := 87) (pc' := 92) rfl (hb hby at_87) (by decide) (by decide) k) ?_
      show Go p e below Φ T8 (mkF m 92 #[.val (.long i0), .second, .val (.long i1), .second, .val (.int i2), .val (.long v13), .second, .val (.ref b2), .val (.ref b4), .val (.ref b6), .val (.int (1 : Int32)), .val (.int (1 : Int32)), .val (.int (1 : Int32)), .unset, .unset, .unset] [(.ref b6)])
      refine Go.of (fun t k => XS.astore X8.here hx rfl (hb hby at_92) rfl rfl (l' := #[.val (.long i0), .second, .val (.long i1), .second, .val (.int i2), .val (.long v13), .second, .val (.ref b2), .val (.ref b4), .val (.ref b6), .val (.int (1 : Int32)), .val (.int (1 : Int32)), .val (.int (1 : Int32)), .val (.ref b6), .unset, .unset]) rfl k) ?_
      show Go p e below Φ T8 (mkF m 94 #[.val (.long i0), .second, .val (.long i1), .second, .val (.int i2), .val (.long v13), .second, .val (.ref b2), .val (.ref b4), .val (.ref b6), .val (.int (1 : Int32)), .val (.int (1 : Int32)), .val (.int (1 : Int32)), .val (.ref b6), .unset, .unset] [])
      refine Go.of (fun t k => XS.iload X8.here hx rfl (hb hby at_94) rfl  k) ?_
      show Go p e below Φ T8 (mkF m 96 #[.val (.long i0), .second, .val (.long i1), .second, .val (.int i2), .val (.long v13), .second, .val (.ref b2), .val (.ref b4), .val (.ref b6), .val (.int (1 : Int32)), .val (.int (1 : Int32)), .val (.int (1 : Int32)), .val (.ref b6), .unset, .unset] [(.int (1 : Int32))])
      refine Go.of (fun t k => XS.ifNo X8.here hx rfl (hb hby at_96) rfl (XT.i0_eq_f (by decide)) k) ?_
      show Go p e below Φ T8 (mkF m 99 #[.val (.long i0), .second, .val (.long i1), .second, .val (.int i2), .val (.long v13), .second, .val (.ref b2), .val (.ref b4), .val (.ref b6), .val (.int (1 : Int32)), .val (.int (1 : Int32)), .val (.int (1 : Int32)), .val (.ref b6), .unset, .unset] [])
      refine Go.of (fun t k => XS.aload X8.here hx rfl (hb hby at_99) rfl rfl  k) ?_
      show Go p e below Φ T8 (mkF m 101 #[.val (.long i0), .second, .val (.long i1), .second, .val (.int i2), .val (.long v13), .second, .val (.ref b2), .val (.ref b4), .val (.ref b6), .val (.int (1 : Int32)), .val (.int (1 : Int32)), .val (.int (1 : Int32)), .val (.ref b6), .unset, .unset] [(.ref b4)])
      refine Go.of (fun t k => XS.goto X8.here hx rfl (pc0 := 101) (pc' := 106) rfl (hb hby at_101) (by decide) (by decide) k) ?_
      show Go p e below Φ T8 (mkF m 106 #[.val (.long i0), .second, .val (.long i1), .second, .val (.int i2), .val (.long v13), .second, .val (.ref b2), .val (.ref b4), .val (.ref b6), .val (.int (1 : Int32)), .val (.int (1 : Int32)), .val (.int (1 : Int32)), .val (.ref b6), .unset, .unset] [(.ref b4)])
      refine Go.of (fun t k => XS.astore X8.here hx rfl (hb hby at_106) rfl rfl (l' := #[.val (.long i0), .second, .val (.long i1), .second, .val (.int i2), .val (.long v13), .second, .val (.ref b2), .val (.ref b4), .val (.ref b6), .val (.int (1 : Int32)), .val (.int (1 : Int32)), .val (.int (1 : Int32)), .val (.ref b6), .val (.ref b4), .unset]) rfl k) ?_
      show Go p e below Φ T8 (mkF m 108 #[.val (.long i0), .second, .val (.long i1), .second, .val (.int i2), .val (.long v13), .second, .val (.ref b2), .val (.ref b4), .val (.ref b6), .val (.int (1 : Int32)), .val (.int (1 : Int32)), .val (.int (1 : Int32)), .val (.ref b6), .val (.ref b4), .unset] [])
      refine Go.of (fun t k => XS.iload X8.here hx rfl (hb hby at_108) rfl  k) ?_
      show Go p e below Φ T8 (mkF m 110 #[.val (.long i0), .second, .val (.long i1), .second, .val (.int i2), .val (.long v13), .second, .val (.ref b2), .val (.ref b4), .val (.ref b6), .val (.int (1 : Int32)), .val (.int (1 : Int32)), .val (.int (1 : Int32)), .val (.ref b6), .val (.ref b4), .unset] [(.int (1 : Int32))])
      refine Go.of (fun t k => XS.iconst X8.here hx rfl (hb hby at_110) k) ?_
      show Go p e below Φ T8 (mkF m 111 #[.val (.long i0), .second, .val (.long i1), .second, .val (.int i2), .val (.long v13), .second, .val (.ref b2), .val (.ref b4), .val (.ref b6), .val (.int (1 : Int32)), .val (.int (1 : Int32)), .val (.int (1 : Int32)), .val (.ref b6), .val (.ref b4), .unset] [(.int (1 : Int32)), (.int (1 : Int32))])
      refine Go.of (fun t k => XS.icmpNo X8.here hx rfl (hb hby at_111) rfl (XT.ii_lt_f (by decide)) k) ?_
      show Go p e below Φ T8 (mkF m 114 #[.val (.long i0), .second, .val (.long i1), .second, .val (.int i2), .val (.long v13), .second, .val (.ref b2), .val (.ref b4), .val (.ref b6), .val (.int (1 : Int32)), .val (.int (1 : Int32)), .val (.int (1 : Int32)), .val (.ref b6), .val (.ref b4), .unset] [])
      refine Go.of (fun t k => XS.aload X8.here hx rfl (hb hby at_114) rfl rfl  k) ?_
      show Go p e below Φ T8 (mkF m 116 #[.val (.long i0), .second, .val (.long i1), .second, .val (.int i2), .val (.long v13), .second, .val (.ref b2), .val (.ref b4), .val (.ref b6), .val (.int (1 : Int32)), .val (.int (1 : Int32)), .val (.int (1 : Int32)), .val (.ref b6), .val (.ref b4), .unset] [(.ref b2)])
      refine Go.of (fun t k => XS.aload X8.here hx rfl (hb hby at_116) rfl rfl  k) ?_
      show Go p e below Φ T8 (mkF m 118 #[.val (.long i0), .second, .val (.long i1), .second, .val (.int i2), .val (.long v13), .second, .val (.ref b2), .val (.ref b4), .val (.ref b6), .val (.int (1 : Int32)), .val (.int (1 : Int32)), .val (.int (1 : Int32)), .val (.ref b6), .val (.ref b4), .unset] [(.ref b6), (.ref b2)])
      obtain ⟨cq18, kq18, q18a, q18b, q18c⟩ := isOf hZ (e8q) E_b2
      obtain ⟨_, _, ⟨T18, L18, k18, n18⟩, -, X18, ⟨Lc18, hQ18, l18, y18, z18⟩, st18⟩ := X8.virtualBack hx (y := (⟨"com/example/demarq/demarq/broker/SortedMessages", "add", "(Lcom/example/demarq/demarq/broker/Message;)V"⟩ : MethodName)) (z := (⟨"com/example/demarq/demarq/broker/SortedMessages", "add", "(Lcom/example/demarq/demarq/broker/Message;)V"⟩ : MethodName)) hown (mvT hZ (hw _ (List.mem_of_getElem? (i := 33) rfl))) (mvT hZ (hw _ (List.mem_of_getElem? (i := 34) rfl))) (notFace_of_selects (args := #[]) (mvT hZ (hw _ (List.mem_of_getElem? (i := 36) rfl)))) (mvT hZ (hw _ (List.mem_of_getElem? (i := 36) rfl))) (mvT hZ (hw _ (List.mem_of_getElem? (i := 35) rfl))) (by decide) (backOf (W := 0) (rm5z l Z a0 hw [] b2 b6 b3 k3 [] T7.heap n0 Z7 F_b2_head F_b2_ring V_b3 F_b2_size E_b6 E_b2 g_b2 g_b3 ne_b2_b3 Ov3) hZ (hw _ (List.mem_of_getElem? (i := 37) rfl)) (hw _ (List.mem_of_getElem? (i := 2) rfl)) (by decide) (by decide)) q18a q18c (g := (mkF m 118 #[.val (.long i0), .second, .val (.long i1), .second, .val (.int i2), .val (.long v13), .second, .val (.ref b2), .val (.ref b4), .val (.ref b6), .val (.int (1 : Int32)), .val (.int (1 : Int32)), .val (.int (1 : Int32)), .val (.ref b6), .val (.ref b4), .unset] [(.ref b6), (.ref b2)])) rfl (by rw [hml]; rfl) (Steps.refl _) (argsL := [(.ref b6)]) (rest := []) (lenOf own_pd10 rfl) rfl (by show 2 * 0 + _ ≤ _; exact Nat.le_of_eq rfl) (hb hby at_118) (fun _ _ => ⟨rfl, (e8q), (by decide : 4 + 0 ≤ _), (by decide : 27 + 0 ≤ _)⟩)
      dsimp only [Pt.U, Pt.locs, Pt.cells, Pt.slots] at X18 l18 y18 z18 st18 hQ18
      subst l18 y18 z18
      obtain ⟨rfl, N18q, K18q, c18_0, c18_1, c18_2, c18_3⟩ := hQ18
      have N18 := Fr.app N8 N18q
      obtain ⟨lc18, X18, N18⟩ : ∃ lc, Stand p l e room_1 s m #[(.long i0), (.long i1), (.int i2)] below meth c T18 lc 4 27 ∧ Fr n0 lc := ⟨_, X18, N18⟩
      have E_b2 := E_b2.keep K18q
      have E_b4 := E_b4.keep K18q
      have F_b4_position := F_b4_position.keep K18q (ninS (Ne.symm ne_b2_b4) (ninS (Ne.symm ne_b3_b4) nin0))
      have E_b6 := E_b6.keep K18q
      have F_b6_position := F_b6_position.keep K18q (ninS (Ne.symm ne_b2_b6) (ninS (Ne.symm ne_b3_b6) nin0))
      have F_b2_size := c18_0
      have F_b2_head := c18_1
      have F_b2_ring := c18_2
      have V_b3 : Arh Z T18.heap b3 k3 (.object "com/example/demarq/demarq/broker/Message") (16 : Int32) (((0 : Int32), (.ref b6)) :: []) [] .null := c18_3
      have Z18 := Nat.le_trans Z7 K18q.1
      refine Go.tr st18 ?_
      show Go p e below Φ T18 (mkF m 121 #[.val (.long i0), .second, .val (.long i1), .second, .val (.int i2), .val (.long v13), .second, .val (.ref b2), .val (.ref b4), .val (.ref b6), .val (.int (1 : Int32)), .val (.int (1 : Int32)), .val (.int (1 : Int32)), .val (.ref b6), .val (.ref b4), .unset] [])
      refine Go.of (fun t k => XS.iload X18.here hx rfl (hb hby at_121) rfl  k) ?_
      show Go p e below Φ T18 (mkF m 123 #[.val (.long i0), .second, .val (.long i1), .second, .val (.int i2), .val (.long v13), .second, .val (.ref b2), .val (.ref b4), .val (.ref b6), .val (.int (1 : Int32)), .val (.int (1 : Int32)), .val (.int (1 : Int32)), .val (.ref b6), .val (.ref b4), .unset] [(.int (1 : Int32))])
      refine Go.of (fun t k => XS.iconst X18.here hx rfl (hb hby at_123) k) ?_
      show Go p e below Φ T18 (mkF m 124 #[.val (.long i0), .second, .val (.long i1), .second, .val (.int i2), .val (.long v13), .second, .val (.ref b2), .val (.ref b4), .val (.ref b6), .val (.int (1 : Int32)), .val (.int (1 : Int32)), .val (.int (1 : Int32)), .val (.ref b6), .val (.ref b4), .unset] [(.int (2 : Int32)), (.int (1 : Int32))])
      refine Go.of (fun t k => XS.icmpYes X18.here hx rfl (pc0 := 124) (pc' := 134) rfl (hb hby at_124) rfl (XT.ii_lt_t (by decide)) (by decide) (by decide) k) ?_
      show Go p e below Φ T18 (mkF m 134 #[.val (.long i0), .second, .val (.long i1), .second, .val (.int i2), .val (.long v13), .second, .val (.ref b2), .val (.ref b4), .val (.ref b6), .val (.int (1 : Int32)), .val (.int (1 : Int32)), .val (.int (1 : Int32)), .val (.ref b6), .val (.ref b4), .unset] [])
      refine Go.of (fun t k => XS.iload X18.here hx rfl (hb hby at_134) rfl  k) ?_
      show Go p e below Φ T18 (mkF m 136 #[.val (.long i0), .second, .val (.long i1), .second, .val (.int i2), .val (.long v13), .second, .val (.ref b2), .val (.ref b4), .val (.ref b6), .val (.int (1 : Int32)), .val (.int (1 : Int32)), .val (.int (1 : Int32)), .val (.ref b6), .val (.ref b4), .unset] [(.int (1 : Int32))])
      refine Go.of (fun t k => XS.ifNo X18.here hx rfl (hb hby at_136) rfl (XT.i0_eq_f (by decide)) k) ?_
      show Go p e below Φ T18 (mkF m 139 #[.val (.long i0), .second, .val (.long i1), .second, .val (.int i2), .val (.long v13), .second, .val (.ref b2), .val (.ref b4), .val (.ref b6), .val (.int (1 : Int32)), .val (.int (1 : Int32)), .val (.int (1 : Int32)), .val (.ref b6), .val (.ref b4), .unset] [])
      refine Go.of (fun t k => XS.aload X18.here hx rfl (hb hby at_139) rfl rfl  k) ?_
      show Go p e below Φ T18 (mkF m 141 #[.val (.long i0), .second, .val (.long i1), .second, .val (.int i2), .val (.long v13), .second, .val (.ref b2), .val (.ref b4), .val (.ref b6), .val (.int (1 : Int32)), .val (.int (1 : Int32)), .val (.int (1 : Int32)), .val (.ref b6), .val (.ref b4), .unset] [(.ref b2)])
      obtain ⟨cq19, kq19, q19a, q19b, q19c⟩ := isOf hZ rfl E_b2
      obtain ⟨_, _, ⟨T19, L19, k19, n19⟩, -, X19, ⟨Lc19, hQ19, l19, y19, z19⟩, st19⟩ := X18.virtualBack hx (y := (⟨"com/example/demarq/demarq/broker/SortedMessages", "isEmpty", "()Z"⟩ : MethodName)) (z := (⟨"com/example/demarq/demarq/broker/SortedMessages", "isEmpty", "()Z"⟩ : MethodName)) hown (mvT hZ (hw _ (List.mem_of_getElem? (i := 26) rfl))) (mvT hZ (hw _ (List.mem_of_getElem? (i := 27) rfl))) (notFace_of_selects (args := #[]) (mvT hZ (hw _ (List.mem_of_getElem? (i := 29) rfl)))) (mvT hZ (hw _ (List.mem_of_getElem? (i := 29) rfl))) (mvT hZ (hw _ (List.mem_of_getElem? (i := 28) rfl))) (by decide) (backOf (W := 0) (rm4n l Z a0 hw [] b2 (1 : Int32) T18.heap n0 Z18 F_b2_size (by decide)) hZ (hw _ (List.mem_of_getElem? (i := 30) rfl)) (hw _ (List.mem_of_getElem? (i := 2) rfl)) (by decide) (by decide)) q19a q19c (g := (mkF m 141 #[.val (.long i0), .second, .val (.long i1), .second, .val (.int i2), .val (.long v13), .second, .val (.ref b2), .val (.ref b4), .val (.ref b6), .val (.int (1 : Int32)), .val (.int (1 : Int32)), .val (.int (1 : Int32)), .val (.ref b6), .val (.ref b4), .unset] [(.ref b2)])) rfl (by rw [hml]; rfl) (Steps.refl _) (argsL := []) (rest := []) (lenOf own_pd9 rfl) rfl (by show 2 * 0 + _ ≤ _; exact Nat.le_of_eq rfl) (hb hby at_141) (fun _ _ => ⟨rfl, rfl, (by decide : 4 + 0 ≤ _), (by decide : 27 + 0 ≤ _)⟩)
      dsimp only [Pt.U, Pt.locs, Pt.cells, Pt.slots] at X19 l19 y19 z19 st19 hQ19
      subst l19 y19 z19
      obtain ⟨rfl, N19q, e19q⟩ := hQ19
      have N19 := Fr.app N18 N19q
      obtain ⟨lc19, X19, N19⟩ : ∃ lc, Stand p l e room_1 s m #[(.long i0), (.long i1), (.int i2)] below meth c T19 lc 4 27 ∧ Fr n0 lc := ⟨_, X19, N19⟩
      refine Go.tr st19 ?_
      show Go p e below Φ T19 (mkF m 144 #[.val (.long i0), .second, .val (.long i1), .second, .val (.int i2), .val (.long v13), .second, .val (.ref b2), .val (.ref b4), .val (.ref b6), .val (.int (1 : Int32)), .val (.int (1 : Int32)), .val (.int (1 : Int32)), .val (.ref b6), .val (.ref b4), .unset] [(.int (0 : Int32))])
      refine Go.of (fun t k => XS.iload X19.here hx rfl (hb hby at_144) rfl  k) ?_
      show Go p e below Φ T19 (mkF m 146 #[.val (.long i0), .second, .val (.long i1), .second, .val (.int i2), .val (.long v13), .second, .val (.ref b2), .val (.ref b4), .val (.ref b6), .val (.int (1 : Int32)), .val (.int (1 : Int32)), .val (.int (1 : Int32)), .val (.ref b6), .val (.ref b4), .unset] [(.int (1 : Int32)), (.int (0 : Int32))])
      refine Go.of (fun t k => XS.ifYes X19.here hx rfl (pc0 := 146) (pc' := 153) rfl (hb hby at_146) rfl (XT.i0_ne_t (by decide)) (by decide) (by decide) k) ?_
      show Go p e below Φ T19 (mkF m 153 #[.val (.long i0), .second, .val (.long i1), .second, .val (.int i2), .val (.long v13), .second, .val (.ref b2), .val (.ref b4), .val (.ref b6), .val (.int (1 : Int32)), .val (.int (1 : Int32)), .val (.int (1 : Int32)), .val (.ref b6), .val (.ref b4), .unset] [(.int (0 : Int32))])
      refine Go.of (fun t k => XS.iconst X19.here hx rfl (hb hby at_153) k) ?_
      show Go p e below Φ T19 (mkF m 154 #[.val (.long i0), .second, .val (.long i1), .second, .val (.int i2), .val (.long v13), .second, .val (.ref b2), .val (.ref b4), .val (.ref b6), .val (.int (1 : Int32)), .val (.int (1 : Int32)), .val (.int (1 : Int32)), .val (.ref b6), .val (.ref b4), .unset] [(.int (0 : Int32)), (.int (0 : Int32))])
      refine Go.of (fun t k => XS.icmpNo X19.here hx rfl (hb hby at_154) rfl (XT.ii_ne_f rfl) k) ?_
      show Go p e below Φ T19 (mkF m 157 #[.val (.long i0), .second, .val (.long i1), .second, .val (.int i2), .val (.long v13), .second, .val (.ref b2), .val (.ref b4), .val (.ref b6), .val (.int (1 : Int32)), .val (.int (1 : Int32)), .val (.int (1 : Int32)), .val (.ref b6), .val (.ref b4), .unset] [])
      refine Go.of (fun t k => XS.iconst X19.here hx rfl (hb hby at_157) k) ?_
      show Go p e below Φ T19 (mkF m 158 #[.val (.long i0), .second, .val (.long i1), .second, .val (.int i2), .val (.long v13), .second, .val (.ref b2), .val (.ref b4), .val (.ref b6), .val (.int (1 : Int32)), .val (.int (1 : Int32)), .val (.int (1 : Int32)), .val (.ref b6), .val (.ref b4), .unset] [(.int (1 : Int32))])
      refine Go.of (fun t k => XS.goto X19.here hx rfl (pc0 := 158) (pc' := 162) rfl (hb hby at_158) (by decide) (by decide) k) ?_
      show Go p e below Φ T19 (mkF m 162 #[.val (.long i0), .second, .val (.long i1), .second, .val (.int i2), .val (.long v13), .second, .val (.ref b2), .val (.ref b4), .val (.ref b6), .val (.int (1 : Int32)), .val (.int (1 : Int32)), .val (.int (1 : Int32)), .val (.ref b6), .val (.ref b4), .unset] [(.int (1 : Int32))])
      refine Go.of (fun t k => XS.istore X19.here hx rfl (hb hby at_162) rfl (l' := #[.val (.long i0), .second, .val (.long i1), .second, .val (.int i2), .val (.long v13), .second, .val (.ref b2), .val (.ref b4), .val (.ref b6), .val (.int (1 : Int32)), .val (.int (1 : Int32)), .val (.int (1 : Int32)), .val (.ref b6), .val (.ref b4), .unset]) rfl k) ?_
      show Go p e below Φ T19 (mkF m 164 #[.val (.long i0), .second, .val (.long i1), .second, .val (.int i2), .val (.long v13), .second, .val (.ref b2), .val (.ref b4), .val (.ref b6), .val (.int (1 : Int32)), .val (.int (1 : Int32)), .val (.int (1 : Int32)), .val (.ref b6), .val (.ref b4), .unset] [])
      refine Go.of (fun t k => XS.iconst X19.here hx rfl (hb hby at_164) k) ?_
      show Go p e below Φ T19 (mkF m 165 #[.val (.long i0), .second, .val (.long i1), .second, .val (.int i2), .val (.long v13), .second, .val (.ref b2), .val (.ref b4), .val (.ref b6), .val (.int (1 : Int32)), .val (.int (1 : Int32)), .val (.int (1 : Int32)), .val (.ref b6), .val (.ref b4), .unset] [(.int (0 : Int32))])
      refine Go.of (fun t k => XS.istore X19.here hx rfl (hb hby at_165) rfl (l' := #[.val (.long i0), .second, .val (.long i1), .second, .val (.int i2), .val (.long v13), .second, .val (.ref b2), .val (.ref b4), .val (.ref b6), .val (.int (1 : Int32)), .val (.int (1 : Int32)), .val (.int (1 : Int32)), .val (.ref b6), .val (.ref b4), .val (.int (0 : Int32))]) rfl k) ?_
      show Go p e below Φ T19 (mkF m 167 #[.val (.long i0), .second, .val (.long i1), .second, .val (.int i2), .val (.long v13), .second, .val (.ref b2), .val (.ref b4), .val (.ref b6), .val (.int (1 : Int32)), .val (.int (1 : Int32)), .val (.int (1 : Int32)), .val (.ref b6), .val (.ref b4), .val (.int (0 : Int32))] [])
      refine Go.of (fun t k => XS.iload X19.here hx rfl (hb hby at_167) rfl  k) ?_
      show Go p e below Φ T19 (mkF m 169 #[.val (.long i0), .second, .val (.long i1), .second, .val (.int i2), .val (.long v13), .second, .val (.ref b2), .val (.ref b4), .val (.ref b6), .val (.int (1 : Int32)), .val (.int (1 : Int32)), .val (.int (1 : Int32)), .val (.ref b6), .val (.ref b4), .val (.int (0 : Int32))] [(.int (1 : Int32))])
      refine Go.of (fun t k => XS.iconst X19.here hx rfl (hb hby at_169) k) ?_
      show Go p e below Φ T19 (mkF m 170 #[.val (.long i0), .second, .val (.long i1), .second, .val (.int i2), .val (.long v13), .second, .val (.ref b2), .val (.ref b4), .val (.ref b6), .val (.int (1 : Int32)), .val (.int (1 : Int32)), .val (.int (1 : Int32)), .val (.ref b6), .val (.ref b4), .val (.int (0 : Int32))] [(.int (1 : Int32)), (.int (1 : Int32))])
      refine Go.of (fun t k => XS.icmpNo X19.here hx rfl (hb hby at_170) rfl (XT.ii_lt_f (by decide)) k) ?_
      show Go p e below Φ T19 (mkF m 173 #[.val (.long i0), .second, .val (.long i1), .second, .val (.int i2), .val (.long v13), .second, .val (.ref b2), .val (.ref b4), .val (.ref b6), .val (.int (1 : Int32)), .val (.int (1 : Int32)), .val (.int (1 : Int32)), .val (.ref b6), .val (.ref b4), .val (.int (0 : Int32))] [])
      refine Go.of (fun t k => XS.iload X19.here hx rfl (hb hby at_173) rfl  k) ?_
      show Go p e below Φ T19 (mkF m 175 #[.val (.long i0), .second, .val (.long i1), .second, .val (.int i2), .val (.long v13), .second, .val (.ref b2), .val (.ref b4), .val (.ref b6), .val (.int (1 : Int32)), .val (.int (1 : Int32)), .val (.int (1 : Int32)), .val (.ref b6), .val (.ref b4), .val (.int (0 : Int32))] [(.int i2)])
      refine Go.of (fun t k => XS.iconst X19.here hx rfl (hb hby at_175) k) ?_
      show Go p e below Φ T19 (mkF m 176 #[.val (.long i0), .second, .val (.long i1), .second, .val (.int i2), .val (.long v13), .second, .val (.ref b2), .val (.ref b4), .val (.ref b6), .val (.int (1 : Int32)), .val (.int (1 : Int32)), .val (.int (1 : Int32)), .val (.ref b6), .val (.ref b4), .val (.int (0 : Int32))] [(.int (2 : Int32)), (.int i2)])
      refine Go.of (fun t k => XS.iushr X19.here hx rfl (hb hby at_176) rfl k) ?_
      show Go p e below Φ T19 (mkF m 177 #[.val (.long i0), .second, .val (.long i1), .second, .val (.int i2), .val (.long v13), .second, .val (.ref b2), .val (.ref b4), .val (.ref b6), .val (.int (1 : Int32)), .val (.int (1 : Int32)), .val (.int (1 : Int32)), .val (.ref b6), .val (.ref b4), .val (.int (0 : Int32))] [(.int (own_ushr i2 (2 : Int32)))])
      refine Go.of (fun t k => XS.iconst X19.here hx rfl (hb hby at_177) k) ?_
      show Go p e below Φ T19 (mkF m 178 #[.val (.long i0), .second, .val (.long i1), .second, .val (.int i2), .val (.long v13), .second, .val (.ref b2), .val (.ref b4), .val (.ref b6), .val (.int (1 : Int32)), .val (.int (1 : Int32)), .val (.int (1 : Int32)), .val (.ref b6), .val (.ref b4), .val (.int (0 : Int32))] [(.int (1 : Int32)), (.int (own_ushr i2 (2 : Int32)))])
      refine Go.of (fun t k => XS.iand X19.here hx rfl (hb hby at_178) rfl k) ?_
      show Go p e below Φ T19 (mkF m 179 #[.val (.long i0), .second, .val (.long i1), .second, .val (.int i2), .val (.long v13), .second, .val (.ref b2), .val (.ref b4), .val (.ref b6), .val (.int (1 : Int32)), .val (.int (1 : Int32)), .val (.int (1 : Int32)), .val (.ref b6), .val (.ref b4), .val (.int (0 : Int32))] [(.int ((own_ushr i2 (2 : Int32)) &&& (1 : Int32)))])
      by_cases hc179 : ((own_ushr i2 (2 : Int32)) &&& (1 : Int32)) = (0 : Int32)
      · refine Go.of (fun t k => XS.ifYes X19.here hx rfl (pc0 := 179) (pc' := 192) rfl (hb hby at_179) rfl (XT.i0_eq_t hc179) (by decide) (by decide) k) ?_
        show Go p e below Φ T19 (mkF m 192 #[.val (.long i0), .second, .val (.long i1), .second, .val (.int i2), .val (.long v13), .second, .val (.ref b2), .val (.ref b4), .val (.ref b6), .val (.int (1 : Int32)), .val (.int (1 : Int32)), .val (.int (1 : Int32)), .val (.ref b6), .val (.ref b4), .val (.int (0 : Int32))] [])
        refine Go.of (fun t k => XS.iload X19.here hx rfl (hb hby at_192) rfl  k) ?_
        show Go p e below Φ T19 (mkF m 194 #[.val (.long i0), .second, .val (.long i1), .second, .val (.int i2), .val (.long v13), .second, .val (.ref b2), .val (.ref b4), .val (.ref b6), .val (.int (1 : Int32)), .val (.int (1 : Int32)), .val (.int (1 : Int32)), .val (.ref b6), .val (.ref b4), .val (.int (0 : Int32))] [(.int (1 : Int32))])
        refine Go.of (fun t k => XS.iconst X19.here hx rfl (hb hby at_194) k) ?_
        show Go p e below Φ T19 (mkF m 195 #[.val (.long i0), .second, .val (.long i1), .second, .val (.int i2), .val (.long v13), .second, .val (.ref b2), .val (.ref b4), .val (.ref b6), .val (.int (1 : Int32)), .val (.int (1 : Int32)), .val (.int (1 : Int32)), .val (.ref b6), .val (.ref b4), .val (.int (0 : Int32))] [(.int (2 : Int32)), (.int (1 : Int32))])
        refine Go.of (fun t k => XS.icmpYes X19.here hx rfl (pc0 := 195) (pc' := 217) rfl (hb hby at_195) rfl (XT.ii_lt_t (by decide)) (by decide) (by decide) k) ?_
        show Go p e below Φ T19 (mkF m 217 #[.val (.long i0), .second, .val (.long i1), .second, .val (.int i2), .val (.long v13), .second, .val (.ref b2), .val (.ref b4), .val (.ref b6), .val (.int (1 : Int32)), .val (.int (1 : Int32)), .val (.int (1 : Int32)), .val (.ref b6), .val (.ref b4), .val (.int (0 : Int32))] [])
        refine Go.of (fun t k => XS.iload X19.here hx rfl (hb hby at_217) rfl  k) ?_
        show Go p e below Φ T19 (mkF m 219 #[.val (.long i0), .second, .val (.long i1), .second, .val (.int i2), .val (.long v13), .second, .val (.ref b2), .val (.ref b4), .val (.ref b6), .val (.int (1 : Int32)), .val (.int (1 : Int32)), .val (.int (1 : Int32)), .val (.ref b6), .val (.ref b4), .val (.int (0 : Int32))] [(.int (1 : Int32))])
        refine Go.of (fun t k => XS.ifNo X19.here hx rfl (hb hby at_219) rfl (XT.i0_eq_f (by decide)) k) ?_
        show Go p e below Φ T19 (mkF m 222 #[.val (.long i0), .second, .val (.long i1), .second, .val (.int i2), .val (.long v13), .second, .val (.ref b2), .val (.ref b4), .val (.ref b6), .val (.int (1 : Int32)), .val (.int (1 : Int32)), .val (.int (1 : Int32)), .val (.ref b6), .val (.ref b4), .val (.int (0 : Int32))] [])
        refine Go.of (fun t k => XS.aload X19.here hx rfl (hb hby at_222) rfl rfl  k) ?_
        show Go p e below Φ T19 (mkF m 224 #[.val (.long i0), .second, .val (.long i1), .second, .val (.int i2), .val (.long v13), .second, .val (.ref b2), .val (.ref b4), .val (.ref b6), .val (.int (1 : Int32)), .val (.int (1 : Int32)), .val (.int (1 : Int32)), .val (.ref b6), .val (.ref b4), .val (.int (0 : Int32))] [(.ref b2)])
        obtain ⟨cq20, kq20, q20a, q20b, q20c⟩ := isOf hZ (e19q) E_b2
        obtain ⟨_, _, ⟨T20, L20, k20, n20⟩, -, X20, ⟨Lc20, hQ20, l20, y20, z20⟩, st20⟩ := X19.virtualBack hx (y := (⟨"com/example/demarq/demarq/broker/SortedMessages", "isEmpty", "()Z"⟩ : MethodName)) (z := (⟨"com/example/demarq/demarq/broker/SortedMessages", "isEmpty", "()Z"⟩ : MethodName)) hown (mvT hZ (hw _ (List.mem_of_getElem? (i := 26) rfl))) (mvT hZ (hw _ (List.mem_of_getElem? (i := 27) rfl))) (notFace_of_selects (args := #[]) (mvT hZ (hw _ (List.mem_of_getElem? (i := 29) rfl)))) (mvT hZ (hw _ (List.mem_of_getElem? (i := 29) rfl))) (mvT hZ (hw _ (List.mem_of_getElem? (i := 28) rfl))) (by decide) (backOf (W := 0) (rm4n l Z a0 hw [] b2 (1 : Int32) T18.heap n0 Z18 F_b2_size (by decide)) hZ (hw _ (List.mem_of_getElem? (i := 30) rfl)) (hw _ (List.mem_of_getElem? (i := 2) rfl)) (by decide) (by decide)) q20a q20c (g := (mkF m 224 #[.val (.long i0), .second, .val (.long i1), .second, .val (.int i2), .val (.long v13), .second, .val (.ref b2), .val (.ref b4), .val (.ref b6), .val (.int (1 : Int32)), .val (.int (1 : Int32)), .val (.int (1 : Int32)), .val (.ref b6), .val (.ref b4), .val (.int (0 : Int32))] [(.ref b2)])) rfl (by rw [hml]; rfl) (Steps.refl _) (argsL := []) (rest := []) (lenOf own_pd9 rfl) rfl (by show 2 * 0 + _ ≤ _; exact Nat.le_of_eq rfl) (hb hby at_224) (fun _ _ => ⟨rfl, (e19q), (by decide : 4 + 0 ≤ _), (by decide : 27 + 0 ≤ _)⟩)
        dsimp only [Pt.U, Pt.locs, Pt.cells, Pt.slots] at X20 l20 y20 z20 st20 hQ20
        subst l20 y20 z20
        obtain ⟨rfl, N20q, e20q⟩ := hQ20
        have N20 := Fr.app N19 N20q
        obtain ⟨lc20, X20, N20⟩ : ∃ lc, Stand p l e room_1 s m #[(.long i0), (.long i1), (.int i2)] below meth c T20 lc 4 27 ∧ Fr n0 lc := ⟨_, X20, N20⟩
        refine Go.tr st20 ?_
        show Go p e below Φ T20 (mkF m 227 #[.val (.long i0), .second, .val (.long i1), .second, .val (.int i2), .val (.long v13), .second, .val (.ref b2), .val (.ref b4), .val (.ref b6), .val (.int (1 : Int32)), .val (.int (1 : Int32)), .val (.int (1 : Int32)), .val (.ref b6), .val (.ref b4), .val (.int (0 : Int32))] [(.int (0 : Int32))])
        refine Go.of (fun t k => XS.iload X20.here hx rfl (hb hby at_227) rfl  k) ?_
        show Go p e below Φ T20 (mkF m 229 #[.val (.long i0), .second, .val (.long i1), .second, .val (.int i2), .val (.long v13), .second, .val (.ref b2), .val (.ref b4), .val (.ref b6), .val (.int (1 : Int32)), .val (.int (1 : Int32)), .val (.int (1 : Int32)), .val (.ref b6), .val (.ref b4), .val (.int (0 : Int32))] [(.int (1 : Int32)), (.int (0 : Int32))])
        refine Go.of (fun t k => XS.iload X20.here hx rfl (hb hby at_229) rfl  k) ?_
        show Go p e below Φ T20 (mkF m 231 #[.val (.long i0), .second, .val (.long i1), .second, .val (.int i2), .val (.long v13), .second, .val (.ref b2), .val (.ref b4), .val (.ref b6), .val (.int (1 : Int32)), .val (.int (1 : Int32)), .val (.int (1 : Int32)), .val (.ref b6), .val (.ref b4), .val (.int (0 : Int32))] [(.int (0 : Int32)), (.int (1 : Int32)), (.int (0 : Int32))])
        refine Go.of (fun t k => XS.isub X20.here hx rfl (hb hby at_231) rfl k) ?_
        show Go p e below Φ T20 (mkF m 232 #[.val (.long i0), .second, .val (.long i1), .second, .val (.int i2), .val (.long v13), .second, .val (.ref b2), .val (.ref b4), .val (.ref b6), .val (.int (1 : Int32)), .val (.int (1 : Int32)), .val (.int (1 : Int32)), .val (.ref b6), .val (.ref b4), .val (.int (0 : Int32))] [(.int (1 : Int32)), (.int (0 : Int32))])
        refine Go.of (fun t k => XS.ifYes X20.here hx rfl (pc0 := 232) (pc' := 239) rfl (hb hby at_232) rfl (XT.i0_ne_t (by decide)) (by decide) (by decide) k) ?_
        show Go p e below Φ T20 (mkF m 239 #[.val (.long i0), .second, .val (.long i1), .second, .val (.int i2), .val (.long v13), .second, .val (.ref b2), .val (.ref b4), .val (.ref b6), .val (.int (1 : Int32)), .val (.int (1 : Int32)), .val (.int (1 : Int32)), .val (.ref b6), .val (.ref b4), .val (.int (0 : Int32))] [(.int (0 : Int32))])
        refine Go.of (fun t k => XS.iconst X20.here hx rfl (hb hby at_239) k) ?_
        show Go p e below Φ T20 (mkF m 240 #[.val (.long i0), .second, .val (.long i1), .second, .val (.int i2), .val (.long v13), .second, .val (.ref b2), .val (.ref b4), .val (.ref b6), .val (.int (1 : Int32)), .val (.int (1 : Int32)), .val (.int (1 : Int32)), .val (.ref b6), .val (.ref b4), .val (.int (0 : Int32))] [(.int (0 : Int32)), (.int (0 : Int32))])
        refine Go.of (fun t k => XS.icmpNo X20.here hx rfl (hb hby at_240) rfl (XT.ii_ne_f rfl) k) ?_
        show Go p e below Φ T20 (mkF m 243 #[.val (.long i0), .second, .val (.long i1), .second, .val (.int i2), .val (.long v13), .second, .val (.ref b2), .val (.ref b4), .val (.ref b6), .val (.int (1 : Int32)), .val (.int (1 : Int32)), .val (.int (1 : Int32)), .val (.ref b6), .val (.ref b4), .val (.int (0 : Int32))] [])
        refine Go.of (fun t k => XS.iconst X20.here hx rfl (hb hby at_243) k) ?_
        show Go p e below Φ T20 (mkF m 244 #[.val (.long i0), .second, .val (.long i1), .second, .val (.int i2), .val (.long v13), .second, .val (.ref b2), .val (.ref b4), .val (.ref b6), .val (.int (1 : Int32)), .val (.int (1 : Int32)), .val (.int (1 : Int32)), .val (.ref b6), .val (.ref b4), .val (.int (0 : Int32))] [(.int (1 : Int32))])
        refine Go.of (fun t k => XS.goto X20.here hx rfl (pc0 := 244) (pc' := 248) rfl (hb hby at_244) (by decide) (by decide) k) ?_
        show Go p e below Φ T20 (mkF m 248 #[.val (.long i0), .second, .val (.long i1), .second, .val (.int i2), .val (.long v13), .second, .val (.ref b2), .val (.ref b4), .val (.ref b6), .val (.int (1 : Int32)), .val (.int (1 : Int32)), .val (.int (1 : Int32)), .val (.ref b6), .val (.ref b4), .val (.int (0 : Int32))] [(.int (1 : Int32))])
        refine Go.of (fun t k => XS.istore X20.here hx rfl (hb hby at_248) rfl (l' := #[.val (.long i0), .second, .val (.long i1), .second, .val (.int i2), .val (.long v13), .second, .val (.ref b2), .val (.ref b4), .val (.ref b6), .val (.int (1 : Int32)), .val (.int (1 : Int32)), .val (.int (1 : Int32)), .val (.ref b6), .val (.ref b4), .val (.int (0 : Int32))]) rfl k) ?_
        show Go p e below Φ T20 (mkF m 250 #[.val (.long i0), .second, .val (.long i1), .second, .val (.int i2), .val (.long v13), .second, .val (.ref b2), .val (.ref b4), .val (.ref b6), .val (.int (1 : Int32)), .val (.int (1 : Int32)), .val (.int (1 : Int32)), .val (.ref b6), .val (.ref b4), .val (.int (0 : Int32))] [])
        refine Go.of (fun t k => XS.iload X20.here hx rfl (hb hby at_250) rfl  k) ?_
        show Go p e below Φ T20 (mkF m 252 #[.val (.long i0), .second, .val (.long i1), .second, .val (.int i2), .val (.long v13), .second, .val (.ref b2), .val (.ref b4), .val (.ref b6), .val (.int (1 : Int32)), .val (.int (1 : Int32)), .val (.int (1 : Int32)), .val (.ref b6), .val (.ref b4), .val (.int (0 : Int32))] [(.int (1 : Int32))])
        rw [hΦ]
        refine Go.ret X20 hx Bd.notSynchronized Bd.returns rfl (Or.inl ⟨rfl, Or.inr (Or.inl rfl), _, rfl⟩) (hb hby at_252) (by decide) (by decide) ?_
        rw [(e20q)]
        exact ⟨rfl, N20⟩
      · refine Go.of (fun t k => XS.ifNo X19.here hx rfl (hb hby at_179) rfl (XT.i0_eq_f hc179) k) ?_
        show Go p e below Φ T19 (mkF m 182 #[.val (.long i0), .second, .val (.long i1), .second, .val (.int i2), .val (.long v13), .second, .val (.ref b2), .val (.ref b4), .val (.ref b6), .val (.int (1 : Int32)), .val (.int (1 : Int32)), .val (.int (1 : Int32)), .val (.ref b6), .val (.ref b4), .val (.int (0 : Int32))] [])
        refine Go.of (fun t k => XS.aload X19.here hx rfl (hb hby at_182) rfl rfl  k) ?_
        show Go p e below Φ T19 (mkF m 184 #[.val (.long i0), .second, .val (.long i1), .second, .val (.int i2), .val (.long v13), .second, .val (.ref b2), .val (.ref b4), .val (.ref b6), .val (.int (1 : Int32)), .val (.int (1 : Int32)), .val (.int (1 : Int32)), .val (.ref b6), .val (.ref b4), .val (.int (0 : Int32))] [(.ref b2)])
        refine Go.of (fun t k => XS.aload X19.here hx rfl (hb hby at_184) rfl rfl  k) ?_
        show Go p e below Φ T19 (mkF m 186 #[.val (.long i0), .second, .val (.long i1), .second, .val (.int i2), .val (.long v13), .second, .val (.ref b2), .val (.ref b4), .val (.ref b6), .val (.int (1 : Int32)), .val (.int (1 : Int32)), .val (.int (1 : Int32)), .val (.ref b6), .val (.ref b4), .val (.int (0 : Int32))] [(.ref b6), (.ref b2)])
        obtain ⟨cq21, kq21, q21a, q21b, q21c⟩ := isOf hZ (e19q) E_b2
        obtain ⟨_, _, ⟨T21, L21, k21, n21⟩, -, X21, ⟨Lc21, hQ21, l21, y21, z21⟩, st21⟩ := X19.virtualBack hx (y := (⟨"com/example/demarq/demarq/broker/SortedMessages", "remove", "(Lcom/example/demarq/demarq/broker/Message;)V"⟩ : MethodName)) (z := (⟨"com/example/demarq/demarq/broker/SortedMessages", "remove", "(Lcom/example/demarq/demarq/broker/Message;)V"⟩ : MethodName)) hown (mvT hZ (hw _ (List.mem_of_getElem? (i := 49) rfl))) (mvT hZ (hw _ (List.mem_of_getElem? (i := 50) rfl))) (notFace_of_selects (args := #[]) (mvT hZ (hw _ (List.mem_of_getElem? (i := 52) rfl)))) (mvT hZ (hw _ (List.mem_of_getElem? (i := 52) rfl))) (mvT hZ (hw _ (List.mem_of_getElem? (i := 51) rfl))) (by decide) (backOf (W := 0) (rm8a l Z a0 hw [] b2 b6 b3 k3 (((0 : Int32), (.ref b6)) :: []) (0 : Int32) v13 T18.heap n0 Z18 F_b2_head F_b2_ring V_b3 E_b2 g_b2 g_b3 ne_b2_b3 F_b2_size ⟨by decide, by decide⟩ (getH_hit (by decide) (by decide)) E_b6 F_b6_position (Ne.symm ne_b2_b6) (Ne.symm ne_b3_b6)) hZ (hw _ (List.mem_of_getElem? (i := 53) rfl)) (hw _ (List.mem_of_getElem? (i := 2) rfl)) (by decide) (by decide)) q21a q21c (g := (mkF m 186 #[.val (.long i0), .second, .val (.long i1), .second, .val (.int i2), .val (.long v13), .second, .val (.ref b2), .val (.ref b4), .val (.ref b6), .val (.int (1 : Int32)), .val (.int (1 : Int32)), .val (.int (1 : Int32)), .val (.ref b6), .val (.ref b4), .val (.int (0 : Int32))] [(.ref b6), (.ref b2)])) rfl (by rw [hml]; rfl) (Steps.refl _) (argsL := [(.ref b6)]) (rest := []) (lenOf own_pd10 rfl) rfl (by show 2 * 0 + _ ≤ _; exact Nat.le_of_eq rfl) (hb hby at_186) (fun _ _ => ⟨rfl, (e19q), (by decide : 4 + 1 ≤ _), (by decide : 27 + 2 ≤ _)⟩)
        dsimp only [Pt.U, Pt.locs, Pt.cells, Pt.slots] at X21 l21 y21 z21 st21 hQ21
        subst l21 y21 z21
        obtain ⟨rfl, N21q, K21q, c21_0⟩ := hQ21
        have N21 := Fr.app N19 N21q
        obtain ⟨lc21, X21, N21⟩ : ∃ lc, Stand p l e room_1 s m #[(.long i0), (.long i1), (.int i2)] below meth c T21 lc 5 29 ∧ Fr n0 lc := ⟨_, X21, N21⟩
        have E_b2 := E_b2.keep K21q
        have E_b4 := E_b4.keep K21q
        have F_b4_position := F_b4_position.keep K21q (ninS (Ne.symm ne_b2_b4) (ninS (Ne.symm ne_b3_b4) nin0))
        have E_b6 := E_b6.keep K21q
        have F_b6_position := F_b6_position.keep K21q (ninS (Ne.symm ne_b2_b6) (ninS (Ne.symm ne_b3_b6) nin0))
        have F_b2_size := c21_0
        have Z21 := Nat.le_trans Z18 K21q.1
        refine Go.tr st21 ?_
        show Go p e below Φ T21 (mkF m 189 #[.val (.long i0), .second, .val (.long i1), .second, .val (.int i2), .val (.long v13), .second, .val (.ref b2), .val (.ref b4), .val (.ref b6), .val (.int (1 : Int32)), .val (.int (1 : Int32)), .val (.int (1 : Int32)), .val (.ref b6), .val (.ref b4), .val (.int (0 : Int32))] [])
        refine Go.of (fun t k => XS.iinc X21.here hx rfl (hb hby at_189) rfl (l' := #[.val (.long i0), .second, .val (.long i1), .second, .val (.int i2), .val (.long v13), .second, .val (.ref b2), .val (.ref b4), .val (.ref b6), .val (.int (1 : Int32)), .val (.int (1 : Int32)), .val (.int (1 : Int32)), .val (.ref b6), .val (.ref b4), .val (.int (1 : Int32))]) rfl k) ?_
        show Go p e below Φ T21 (mkF m 192 #[.val (.long i0), .second, .val (.long i1), .second, .val (.int i2), .val (.long v13), .second, .val (.ref b2), .val (.ref b4), .val (.ref b6), .val (.int (1 : Int32)), .val (.int (1 : Int32)), .val (.int (1 : Int32)), .val (.ref b6), .val (.ref b4), .val (.int (1 : Int32))] [])
        refine Go.of (fun t k => XS.iload X21.here hx rfl (hb hby at_192) rfl  k) ?_
        show Go p e below Φ T21 (mkF m 194 #[.val (.long i0), .second, .val (.long i1), .second, .val (.int i2), .val (.long v13), .second, .val (.ref b2), .val (.ref b4), .val (.ref b6), .val (.int (1 : Int32)), .val (.int (1 : Int32)), .val (.int (1 : Int32)), .val (.ref b6), .val (.ref b4), .val (.int (1 : Int32))] [(.int (1 : Int32))])
        refine Go.of (fun t k => XS.iconst X21.here hx rfl (hb hby at_194) k) ?_
        show Go p e below Φ T21 (mkF m 195 #[.val (.long i0), .second, .val (.long i1), .second, .val (.int i2), .val (.long v13), .second, .val (.ref b2), .val (.ref b4), .val (.ref b6), .val (.int (1 : Int32)), .val (.int (1 : Int32)), .val (.int (1 : Int32)), .val (.ref b6), .val (.ref b4), .val (.int (1 : Int32))] [(.int (2 : Int32)), (.int (1 : Int32))])
        refine Go.of (fun t k => XS.icmpYes X21.here hx rfl (pc0 := 195) (pc' := 217) rfl (hb hby at_195) rfl (XT.ii_lt_t (by decide)) (by decide) (by decide) k) ?_
        show Go p e below Φ T21 (mkF m 217 #[.val (.long i0), .second, .val (.long i1), .second, .val (.int i2), .val (.long v13), .second, .val (.ref b2), .val (.ref b4), .val (.ref b6), .val (.int (1 : Int32)), .val (.int (1 : Int32)), .val (.int (1 : Int32)), .val (.ref b6), .val (.ref b4), .val (.int (1 : Int32))] [])
        refine Go.of (fun t k => XS.iload X21.here hx rfl (hb hby at_217) rfl  k) ?_
        show Go p e below Φ T21 (mkF m 219 #[.val (.long i0), .second, .val (.long i1), .second, .val (.int i2), .val (.long v13), .second, .val (.ref b2), .val (.ref b4), .val (.ref b6), .val (.int (1 : Int32)), .val (.int (1 : Int32)), .val (.int (1 : Int32)), .val (.ref b6), .val (.ref b4), .val (.int (1 : Int32))] [(.int (1 : Int32))])
        refine Go.of (fun t k => XS.ifNo X21.here hx rfl (hb hby at_219) rfl (XT.i0_eq_f (by decide)) k) ?_
        show Go p e below Φ T21 (mkF m 222 #[.val (.long i0), .second, .val (.long i1), .second, .val (.int i2), .val (.long v13), .second, .val (.ref b2), .val (.ref b4), .val (.ref b6), .val (.int (1 : Int32)), .val (.int (1 : Int32)), .val (.int (1 : Int32)), .val (.ref b6), .val (.ref b4), .val (.int (1 : Int32))] [])
        refine Go.of (fun t k => XS.aload X21.here hx rfl (hb hby at_222) rfl rfl  k) ?_
        show Go p e below Φ T21 (mkF m 224 #[.val (.long i0), .second, .val (.long i1), .second, .val (.int i2), .val (.long v13), .second, .val (.ref b2), .val (.ref b4), .val (.ref b6), .val (.int (1 : Int32)), .val (.int (1 : Int32)), .val (.int (1 : Int32)), .val (.ref b6), .val (.ref b4), .val (.int (1 : Int32))] [(.ref b2)])
        obtain ⟨cq22, kq22, q22a, q22b, q22c⟩ := isOf hZ rfl E_b2
        obtain ⟨_, _, ⟨T22, L22, k22, n22⟩, -, X22, ⟨Lc22, hQ22, l22, y22, z22⟩, st22⟩ := X21.virtualBack hx (y := (⟨"com/example/demarq/demarq/broker/SortedMessages", "isEmpty", "()Z"⟩ : MethodName)) (z := (⟨"com/example/demarq/demarq/broker/SortedMessages", "isEmpty", "()Z"⟩ : MethodName)) hown (mvT hZ (hw _ (List.mem_of_getElem? (i := 26) rfl))) (mvT hZ (hw _ (List.mem_of_getElem? (i := 27) rfl))) (notFace_of_selects (args := #[]) (mvT hZ (hw _ (List.mem_of_getElem? (i := 29) rfl)))) (mvT hZ (hw _ (List.mem_of_getElem? (i := 29) rfl))) (mvT hZ (hw _ (List.mem_of_getElem? (i := 28) rfl))) (by decide) (backOf (W := 0) (rm4z l Z a0 hw [] b2 T21.heap n0 Z21 F_b2_size) hZ (hw _ (List.mem_of_getElem? (i := 30) rfl)) (hw _ (List.mem_of_getElem? (i := 2) rfl)) (by decide) (by decide)) q22a q22c (g := (mkF m 224 #[.val (.long i0), .second, .val (.long i1), .second, .val (.int i2), .val (.long v13), .second, .val (.ref b2), .val (.ref b4), .val (.ref b6), .val (.int (1 : Int32)), .val (.int (1 : Int32)), .val (.int (1 : Int32)), .val (.ref b6), .val (.ref b4), .val (.int (1 : Int32))] [(.ref b2)])) rfl (by rw [hml]; rfl) (Steps.refl _) (argsL := []) (rest := []) (lenOf own_pd9 rfl) rfl (by show 2 * 0 + _ ≤ _; exact Nat.le_of_eq rfl) (hb hby at_224) (fun _ _ => ⟨rfl, rfl, (by decide : 5 + 0 ≤ _), (by decide : 29 + 0 ≤ _)⟩)
        dsimp only [Pt.U, Pt.locs, Pt.cells, Pt.slots] at X22 l22 y22 z22 st22 hQ22
        subst l22 y22 z22
        obtain ⟨rfl, N22q, e22q⟩ := hQ22
        have N22 := Fr.app N21 N22q
        obtain ⟨lc22, X22, N22⟩ : ∃ lc, Stand p l e room_1 s m #[(.long i0), (.long i1), (.int i2)] below meth c T22 lc 5 29 ∧ Fr n0 lc := ⟨_, X22, N22⟩
        refine Go.tr st22 ?_
        show Go p e below Φ T22 (mkF m 227 #[.val (.long i0), .second, .val (.long i1), .second, .val (.int i2), .val (.long v13), .second, .val (.ref b2), .val (.ref b4), .val (.ref b6), .val (.int (1 : Int32)), .val (.int (1 : Int32)), .val (.int (1 : Int32)), .val (.ref b6), .val (.ref b4), .val (.int (1 : Int32))] [(.int (1 : Int32))])
        refine Go.of (fun t k => XS.iload X22.here hx rfl (hb hby at_227) rfl  k) ?_
        show Go p e below Φ T22 (mkF m 229 #[.val (.long i0), .second, .val (.long i1), .second, .val (.int i2), .val (.long v13), .second, .val (.ref b2), .val (.ref b4), .val (.ref b6), .val (.int (1 : Int32)), .val (.int (1 : Int32)), .val (.int (1 : Int32)), .val (.ref b6), .val (.ref b4), .val (.int (1 : Int32))] [(.int (1 : Int32)), (.int (1 : Int32))])
        refine Go.of (fun t k => XS.iload X22.here hx rfl (hb hby at_229) rfl  k) ?_
        show Go p e below Φ T22 (mkF m 231 #[.val (.long i0), .second, .val (.long i1), .second, .val (.int i2), .val (.long v13), .second, .val (.ref b2), .val (.ref b4), .val (.ref b6), .val (.int (1 : Int32)), .val (.int (1 : Int32)), .val (.int (1 : Int32)), .val (.ref b6), .val (.ref b4), .val (.int (1 : Int32))] [(.int (1 : Int32)), (.int (1 : Int32)), (.int (1 : Int32))])
        refine Go.of (fun t k => XS.isub X22.here hx rfl (hb hby at_231) rfl k) ?_
        show Go p e below Φ T22 (mkF m 232 #[.val (.long i0), .second, .val (.long i1), .second, .val (.int i2), .val (.long v13), .second, .val (.ref b2), .val (.ref b4), .val (.ref b6), .val (.int (1 : Int32)), .val (.int (1 : Int32)), .val (.int (1 : Int32)), .val (.ref b6), .val (.ref b4), .val (.int (1 : Int32))] [(.int (0 : Int32)), (.int (1 : Int32))])
        refine Go.of (fun t k => XS.ifNo X22.here hx rfl (hb hby at_232) rfl (XT.i0_ne_f rfl) k) ?_
        show Go p e below Φ T22 (mkF m 235 #[.val (.long i0), .second, .val (.long i1), .second, .val (.int i2), .val (.long v13), .second, .val (.ref b2), .val (.ref b4), .val (.ref b6), .val (.int (1 : Int32)), .val (.int (1 : Int32)), .val (.int (1 : Int32)), .val (.ref b6), .val (.ref b4), .val (.int (1 : Int32))] [(.int (1 : Int32))])
        refine Go.of (fun t k => XS.iconst X22.here hx rfl (hb hby at_235) k) ?_
        show Go p e below Φ T22 (mkF m 236 #[.val (.long i0), .second, .val (.long i1), .second, .val (.int i2), .val (.long v13), .second, .val (.ref b2), .val (.ref b4), .val (.ref b6), .val (.int (1 : Int32)), .val (.int (1 : Int32)), .val (.int (1 : Int32)), .val (.ref b6), .val (.ref b4), .val (.int (1 : Int32))] [(.int (1 : Int32)), (.int (1 : Int32))])
        refine Go.of (fun t k => XS.goto X22.here hx rfl (pc0 := 236) (pc' := 240) rfl (hb hby at_236) (by decide) (by decide) k) ?_
        show Go p e below Φ T22 (mkF m 240 #[.val (.long i0), .second, .val (.long i1), .second, .val (.int i2), .val (.long v13), .second, .val (.ref b2), .val (.ref b4), .val (.ref b6), .val (.int (1 : Int32)), .val (.int (1 : Int32)), .val (.int (1 : Int32)), .val (.ref b6), .val (.ref b4), .val (.int (1 : Int32))] [(.int (1 : Int32)), (.int (1 : Int32))])
        refine Go.of (fun t k => XS.icmpNo X22.here hx rfl (hb hby at_240) rfl (XT.ii_ne_f rfl) k) ?_
        show Go p e below Φ T22 (mkF m 243 #[.val (.long i0), .second, .val (.long i1), .second, .val (.int i2), .val (.long v13), .second, .val (.ref b2), .val (.ref b4), .val (.ref b6), .val (.int (1 : Int32)), .val (.int (1 : Int32)), .val (.int (1 : Int32)), .val (.ref b6), .val (.ref b4), .val (.int (1 : Int32))] [])
        refine Go.of (fun t k => XS.iconst X22.here hx rfl (hb hby at_243) k) ?_
        show Go p e below Φ T22 (mkF m 244 #[.val (.long i0), .second, .val (.long i1), .second, .val (.int i2), .val (.long v13), .second, .val (.ref b2), .val (.ref b4), .val (.ref b6), .val (.int (1 : Int32)), .val (.int (1 : Int32)), .val (.int (1 : Int32)), .val (.ref b6), .val (.ref b4), .val (.int (1 : Int32))] [(.int (1 : Int32))])
        refine Go.of (fun t k => XS.goto X22.here hx rfl (pc0 := 244) (pc' := 248) rfl (hb hby at_244) (by decide) (by decide) k) ?_
        show Go p e below Φ T22 (mkF m 248 #[.val (.long i0), .second, .val (.long i1), .second, .val (.int i2), .val (.long v13), .second, .val (.ref b2), .val (.ref b4), .val (.ref b6), .val (.int (1 : Int32)), .val (.int (1 : Int32)), .val (.int (1 : Int32)), .val (.ref b6), .val (.ref b4), .val (.int (1 : Int32))] [(.int (1 : Int32))])
        refine Go.of (fun t k => XS.istore X22.here hx rfl (hb hby at_248) rfl (l' := #[.val (.long i0), .second, .val (.long i1), .second, .val (.int i2), .val (.long v13), .second, .val (.ref b2), .val (.ref b4), .val (.ref b6), .val (.int (1 : Int32)), .val (.int (1 : Int32)), .val (.int (1 : Int32)), .val (.ref b6), .val (.ref b4), .val (.int (1 : Int32))]) rfl k) ?_
        show Go p e below Φ T22 (mkF m 250 #[.val (.long i0), .second, .val (.long i1), .second, .val (.int i2), .val (.long v13), .second, .val (.ref b2), .val (.ref b4), .val (.ref b6), .val (.int (1 : Int32)), .val (.int (1 : Int32)), .val (.int (1 : Int32)), .val (.ref b6), .val (.ref b4), .val (.int (1 : Int32))] [])
        refine Go.of (fun t k => XS.iload X22.here hx rfl (hb hby at_250) rfl  k) ?_
        show Go p e below Φ T22 (mkF m 252 #[.val (.long i0), .second, .val (.long i1), .second, .val (.int i2), .val (.long v13), .second, .val (.ref b2), .val (.ref b4), .val (.ref b6), .val (.int (1 : Int32)), .val (.int (1 : Int32)), .val (.int (1 : Int32)), .val (.ref b6), .val (.ref b4), .val (.int (1 : Int32))] [(.int (1 : Int32))])
        rw [hΦ]
        refine Go.ret X22 hx Bd.notSynchronized Bd.returns rfl (Or.inl ⟨rfl, Or.inr (Or.inl rfl), _, rfl⟩) (hb hby at_252) (by decide) (by decide) ?_
        rw [(e22q)]
        exact ⟨rfl, N22⟩
  · subst hadd
    show Go p e below Φ T8 (mkF m 64 #[.val (.long i0), .second, .val (.long i1), .second, .val (.int i2), .val (.long v13), .second, .val (.ref b2), .val (.ref b4), .val (.ref b6), .val (.int (1 : Int32)), .val (.int (2 : Int32)), .unset, .unset, .unset, .unset] [])
    refine Go.of (fun t k => XS.iload X8.here hx rfl (hb hby at_64) rfl  k) ?_
    show Go p e below Φ T8 (mkF m 66 #[.val (.long i0), .second, .val (.long i1), .second, .val (.int i2), .val (.long v13), .second, .val (.ref b2), .val (.ref b4), .val (.ref b6), .val (.int (1 : Int32)), .val (.int (2 : Int32)), .unset, .unset, .unset, .unset] [(.int i2)])
    refine Go.of (fun t k => XS.iconst X8.here hx rfl (hb hby at_66) k) ?_
    show Go p e below Φ T8 (mkF m 67 #[.val (.long i0), .second, .val (.long i1), .second, .val (.int i2), .val (.long v13), .second, .val (.ref b2), .val (.ref b4), .val (.ref b6), .val (.int (1 : Int32)), .val (.int (2 : Int32)), .unset, .unset, .unset, .unset] [(.int (4 : Int32)), (.int i2)])
    refine Go.of (fun t k => XS.iushr X8.here hx rfl (hb hby at_67) rfl k) ?_
    show Go p e below Φ T8 (mkF m 68 #[.val (.long i0), .second, .val (.long i1), .second, .val (.int i2), .val (.long v13), .second, .val (.ref b2), .val (.ref b4), .val (.ref b6), .val (.int (1 : Int32)), .val (.int (2 : Int32)), .unset, .unset, .unset, .unset] [(.int (own_ushr i2 (4 : Int32)))])
    refine Go.of (fun t k => XS.iconst X8.here hx rfl (hb hby at_68) k) ?_
    show Go p e below Φ T8 (mkF m 69 #[.val (.long i0), .second, .val (.long i1), .second, .val (.int i2), .val (.long v13), .second, .val (.ref b2), .val (.ref b4), .val (.ref b6), .val (.int (1 : Int32)), .val (.int (2 : Int32)), .unset, .unset, .unset, .unset] [(.int (1 : Int32)), (.int (own_ushr i2 (4 : Int32)))])
    refine Go.of (fun t k => XS.iand X8.here hx rfl (hb hby at_69) rfl k) ?_
    show Go p e below Φ T8 (mkF m 70 #[.val (.long i0), .second, .val (.long i1), .second, .val (.int i2), .val (.long v13), .second, .val (.ref b2), .val (.ref b4), .val (.ref b6), .val (.int (1 : Int32)), .val (.int (2 : Int32)), .unset, .unset, .unset, .unset] [(.int ((own_ushr i2 (4 : Int32)) &&& (1 : Int32)))])
    by_cases hc70 : ((own_ushr i2 (4 : Int32)) &&& (1 : Int32)) = (0 : Int32)
    · refine Go.of (fun t k => XS.ifYes X8.here hx rfl (pc0 := 70) (pc' := 77) rfl (hb hby at_70) rfl (XT.i0_eq_t hc70) (by decide) (by decide) k) ?_
      show Go p e below Φ T8 (mkF m 77 #[.val (.long i0), .second, .val (.long i1), .second, .val (.int i2), .val (.long v13), .second, .val (.ref b2), .val (.ref b4), .val (.ref b6), .val (.int (1 : Int32)), .val (.int (2 : Int32)), .unset, .unset, .unset, .unset] [])
      refine Go.of (fun t k => XS.iconst X8.here hx rfl (hb hby at_77) k) ?_
      show Go p e below Φ T8 (mkF m 78 #[.val (.long i0), .second, .val (.long i1), .second, .val (.int i2), .val (.long v13), .second, .val (.ref b2), .val (.ref b4), .val (.ref b6), .val (.int (1 : Int32)), .val (.int (2 : Int32)), .unset, .unset, .unset, .unset] [(.int (0 : Int32))])
      refine Go.of (fun t k => XS.istore X8.here hx rfl (hb hby at_78) rfl (l' := #[.val (.long i0), .second, .val (.long i1), .second, .val (.int i2), .val (.long v13), .second, .val (.ref b2), .val (.ref b4), .val (.ref b6), .val (.int (1 : Int32)), .val (.int (2 : Int32)), .val (.int (0 : Int32)), .unset, .unset, .unset]) rfl k) ?_
      show Go p e below Φ T8 (mkF m 80 #[.val (.long i0), .second, .val (.long i1), .second, .val (.int i2), .val (.long v13), .second, .val (.ref b2), .val (.ref b4), .val (.ref b6), .val (.int (1 : Int32)), .val (.int (2 : Int32)), .val (.int (0 : Int32)), .unset, .unset, .unset] [])
      refine Go.of (fun t k => XS.iload X8.here hx rfl (hb hby at_80) rfl  k) ?_
      show Go p e below Φ T8 (mkF m 82 #[.val (.long i0), .second, .val (.long i1), .second, .val (.int i2), .val (.long v13), .second, .val (.ref b2), .val (.ref b4), .val (.ref b6), .val (.int (1 : Int32)), .val (.int (2 : Int32)), .val (.int (0 : Int32)), .unset, .unset, .unset] [(.int (0 : Int32))])
      refine Go.of (fun t k => XS.ifYes X8.here hx rfl (pc0 := 82) (pc' := 90) rfl (hb hby at_82) rfl (XT.i0_eq_t rfl) (by decide) (by decide) k) ?_
      show Go p e below Φ T8 (mkF m 90 #[.val (.long i0), .second, .val (.long i1), .second, .val (.int i2), .val (.long v13), .second, .val (.ref b2), .val (.ref b4), .val (.ref b6), .val (.int (1 : Int32)), .val (.int (2 : Int32)), .val (.int (0 : Int32)), .unset, .unset, .unset] [])
      refine Go.of (fun t k => XS.aload X8.here hx rfl (hb hby at_90) rfl rfl  k) ?_
      show Go p e below Φ T8 (mkF m 92 #[.val (.long i0), .second, .val (.long i1), .second, .val (.int i2), .val (.long v13), .second, .val (.ref b2), .val (.ref b4), .val (.ref b6), .val (.int (1 : Int32)), .val (.int (2 : Int32)), .val (.int (0 : Int32)), .unset, .unset, .unset] [(.ref b4)])
      refine Go.of (fun t k => XS.astore X8.here hx rfl (hb hby at_92) rfl rfl (l' := #[.val (.long i0), .second, .val (.long i1), .second, .val (.int i2), .val (.long v13), .second, .val (.ref b2), .val (.ref b4), .val (.ref b6), .val (.int (1 : Int32)), .val (.int (2 : Int32)), .val (.int (0 : Int32)), .val (.ref b4), .unset, .unset]) rfl k) ?_
      show Go p e below Φ T8 (mkF m 94 #[.val (.long i0), .second, .val (.long i1), .second, .val (.int i2), .val (.long v13), .second, .val (.ref b2), .val (.ref b4), .val (.ref b6), .val (.int (1 : Int32)), .val (.int (2 : Int32)), .val (.int (0 : Int32)), .val (.ref b4), .unset, .unset] [])
      refine Go.of (fun t k => XS.iload X8.here hx rfl (hb hby at_94) rfl  k) ?_
      show Go p e below Φ T8 (mkF m 96 #[.val (.long i0), .second, .val (.long i1), .second, .val (.int i2), .val (.long v13), .second, .val (.ref b2), .val (.ref b4), .val (.ref b6), .val (.int (1 : Int32)), .val (.int (2 : Int32)), .val (.int (0 : Int32)), .val (.ref b4), .unset, .unset] [(.int (0 : Int32))])
      refine Go.of (fun t k => XS.ifYes X8.here hx rfl (pc0 := 96) (pc' := 104) rfl (hb hby at_96) rfl (XT.i0_eq_t rfl) (by decide) (by decide) k) ?_
      show Go p e below Φ T8 (mkF m 104 #[.val (.long i0), .second, .val (.long i1), .second, .val (.int i2), .val (.long v13), .second, .val (.ref b2), .val (.ref b4), .val (.ref b6), .val (.int (1 : Int32)), .val (.int (2 : Int32)), .val (.int (0 : Int32)), .val (.ref b4), .unset, .unset] [])
      refine Go.of (fun t k => XS.aload X8.here hx rfl (hb hby at_104) rfl rfl  k) ?_
      show Go p e below Φ T8 (mkF m 106 #[.val (.long i0), .second, .val (.long i1), .second, .val (.int i2), .val (.long v13), .second, .val (.ref b2), .val (.ref b4), .val (.ref b6), .val (.int (1 : Int32)), .val (.int (2 : Int32)), .val (.int (0 : Int32)), .val (.ref b4), .unset, .unset] [(.ref b6)])
      refine Go.of (fun t k => XS.astore X8.here hx rfl (hb hby at_106) rfl rfl (l' := #[.val (.long i0), .second, .val (.long i1), .second, .val (.int i2), .val (.long v13), .second, .val (.ref b2), .val (.ref b4), .val (.ref b6), .val (.int (1 : Int32)), .val (.int (2 : Int32)), .val (.int (0 : Int32)), .val (.ref b4), .val (.ref b6), .unset]) rfl k) ?_
      show Go p e below Φ T8 (mkF m 108 #[.val (.long i0), .second, .val (.long i1), .second, .val (.int i2), .val (.long v13), .second, .val (.ref b2), .val (.ref b4), .val (.ref b6), .val (.int (1 : Int32)), .val (.int (2 : Int32)), .val (.int (0 : Int32)), .val (.ref b4), .val (.ref b6), .unset] [])
      refine Go.of (fun t k => XS.iload X8.here hx rfl (hb hby at_108) rfl  k) ?_
      show Go p e below Φ T8 (mkF m 110 #[.val (.long i0), .second, .val (.long i1), .second, .val (.int i2), .val (.long v13), .second, .val (.ref b2), .val (.ref b4), .val (.ref b6), .val (.int (1 : Int32)), .val (.int (2 : Int32)), .val (.int (0 : Int32)), .val (.ref b4), .val (.ref b6), .unset] [(.int (2 : Int32))])
      refine Go.of (fun t k => XS.iconst X8.here hx rfl (hb hby at_110) k) ?_
      show Go p e below Φ T8 (mkF m 111 #[.val (.long i0), .second, .val (.long i1), .second, .val (.int i2), .val (.long v13), .second, .val (.ref b2), .val (.ref b4), .val (.ref b6), .val (.int (1 : Int32)), .val (.int (2 : Int32)), .val (.int (0 : Int32)), .val (.ref b4), .val (.ref b6), .unset] [(.int (1 : Int32)), (.int (2 : Int32))])
      refine Go.of (fun t k => XS.icmpNo X8.here hx rfl (hb hby at_111) rfl (XT.ii_lt_f (by decide)) k) ?_
      show Go p e below Φ T8 (mkF m 114 #[.val (.long i0), .second, .val (.long i1), .second, .val (.int i2), .val (.long v13), .second, .val (.ref b2), .val (.ref b4), .val (.ref b6), .val (.int (1 : Int32)), .val (.int (2 : Int32)), .val (.int (0 : Int32)), .val (.ref b4), .val (.ref b6), .unset] [])
      refine Go.of (fun t k => XS.aload X8.here hx rfl (hb hby at_114) rfl rfl  k) ?_
      show Go p e below Φ T8 (mkF m 116 #[.val (.long i0), .second, .val (.long i1), .second, .val (.int i2), .val (.long v13), .second, .val (.ref b2), .val (.ref b4), .val (.ref b6), .val (.int (1 : Int32)), .val (.int (2 : Int32)), .val (.int (0 : Int32)), .val (.ref b4), .val (.ref b6), .unset] [(.ref b2)])
      refine Go.of (fun t k => XS.aload X8.here hx rfl (hb hby at_116) rfl rfl  k) ?_
      show Go p e below Φ T8 (mkF m 118 #[.val (.long i0), .second, .val (.long i1), .second, .val (.int i2), .val (.long v13), .second, .val (.ref b2), .val (.ref b4), .val (.ref b6), .val (.int (1 : Int32)), .val (.int (2 : Int32)), .val (.int (0 : Int32)), .val (.ref b4), .val (.ref b6), .unset] [(.ref b4), (.ref b2)])
      obtain ⟨cq23, kq23, q23a, q23b, q23c⟩ := isOf hZ (e8q) E_b2
      obtain ⟨_, _, ⟨T23, L23, k23, n23⟩, -, X23, ⟨Lc23, hQ23, l23, y23, z23⟩, st23⟩ := X8.virtualBack hx (y := (⟨"com/example/demarq/demarq/broker/SortedMessages", "add", "(Lcom/example/demarq/demarq/broker/Message;)V"⟩ : MethodName)) (z := (⟨"com/example/demarq/demarq/broker/SortedMessages", "add", "(Lcom/example/demarq/demarq/broker/Message;)V"⟩ : MethodName)) hown (mvT hZ (hw _ (List.mem_of_getElem? (i := 33) rfl))) (mvT hZ (hw _ (List.mem_of_getElem? (i := 34) rfl))) (notFace_of_selects (args := #[]) (mvT hZ (hw _ (List.mem_of_getElem? (i := 36) rfl)))) (mvT hZ (hw _ (List.mem_of_getElem? (i := 36) rfl))) (mvT hZ (hw _ (List.mem_of_getElem? (i := 35) rfl))) (by decide) (backOf (W := 0) (rm5z l Z a0 hw [] b2 b4 b3 k3 [] T7.heap n0 Z7 F_b2_head F_b2_ring V_b3 F_b2_size E_b4 E_b2 g_b2 g_b3 ne_b2_b3 Ov3) hZ (hw _ (List.mem_of_getElem? (i := 37) rfl)) (hw _ (List.mem_of_getElem? (i := 2) rfl)) (by decide) (by decide)) q23a q23c (g := (mkF m 118 #[.val (.long i0), .second, .val (.long i1), .second, .val (.int i2), .val (.long v13), .second, .val (.ref b2), .val (.ref b4), .val (.ref b6), .val (.int (1 : Int32)), .val (.int (2 : Int32)), .val (.int (0 : Int32)), .val (.ref b4), .val (.ref b6), .unset] [(.ref b4), (.ref b2)])) rfl (by rw [hml]; rfl) (Steps.refl _) (argsL := [(.ref b4)]) (rest := []) (lenOf own_pd10 rfl) rfl (by show 2 * 0 + _ ≤ _; exact Nat.le_of_eq rfl) (hb hby at_118) (fun _ _ => ⟨rfl, (e8q), (by decide : 4 + 0 ≤ _), (by decide : 27 + 0 ≤ _)⟩)
      dsimp only [Pt.U, Pt.locs, Pt.cells, Pt.slots] at X23 l23 y23 z23 st23 hQ23
      subst l23 y23 z23
      obtain ⟨rfl, N23q, K23q, c23_0, c23_1, c23_2, c23_3⟩ := hQ23
      have N23 := Fr.app N8 N23q
      obtain ⟨lc23, X23, N23⟩ : ∃ lc, Stand p l e room_1 s m #[(.long i0), (.long i1), (.int i2)] below meth c T23 lc 4 27 ∧ Fr n0 lc := ⟨_, X23, N23⟩
      have E_b2 := E_b2.keep K23q
      have E_b4 := E_b4.keep K23q
      have F_b4_position := F_b4_position.keep K23q (ninS (Ne.symm ne_b2_b4) (ninS (Ne.symm ne_b3_b4) nin0))
      have E_b6 := E_b6.keep K23q
      have F_b6_position := F_b6_position.keep K23q (ninS (Ne.symm ne_b2_b6) (ninS (Ne.symm ne_b3_b6) nin0))
      have F_b2_size := c23_0
      have F_b2_head := c23_1
      have F_b2_ring := c23_2
      have V_b3 : Arh Z T23.heap b3 k3 (.object "com/example/demarq/demarq/broker/Message") (16 : Int32) (((0 : Int32), (.ref b4)) :: []) [] .null := c23_3
      have Z23 := Nat.le_trans Z7 K23q.1
      refine Go.tr st23 ?_
      show Go p e below Φ T23 (mkF m 121 #[.val (.long i0), .second, .val (.long i1), .second, .val (.int i2), .val (.long v13), .second, .val (.ref b2), .val (.ref b4), .val (.ref b6), .val (.int (1 : Int32)), .val (.int (2 : Int32)), .val (.int (0 : Int32)), .val (.ref b4), .val (.ref b6), .unset] [])
      refine Go.of (fun t k => XS.iload X23.here hx rfl (hb hby at_121) rfl  k) ?_
      show Go p e below Φ T23 (mkF m 123 #[.val (.long i0), .second, .val (.long i1), .second, .val (.int i2), .val (.long v13), .second, .val (.ref b2), .val (.ref b4), .val (.ref b6), .val (.int (1 : Int32)), .val (.int (2 : Int32)), .val (.int (0 : Int32)), .val (.ref b4), .val (.ref b6), .unset] [(.int (2 : Int32))])
      refine Go.of (fun t k => XS.iconst X23.here hx rfl (hb hby at_123) k) ?_
      show Go p e below Φ T23 (mkF m 124 #[.val (.long i0), .second, .val (.long i1), .second, .val (.int i2), .val (.long v13), .second, .val (.ref b2), .val (.ref b4), .val (.ref b6), .val (.int (1 : Int32)), .val (.int (2 : Int32)), .val (.int (0 : Int32)), .val (.ref b4), .val (.ref b6), .unset] [(.int (2 : Int32)), (.int (2 : Int32))])
      refine Go.of (fun t k => XS.icmpNo X23.here hx rfl (hb hby at_124) rfl (XT.ii_lt_f (by decide)) k) ?_
      show Go p e below Φ T23 (mkF m 127 #[.val (.long i0), .second, .val (.long i1), .second, .val (.int i2), .val (.long v13), .second, .val (.ref b2), .val (.ref b4), .val (.ref b6), .val (.int (1 : Int32)), .val (.int (2 : Int32)), .val (.int (0 : Int32)), .val (.ref b4), .val (.ref b6), .unset] [])
      refine Go.of (fun t k => XS.aload X23.here hx rfl (hb hby at_127) rfl rfl  k) ?_
      show Go p e below Φ T23 (mkF m 129 #[.val (.long i0), .second, .val (.long i1), .second, .val (.int i2), .val (.long v13), .second, .val (.ref b2), .val (.ref b4), .val (.ref b6), .val (.int (1 : Int32)), .val (.int (2 : Int32)), .val (.int (0 : Int32)), .val (.ref b4), .val (.ref b6), .unset] [(.ref b2)])
      refine Go.of (fun t k => XS.aload X23.here hx rfl (hb hby at_129) rfl rfl  k) ?_
      show Go p e below Φ T23 (mkF m 131 #[.val (.long i0), .second, .val (.long i1), .second, .val (.int i2), .val (.long v13), .second, .val (.ref b2), .val (.ref b4), .val (.ref b6), .val (.int (1 : Int32)), .val (.int (2 : Int32)), .val (.int (0 : Int32)), .val (.ref b4), .val (.ref b6), .unset] [(.ref b6), (.ref b2)])
      by_cases hlt : i0 < v13
      · obtain ⟨cq24, kq24, q24a, q24b, q24c⟩ := isOf hZ rfl E_b2
        obtain ⟨_, _, ⟨T24, L24, k24, n24⟩, -, X24, ⟨Lc24, hQ24, l24, y24, z24⟩, st24⟩ := X23.virtualBack hx (y := (⟨"com/example/demarq/demarq/broker/SortedMessages", "add", "(Lcom/example/demarq/demarq/broker/Message;)V"⟩ : MethodName)) (z := (⟨"com/example/demarq/demarq/broker/SortedMessages", "add", "(Lcom/example/demarq/demarq/broker/Message;)V"⟩ : MethodName)) hown (mvT hZ (hw _ (List.mem_of_getElem? (i := 33) rfl))) (mvT hZ (hw _ (List.mem_of_getElem? (i := 34) rfl))) (notFace_of_selects (args := #[]) (mvT hZ (hw _ (List.mem_of_getElem? (i := 36) rfl)))) (mvT hZ (hw _ (List.mem_of_getElem? (i := 36) rfl))) (mvT hZ (hw _ (List.mem_of_getElem? (i := 35) rfl))) (by decide) (backOf (W := 0) (rm5l l Z a0 hw [] b2 b6 b3 k3 (((0 : Int32), (.ref b4)) :: []) b4 v13 i0 T23.heap n0 Z23 F_b2_head F_b2_ring V_b3 F_b2_size E_b6 F_b6_position E_b4 F_b4_position (getH_hit (by decide) (by decide)) E_b2 g_b2 g_b3 ne_b2_b3 Ov3 (Ne.symm ne_b2_b4) (Ne.symm ne_b3_b4) (Ne.symm ne_b2_b6) (Ne.symm ne_b3_b6) hlt) hZ (hw _ (List.mem_of_getElem? (i := 37) rfl)) (hw _ (List.mem_of_getElem? (i := 2) rfl)) (by decide) (by decide)) q24a q24c (g := (mkF m 131 #[.val (.long i0), .second, .val (.long i1), .second, .val (.int i2), .val (.long v13), .second, .val (.ref b2), .val (.ref b4), .val (.ref b6), .val (.int (1 : Int32)), .val (.int (2 : Int32)), .val (.int (0 : Int32)), .val (.ref b4), .val (.ref b6), .unset] [(.ref b6), (.ref b2)])) rfl (by rw [hml]; rfl) (Steps.refl _) (argsL := [(.ref b6)]) (rest := []) (lenOf own_pd10 rfl) rfl (by show 2 * 0 + _ ≤ _; exact Nat.le_of_eq rfl) (hb hby at_131) (fun _ _ => ⟨rfl, rfl, (by decide : 4 + 0 ≤ _), (by decide : 27 + 0 ≤ _)⟩)
        dsimp only [Pt.U, Pt.locs, Pt.cells, Pt.slots] at X24 l24 y24 z24 st24 hQ24
        subst l24 y24 z24
        obtain ⟨rfl, N24q, K24q, c24_0, c24_1, c24_2, c24_3⟩ := hQ24
        have N24 := Fr.app N23 N24q
        obtain ⟨lc24, X24, N24⟩ : ∃ lc, Stand p l e room_1 s m #[(.long i0), (.long i1), (.int i2)] below meth c T24 lc 4 27 ∧ Fr n0 lc := ⟨_, X24, N24⟩
        have E_b2 := E_b2.keep K24q
        have E_b4 := E_b4.keep K24q
        have F_b4_position := F_b4_position.keep K24q (ninS (Ne.symm ne_b2_b4) (ninS (Ne.symm ne_b3_b4) nin0))
        have E_b6 := E_b6.keep K24q
        have F_b6_position := F_b6_position.keep K24q (ninS (Ne.symm ne_b2_b6) (ninS (Ne.symm ne_b3_b6) nin0))
        have F_b2_size := c24_0
        have F_b2_head := c24_1
        have F_b2_ring := c24_2
        have V_b3 : Arh Z T24.heap b3 k3 (.object "com/example/demarq/demarq/broker/Message") (16 : Int32) (((1 : Int32), (.ref b6)) :: (((0 : Int32), (.ref b4)) :: [])) [] .null := c24_3
        have Z24 := Nat.le_trans Z23 K24q.1
        refine Go.tr st24 ?_
        show Go p e below Φ T24 (mkF m 134 #[.val (.long i0), .second, .val (.long i1), .second, .val (.int i2), .val (.long v13), .second, .val (.ref b2), .val (.ref b4), .val (.ref b6), .val (.int (1 : Int32)), .val (.int (2 : Int32)), .val (.int (0 : Int32)), .val (.ref b4), .val (.ref b6), .unset] [])
        refine Go.of (fun t k => XS.iload X24.here hx rfl (hb hby at_134) rfl  k) ?_
        show Go p e below Φ T24 (mkF m 136 #[.val (.long i0), .second, .val (.long i1), .second, .val (.int i2), .val (.long v13), .second, .val (.ref b2), .val (.ref b4), .val (.ref b6), .val (.int (1 : Int32)), .val (.int (2 : Int32)), .val (.int (0 : Int32)), .val (.ref b4), .val (.ref b6), .unset] [(.int (1 : Int32))])
        refine Go.of (fun t k => XS.ifNo X24.here hx rfl (hb hby at_136) rfl (XT.i0_eq_f (by decide)) k) ?_
        show Go p e below Φ T24 (mkF m 139 #[.val (.long i0), .second, .val (.long i1), .second, .val (.int i2), .val (.long v13), .second, .val (.ref b2), .val (.ref b4), .val (.ref b6), .val (.int (1 : Int32)), .val (.int (2 : Int32)), .val (.int (0 : Int32)), .val (.ref b4), .val (.ref b6), .unset] [])
        refine Go.of (fun t k => XS.aload X24.here hx rfl (hb hby at_139) rfl rfl  k) ?_
        show Go p e below Φ T24 (mkF m 141 #[.val (.long i0), .second, .val (.long i1), .second, .val (.int i2), .val (.long v13), .second, .val (.ref b2), .val (.ref b4), .val (.ref b6), .val (.int (1 : Int32)), .val (.int (2 : Int32)), .val (.int (0 : Int32)), .val (.ref b4), .val (.ref b6), .unset] [(.ref b2)])
        obtain ⟨cq25, kq25, q25a, q25b, q25c⟩ := isOf hZ rfl E_b2
        obtain ⟨_, _, ⟨T25, L25, k25, n25⟩, -, X25, ⟨Lc25, hQ25, l25, y25, z25⟩, st25⟩ := X24.virtualBack hx (y := (⟨"com/example/demarq/demarq/broker/SortedMessages", "isEmpty", "()Z"⟩ : MethodName)) (z := (⟨"com/example/demarq/demarq/broker/SortedMessages", "isEmpty", "()Z"⟩ : MethodName)) hown (mvT hZ (hw _ (List.mem_of_getElem? (i := 26) rfl))) (mvT hZ (hw _ (List.mem_of_getElem? (i := 27) rfl))) (notFace_of_selects (args := #[]) (mvT hZ (hw _ (List.mem_of_getElem? (i := 29) rfl)))) (mvT hZ (hw _ (List.mem_of_getElem? (i := 29) rfl))) (mvT hZ (hw _ (List.mem_of_getElem? (i := 28) rfl))) (by decide) (backOf (W := 0) (rm4n l Z a0 hw [] b2 (2 : Int32) T24.heap n0 Z24 F_b2_size (by decide)) hZ (hw _ (List.mem_of_getElem? (i := 30) rfl)) (hw _ (List.mem_of_getElem? (i := 2) rfl)) (by decide) (by decide)) q25a q25c (g := (mkF m 141 #[.val (.long i0), .second, .val (.long i1), .second, .val (.int i2), .val (.long v13), .second, .val (.ref b2), .val (.ref b4), .val (.ref b6), .val (.int (1 : Int32)), .val (.int (2 : Int32)), .val (.int (0 : Int32)), .val (.ref b4), .val (.ref b6), .unset] [(.ref b2)])) rfl (by rw [hml]; rfl) (Steps.refl _) (argsL := []) (rest := []) (lenOf own_pd9 rfl) rfl (by show 2 * 0 + _ ≤ _; exact Nat.le_of_eq rfl) (hb hby at_141) (fun _ _ => ⟨rfl, rfl, (by decide : 4 + 0 ≤ _), (by decide : 27 + 0 ≤ _)⟩)
        dsimp only [Pt.U, Pt.locs, Pt.cells, Pt.slots] at X25 l25 y25 z25 st25 hQ25
        subst l25 y25 z25
        obtain ⟨rfl, N25q, e25q⟩ := hQ25
        have N25 := Fr.app N24 N25q
        obtain ⟨lc25, X25, N25⟩ : ∃ lc, Stand p l e room_1 s m #[(.long i0), (.long i1), (.int i2)] below meth c T25 lc 4 27 ∧ Fr n0 lc := ⟨_, X25, N25⟩
        refine Go.tr st25 ?_
        show Go p e below Φ T25 (mkF m 144 #[.val (.long i0), .second, .val (.long i1), .second, .val (.int i2), .val (.long v13), .second, .val (.ref b2), .val (.ref b4), .val (.ref b6), .val (.int (1 : Int32)), .val (.int (2 : Int32)), .val (.int (0 : Int32)), .val (.ref b4), .val (.ref b6), .unset] [(.int (0 : Int32))])
        refine Go.of (fun t k => XS.iload X25.here hx rfl (hb hby at_144) rfl  k) ?_
        show Go p e below Φ T25 (mkF m 146 #[.val (.long i0), .second, .val (.long i1), .second, .val (.int i2), .val (.long v13), .second, .val (.ref b2), .val (.ref b4), .val (.ref b6), .val (.int (1 : Int32)), .val (.int (2 : Int32)), .val (.int (0 : Int32)), .val (.ref b4), .val (.ref b6), .unset] [(.int (2 : Int32)), (.int (0 : Int32))])
        refine Go.of (fun t k => XS.ifYes X25.here hx rfl (pc0 := 146) (pc' := 153) rfl (hb hby at_146) rfl (XT.i0_ne_t (by decide)) (by decide) (by decide) k) ?_
        show Go p e below Φ T25 (mkF m 153 #[.val (.long i0), .second, .val (.long i1), .second, .val (.int i2), .val (.long v13), .second, .val (.ref b2), .val (.ref b4), .val (.ref b6), .val (.int (1 : Int32)), .val (.int (2 : Int32)), .val (.int (0 : Int32)), .val (.ref b4), .val (.ref b6), .unset] [(.int (0 : Int32))])
        refine Go.of (fun t k => XS.iconst X25.here hx rfl (hb hby at_153) k) ?_
        show Go p e below Φ T25 (mkF m 154 #[.val (.long i0), .second, .val (.long i1), .second, .val (.int i2), .val (.long v13), .second, .val (.ref b2), .val (.ref b4), .val (.ref b6), .val (.int (1 : Int32)), .val (.int (2 : Int32)), .val (.int (0 : Int32)), .val (.ref b4), .val (.ref b6), .unset] [(.int (0 : Int32)), (.int (0 : Int32))])
        refine Go.of (fun t k => XS.icmpNo X25.here hx rfl (hb hby at_154) rfl (XT.ii_ne_f rfl) k) ?_
        show Go p e below Φ T25 (mkF m 157 #[.val (.long i0), .second, .val (.long i1), .second, .val (.int i2), .val (.long v13), .second, .val (.ref b2), .val (.ref b4), .val (.ref b6), .val (.int (1 : Int32)), .val (.int (2 : Int32)), .val (.int (0 : Int32)), .val (.ref b4), .val (.ref b6), .unset] [])
        refine Go.of (fun t k => XS.iconst X25.here hx rfl (hb hby at_157) k) ?_
        show Go p e below Φ T25 (mkF m 158 #[.val (.long i0), .second, .val (.long i1), .second, .val (.int i2), .val (.long v13), .second, .val (.ref b2), .val (.ref b4), .val (.ref b6), .val (.int (1 : Int32)), .val (.int (2 : Int32)), .val (.int (0 : Int32)), .val (.ref b4), .val (.ref b6), .unset] [(.int (1 : Int32))])
        refine Go.of (fun t k => XS.goto X25.here hx rfl (pc0 := 158) (pc' := 162) rfl (hb hby at_158) (by decide) (by decide) k) ?_
        show Go p e below Φ T25 (mkF m 162 #[.val (.long i0), .second, .val (.long i1), .second, .val (.int i2), .val (.long v13), .second, .val (.ref b2), .val (.ref b4), .val (.ref b6), .val (.int (1 : Int32)), .val (.int (2 : Int32)), .val (.int (0 : Int32)), .val (.ref b4), .val (.ref b6), .unset] [(.int (1 : Int32))])
        refine Go.of (fun t k => XS.istore X25.here hx rfl (hb hby at_162) rfl (l' := #[.val (.long i0), .second, .val (.long i1), .second, .val (.int i2), .val (.long v13), .second, .val (.ref b2), .val (.ref b4), .val (.ref b6), .val (.int (1 : Int32)), .val (.int (2 : Int32)), .val (.int (0 : Int32)), .val (.ref b4), .val (.ref b6), .unset]) rfl k) ?_
        show Go p e below Φ T25 (mkF m 164 #[.val (.long i0), .second, .val (.long i1), .second, .val (.int i2), .val (.long v13), .second, .val (.ref b2), .val (.ref b4), .val (.ref b6), .val (.int (1 : Int32)), .val (.int (2 : Int32)), .val (.int (0 : Int32)), .val (.ref b4), .val (.ref b6), .unset] [])
        refine Go.of (fun t k => XS.iconst X25.here hx rfl (hb hby at_164) k) ?_
        show Go p e below Φ T25 (mkF m 165 #[.val (.long i0), .second, .val (.long i1), .second, .val (.int i2), .val (.long v13), .second, .val (.ref b2), .val (.ref b4), .val (.ref b6), .val (.int (1 : Int32)), .val (.int (2 : Int32)), .val (.int (0 : Int32)), .val (.ref b4), .val (.ref b6), .unset] [(.int (0 : Int32))])
        refine Go.of (fun t k => XS.istore X25.here hx rfl (hb hby at_165) rfl (l' := #[.val (.long i0), .second, .val (.long i1), .second, .val (.int i2), .val (.long v13), .second, .val (.ref b2), .val (.ref b4), .val (.ref b6), .val (.int (1 : Int32)), .val (.int (2 : Int32)), .val (.int (0 : Int32)), .val (.ref b4), .val (.ref b6), .val (.int (0 : Int32))]) rfl k) ?_
        show Go p e below Φ T25 (mkF m 167 #[.val (.long i0), .second, .val (.long i1), .second, .val (.int i2), .val (.long v13), .second, .val (.ref b2), .val (.ref b4), .val (.ref b6), .val (.int (1 : Int32)), .val (.int (2 : Int32)), .val (.int (0 : Int32)), .val (.ref b4), .val (.ref b6), .val (.int (0 : Int32))] [])
        refine Go.of (fun t k => XS.iload X25.here hx rfl (hb hby at_167) rfl  k) ?_
        show Go p e below Φ T25 (mkF m 169 #[.val (.long i0), .second, .val (.long i1), .second, .val (.int i2), .val (.long v13), .second, .val (.ref b2), .val (.ref b4), .val (.ref b6), .val (.int (1 : Int32)), .val (.int (2 : Int32)), .val (.int (0 : Int32)), .val (.ref b4), .val (.ref b6), .val (.int (0 : Int32))] [(.int (2 : Int32))])
        refine Go.of (fun t k => XS.iconst X25.here hx rfl (hb hby at_169) k) ?_
        show Go p e below Φ T25 (mkF m 170 #[.val (.long i0), .second, .val (.long i1), .second, .val (.int i2), .val (.long v13), .second, .val (.ref b2), .val (.ref b4), .val (.ref b6), .val (.int (1 : Int32)), .val (.int (2 : Int32)), .val (.int (0 : Int32)), .val (.ref b4), .val (.ref b6), .val (.int (0 : Int32))] [(.int (1 : Int32)), (.int (2 : Int32))])
        refine Go.of (fun t k => XS.icmpNo X25.here hx rfl (hb hby at_170) rfl (XT.ii_lt_f (by decide)) k) ?_
        show Go p e below Φ T25 (mkF m 173 #[.val (.long i0), .second, .val (.long i1), .second, .val (.int i2), .val (.long v13), .second, .val (.ref b2), .val (.ref b4), .val (.ref b6), .val (.int (1 : Int32)), .val (.int (2 : Int32)), .val (.int (0 : Int32)), .val (.ref b4), .val (.ref b6), .val (.int (0 : Int32))] [])
        refine Go.of (fun t k => XS.iload X25.here hx rfl (hb hby at_173) rfl  k) ?_
        show Go p e below Φ T25 (mkF m 175 #[.val (.long i0), .second, .val (.long i1), .second, .val (.int i2), .val (.long v13), .second, .val (.ref b2), .val (.ref b4), .val (.ref b6), .val (.int (1 : Int32)), .val (.int (2 : Int32)), .val (.int (0 : Int32)), .val (.ref b4), .val (.ref b6), .val (.int (0 : Int32))] [(.int i2)])
        refine Go.of (fun t k => XS.iconst X25.here hx rfl (hb hby at_175) k) ?_
        show Go p e below Φ T25 (mkF m 176 #[.val (.long i0), .second, .val (.long i1), .second, .val (.int i2), .val (.long v13), .second, .val (.ref b2), .val (.ref b4), .val (.ref b6), .val (.int (1 : Int32)), .val (.int (2 : Int32)), .val (.int (0 : Int32)), .val (.ref b4), .val (.ref b6), .val (.int (0 : Int32))] [(.int (2 : Int32)), (.int i2)])
        refine Go.of (fun t k => XS.iushr X25.here hx rfl (hb hby at_176) rfl k) ?_
        show Go p e below Φ T25 (mkF m 177 #[.val (.long i0), .second, .val (.long i1), .second, .val (.int i2), .val (.long v13), .second, .val (.ref b2), .val (.ref b4), .val (.ref b6), .val (.int (1 : Int32)), .val (.int (2 : Int32)), .val (.int (0 : Int32)), .val (.ref b4), .val (.ref b6), .val (.int (0 : Int32))] [(.int (own_ushr i2 (2 : Int32)))])
        refine Go.of (fun t k => XS.iconst X25.here hx rfl (hb hby at_177) k) ?_
        show Go p e below Φ T25 (mkF m 178 #[.val (.long i0), .second, .val (.long i1), .second, .val (.int i2), .val (.long v13), .second, .val (.ref b2), .val (.ref b4), .val (.ref b6), .val (.int (1 : Int32)), .val (.int (2 : Int32)), .val (.int (0 : Int32)), .val (.ref b4), .val (.ref b6), .val (.int (0 : Int32))] [(.int (1 : Int32)), (.int (own_ushr i2 (2 : Int32)))])
        refine Go.of (fun t k => XS.iand X25.here hx rfl (hb hby at_178) rfl k) ?_
        show Go p e below Φ T25 (mkF m 179 #[.val (.long i0), .second, .val (.long i1), .second, .val (.int i2), .val (.long v13), .second, .val (.ref b2), .val (.ref b4), .val (.ref b6), .val (.int (1 : Int32)), .val (.int (2 : Int32)), .val (.int (0 : Int32)), .val (.ref b4), .val (.ref b6), .val (.int (0 : Int32))] [(.int ((own_ushr i2 (2 : Int32)) &&& (1 : Int32)))])
        by_cases hc179 : ((own_ushr i2 (2 : Int32)) &&& (1 : Int32)) = (0 : Int32)
        · refine Go.of (fun t k => XS.ifYes X25.here hx rfl (pc0 := 179) (pc' := 192) rfl (hb hby at_179) rfl (XT.i0_eq_t hc179) (by decide) (by decide) k) ?_
          show Go p e below Φ T25 (mkF m 192 #[.val (.long i0), .second, .val (.long i1), .second, .val (.int i2), .val (.long v13), .second, .val (.ref b2), .val (.ref b4), .val (.ref b6), .val (.int (1 : Int32)), .val (.int (2 : Int32)), .val (.int (0 : Int32)), .val (.ref b4), .val (.ref b6), .val (.int (0 : Int32))] [])
          refine Go.of (fun t k => XS.iload X25.here hx rfl (hb hby at_192) rfl  k) ?_
          show Go p e below Φ T25 (mkF m 194 #[.val (.long i0), .second, .val (.long i1), .second, .val (.int i2), .val (.long v13), .second, .val (.ref b2), .val (.ref b4), .val (.ref b6), .val (.int (1 : Int32)), .val (.int (2 : Int32)), .val (.int (0 : Int32)), .val (.ref b4), .val (.ref b6), .val (.int (0 : Int32))] [(.int (2 : Int32))])
          refine Go.of (fun t k => XS.iconst X25.here hx rfl (hb hby at_194) k) ?_
          show Go p e below Φ T25 (mkF m 195 #[.val (.long i0), .second, .val (.long i1), .second, .val (.int i2), .val (.long v13), .second, .val (.ref b2), .val (.ref b4), .val (.ref b6), .val (.int (1 : Int32)), .val (.int (2 : Int32)), .val (.int (0 : Int32)), .val (.ref b4), .val (.ref b6), .val (.int (0 : Int32))] [(.int (2 : Int32)), (.int (2 : Int32))])
          refine Go.of (fun t k => XS.icmpNo X25.here hx rfl (hb hby at_195) rfl (XT.ii_lt_f (by decide)) k) ?_
          show Go p e below Φ T25 (mkF m 198 #[.val (.long i0), .second, .val (.long i1), .second, .val (.int i2), .val (.long v13), .second, .val (.ref b2), .val (.ref b4), .val (.ref b6), .val (.int (1 : Int32)), .val (.int (2 : Int32)), .val (.int (0 : Int32)), .val (.ref b4), .val (.ref b6), .val (.int (0 : Int32))] [])
          refine Go.of (fun t k => XS.iload X25.here hx rfl (hb hby at_198) rfl  k) ?_
          show Go p e below Φ T25 (mkF m 200 #[.val (.long i0), .second, .val (.long i1), .second, .val (.int i2), .val (.long v13), .second, .val (.ref b2), .val (.ref b4), .val (.ref b6), .val (.int (1 : Int32)), .val (.int (2 : Int32)), .val (.int (0 : Int32)), .val (.ref b4), .val (.ref b6), .val (.int (0 : Int32))] [(.int i2)])
          refine Go.of (fun t k => XS.iconst X25.here hx rfl (hb hby at_200) k) ?_
          show Go p e below Φ T25 (mkF m 201 #[.val (.long i0), .second, .val (.long i1), .second, .val (.int i2), .val (.long v13), .second, .val (.ref b2), .val (.ref b4), .val (.ref b6), .val (.int (1 : Int32)), .val (.int (2 : Int32)), .val (.int (0 : Int32)), .val (.ref b4), .val (.ref b6), .val (.int (0 : Int32))] [(.int (3 : Int32)), (.int i2)])
          refine Go.of (fun t k => XS.iushr X25.here hx rfl (hb hby at_201) rfl k) ?_
          show Go p e below Φ T25 (mkF m 202 #[.val (.long i0), .second, .val (.long i1), .second, .val (.int i2), .val (.long v13), .second, .val (.ref b2), .val (.ref b4), .val (.ref b6), .val (.int (1 : Int32)), .val (.int (2 : Int32)), .val (.int (0 : Int32)), .val (.ref b4), .val (.ref b6), .val (.int (0 : Int32))] [(.int (own_ushr i2 (3 : Int32)))])
          refine Go.of (fun t k => XS.iconst X25.here hx rfl (hb hby at_202) k) ?_
          show Go p e below Φ T25 (mkF m 203 #[.val (.long i0), .second, .val (.long i1), .second, .val (.int i2), .val (.long v13), .second, .val (.ref b2), .val (.ref b4), .val (.ref b6), .val (.int (1 : Int32)), .val (.int (2 : Int32)), .val (.int (0 : Int32)), .val (.ref b4), .val (.ref b6), .val (.int (0 : Int32))] [(.int (1 : Int32)), (.int (own_ushr i2 (3 : Int32)))])
          refine Go.of (fun t k => XS.iand X25.here hx rfl (hb hby at_203) rfl k) ?_
          show Go p e below Φ T25 (mkF m 204 #[.val (.long i0), .second, .val (.long i1), .second, .val (.int i2), .val (.long v13), .second, .val (.ref b2), .val (.ref b4), .val (.ref b6), .val (.int (1 : Int32)), .val (.int (2 : Int32)), .val (.int (0 : Int32)), .val (.ref b4), .val (.ref b6), .val (.int (0 : Int32))] [(.int ((own_ushr i2 (3 : Int32)) &&& (1 : Int32)))])
          by_cases hc204 : ((own_ushr i2 (3 : Int32)) &&& (1 : Int32)) = (0 : Int32)
          · refine Go.of (fun t k => XS.ifYes X25.here hx rfl (pc0 := 204) (pc' := 217) rfl (hb hby at_204) rfl (XT.i0_eq_t hc204) (by decide) (by decide) k) ?_
            show Go p e below Φ T25 (mkF m 217 #[.val (.long i0), .second, .val (.long i1), .second, .val (.int i2), .val (.long v13), .second, .val (.ref b2), .val (.ref b4), .val (.ref b6), .val (.int (1 : Int32)), .val (.int (2 : Int32)), .val (.int (0 : Int32)), .val (.ref b4), .val (.ref b6), .val (.int (0 : Int32))] [])
            refine Go.of (fun t k => XS.iload X25.here hx rfl (hb hby at_217) rfl  k) ?_
            show Go p e below Φ T25 (mkF m 219 #[.val (.long i0), .second, .val (.long i1), .second, .val (.int i2), .val (.long v13), .second, .val (.ref b2), .val (.ref b4), .val (.ref b6), .val (.int (1 : Int32)), .val (.int (2 : Int32)), .val (.int (0 : Int32)), .val (.ref b4), .val (.ref b6), .val (.int (0 : Int32))] [(.int (1 : Int32))])
            refine Go.of (fun t k => XS.ifNo X25.here hx rfl (hb hby at_219) rfl (XT.i0_eq_f (by decide)) k) ?_
            show Go p e below Φ T25 (mkF m 222 #[.val (.long i0), .second, .val (.long i1), .second, .val (.int i2), .val (.long v13), .second, .val (.ref b2), .val (.ref b4), .val (.ref b6), .val (.int (1 : Int32)), .val (.int (2 : Int32)), .val (.int (0 : Int32)), .val (.ref b4), .val (.ref b6), .val (.int (0 : Int32))] [])
            refine Go.of (fun t k => XS.aload X25.here hx rfl (hb hby at_222) rfl rfl  k) ?_
            show Go p e below Φ T25 (mkF m 224 #[.val (.long i0), .second, .val (.long i1), .second, .val (.int i2), .val (.long v13), .second, .val (.ref b2), .val (.ref b4), .val (.ref b6), .val (.int (1 : Int32)), .val (.int (2 : Int32)), .val (.int (0 : Int32)), .val (.ref b4), .val (.ref b6), .val (.int (0 : Int32))] [(.ref b2)])
            obtain ⟨cq26, kq26, q26a, q26b, q26c⟩ := isOf hZ (e25q) E_b2
            obtain ⟨_, _, ⟨T26, L26, k26, n26⟩, -, X26, ⟨Lc26, hQ26, l26, y26, z26⟩, st26⟩ := X25.virtualBack hx (y := (⟨"com/example/demarq/demarq/broker/SortedMessages", "isEmpty", "()Z"⟩ : MethodName)) (z := (⟨"com/example/demarq/demarq/broker/SortedMessages", "isEmpty", "()Z"⟩ : MethodName)) hown (mvT hZ (hw _ (List.mem_of_getElem? (i := 26) rfl))) (mvT hZ (hw _ (List.mem_of_getElem? (i := 27) rfl))) (notFace_of_selects (args := #[]) (mvT hZ (hw _ (List.mem_of_getElem? (i := 29) rfl)))) (mvT hZ (hw _ (List.mem_of_getElem? (i := 29) rfl))) (mvT hZ (hw _ (List.mem_of_getElem? (i := 28) rfl))) (by decide) (backOf (W := 0) (rm4n l Z a0 hw [] b2 (2 : Int32) T24.heap n0 Z24 F_b2_size (by decide)) hZ (hw _ (List.mem_of_getElem? (i := 30) rfl)) (hw _ (List.mem_of_getElem? (i := 2) rfl)) (by decide) (by decide)) q26a q26c (g := (mkF m 224 #[.val (.long i0), .second, .val (.long i1), .second, .val (.int i2), .val (.long v13), .second, .val (.ref b2), .val (.ref b4), .val (.ref b6), .val (.int (1 : Int32)), .val (.int (2 : Int32)), .val (.int (0 : Int32)), .val (.ref b4), .val (.ref b6), .val (.int (0 : Int32))] [(.ref b2)])) rfl (by rw [hml]; rfl) (Steps.refl _) (argsL := []) (rest := []) (lenOf own_pd9 rfl) rfl (by show 2 * 0 + _ ≤ _; exact Nat.le_of_eq rfl) (hb hby at_224) (fun _ _ => ⟨rfl, (e25q), (by decide : 4 + 0 ≤ _), (by decide : 27 + 0 ≤ _)⟩)
            dsimp only [Pt.U, Pt.locs, Pt.cells, Pt.slots] at X26 l26 y26 z26 st26 hQ26
            subst l26 y26 z26
            obtain ⟨rfl, N26q, e26q⟩ := hQ26
            have N26 := Fr.app N25 N26q
            obtain ⟨lc26, X26, N26⟩ : ∃ lc, Stand p l e room_1 s m #[(.long i0), (.long i1), (.int i2)] below meth c T26 lc 4 27 ∧ Fr n0 lc := ⟨_, X26, N26⟩
            refine Go.tr st26 ?_
            show Go p e below Φ T26 (mkF m 227 #[.val (.long i0), .second, .val (.long i1), .second, .val (.int i2), .val (.long v13), .second, .val (.ref b2), .val (.ref b4), .val (.ref b6), .val (.int (1 : Int32)), .val (.int (2 : Int32)), .val (.int (0 : Int32)), .val (.ref b4), .val (.ref b6), .val (.int (0 : Int32))] [(.int (0 : Int32))])
            refine Go.of (fun t k => XS.iload X26.here hx rfl (hb hby at_227) rfl  k) ?_
            show Go p e below Φ T26 (mkF m 229 #[.val (.long i0), .second, .val (.long i1), .second, .val (.int i2), .val (.long v13), .second, .val (.ref b2), .val (.ref b4), .val (.ref b6), .val (.int (1 : Int32)), .val (.int (2 : Int32)), .val (.int (0 : Int32)), .val (.ref b4), .val (.ref b6), .val (.int (0 : Int32))] [(.int (2 : Int32)), (.int (0 : Int32))])
            refine Go.of (fun t k => XS.iload X26.here hx rfl (hb hby at_229) rfl  k) ?_
            show Go p e below Φ T26 (mkF m 231 #[.val (.long i0), .second, .val (.long i1), .second, .val (.int i2), .val (.long v13), .second, .val (.ref b2), .val (.ref b4), .val (.ref b6), .val (.int (1 : Int32)), .val (.int (2 : Int32)), .val (.int (0 : Int32)), .val (.ref b4), .val (.ref b6), .val (.int (0 : Int32))] [(.int (0 : Int32)), (.int (2 : Int32)), (.int (0 : Int32))])
            refine Go.of (fun t k => XS.isub X26.here hx rfl (hb hby at_231) rfl k) ?_
            show Go p e below Φ T26 (mkF m 232 #[.val (.long i0), .second, .val (.long i1), .second, .val (.int i2), .val (.long v13), .second, .val (.ref b2), .val (.ref b4), .val (.ref b6), .val (.int (1 : Int32)), .val (.int (2 : Int32)), .val (.int (0 : Int32)), .val (.ref b4), .val (.ref b6), .val (.int (0 : Int32))] [(.int (2 : Int32)), (.int (0 : Int32))])
            refine Go.of (fun t k => XS.ifYes X26.here hx rfl (pc0 := 232) (pc' := 239) rfl (hb hby at_232) rfl (XT.i0_ne_t (by decide)) (by decide) (by decide) k) ?_
            show Go p e below Φ T26 (mkF m 239 #[.val (.long i0), .second, .val (.long i1), .second, .val (.int i2), .val (.long v13), .second, .val (.ref b2), .val (.ref b4), .val (.ref b6), .val (.int (1 : Int32)), .val (.int (2 : Int32)), .val (.int (0 : Int32)), .val (.ref b4), .val (.ref b6), .val (.int (0 : Int32))] [(.int (0 : Int32))])
            refine Go.of (fun t k => XS.iconst X26.here hx rfl (hb hby at_239) k) ?_
            show Go p e below Φ T26 (mkF m 240 #[.val (.long i0), .second, .val (.long i1), .second, .val (.int i2), .val (.long v13), .second, .val (.ref b2), .val (.ref b4), .val (.ref b6), .val (.int (1 : Int32)), .val (.int (2 : Int32)), .val (.int (0 : Int32)), .val (.ref b4), .val (.ref b6), .val (.int (0 : Int32))] [(.int (0 : Int32)), (.int (0 : Int32))])
            refine Go.of (fun t k => XS.icmpNo X26.here hx rfl (hb hby at_240) rfl (XT.ii_ne_f rfl) k) ?_
            show Go p e below Φ T26 (mkF m 243 #[.val (.long i0), .second, .val (.long i1), .second, .val (.int i2), .val (.long v13), .second, .val (.ref b2), .val (.ref b4), .val (.ref b6), .val (.int (1 : Int32)), .val (.int (2 : Int32)), .val (.int (0 : Int32)), .val (.ref b4), .val (.ref b6), .val (.int (0 : Int32))] [])
            refine Go.of (fun t k => XS.iconst X26.here hx rfl (hb hby at_243) k) ?_
            show Go p e below Φ T26 (mkF m 244 #[.val (.long i0), .second, .val (.long i1), .second, .val (.int i2), .val (.long v13), .second, .val (.ref b2), .val (.ref b4), .val (.ref b6), .val (.int (1 : Int32)), .val (.int (2 : Int32)), .val (.int (0 : Int32)), .val (.ref b4), .val (.ref b6), .val (.int (0 : Int32))] [(.int (1 : Int32))])
            refine Go.of (fun t k => XS.goto X26.here hx rfl (pc0 := 244) (pc' := 248) rfl (hb hby at_244) (by decide) (by decide) k) ?_
            show Go p e below Φ T26 (mkF m 248 #[.val (.long i0), .second, .val (.long i1), .second, .val (.int i2), .val (.long v13), .second, .val (.ref b2), .val (.ref b4), .val (.ref b6), .val (.int (1 : Int32)), .val (.int (2 : Int32)), .val (.int (0 : Int32)), .val (.ref b4), .val (.ref b6), .val (.int (0 : Int32))] [(.int (1 : Int32))])
            refine Go.of (fun t k => XS.istore X26.here hx rfl (hb hby at_248) rfl (l' := #[.val (.long i0), .second, .val (.long i1), .second, .val (.int i2), .val (.long v13), .second, .val (.ref b2), .val (.ref b4), .val (.ref b6), .val (.int (1 : Int32)), .val (.int (2 : Int32)), .val (.int (0 : Int32)), .val (.ref b4), .val (.ref b6), .val (.int (0 : Int32))]) rfl k) ?_
            show Go p e below Φ T26 (mkF m 250 #[.val (.long i0), .second, .val (.long i1), .second, .val (.int i2), .val (.long v13), .second, .val (.ref b2), .val (.ref b4), .val (.ref b6), .val (.int (1 : Int32)), .val (.int (2 : Int32)), .val (.int (0 : Int32)), .val (.ref b4), .val (.ref b6), .val (.int (0 : Int32))] [])
            refine Go.of (fun t k => XS.iload X26.here hx rfl (hb hby at_250) rfl  k) ?_
            show Go p e below Φ T26 (mkF m 252 #[.val (.long i0), .second, .val (.long i1), .second, .val (.int i2), .val (.long v13), .second, .val (.ref b2), .val (.ref b4), .val (.ref b6), .val (.int (1 : Int32)), .val (.int (2 : Int32)), .val (.int (0 : Int32)), .val (.ref b4), .val (.ref b6), .val (.int (0 : Int32))] [(.int (1 : Int32))])
            rw [hΦ]
            refine Go.ret X26 hx Bd.notSynchronized Bd.returns rfl (Or.inl ⟨rfl, Or.inr (Or.inl rfl), _, rfl⟩) (hb hby at_252) (by decide) (by decide) ?_
            rw [(e26q)]
            exact ⟨rfl, N26⟩
          · refine Go.of (fun t k => XS.ifNo X25.here hx rfl (hb hby at_204) rfl (XT.i0_eq_f hc204) k) ?_
            show Go p e below Φ T25 (mkF m 207 #[.val (.long i0), .second, .val (.long i1), .second, .val (.int i2), .val (.long v13), .second, .val (.ref b2), .val (.ref b4), .val (.ref b6), .val (.int (1 : Int32)), .val (.int (2 : Int32)), .val (.int (0 : Int32)), .val (.ref b4), .val (.ref b6), .val (.int (0 : Int32))] [])
            refine Go.of (fun t k => XS.aload X25.here hx rfl (hb hby at_207) rfl rfl  k) ?_
            show Go p e below Φ T25 (mkF m 209 #[.val (.long i0), .second, .val (.long i1), .second, .val (.int i2), .val (.long v13), .second, .val (.ref b2), .val (.ref b4), .val (.ref b6), .val (.int (1 : Int32)), .val (.int (2 : Int32)), .val (.int (0 : Int32)), .val (.ref b4), .val (.ref b6), .val (.int (0 : Int32))] [(.ref b2)])
            refine Go.of (fun t k => XS.aload X25.here hx rfl (hb hby at_209) rfl rfl  k) ?_
            show Go p e below Φ T25 (mkF m 211 #[.val (.long i0), .second, .val (.long i1), .second, .val (.int i2), .val (.long v13), .second, .val (.ref b2), .val (.ref b4), .val (.ref b6), .val (.int (1 : Int32)), .val (.int (2 : Int32)), .val (.int (0 : Int32)), .val (.ref b4), .val (.ref b6), .val (.int (0 : Int32))] [(.ref b6), (.ref b2)])
            obtain ⟨cq27, kq27, q27a, q27b, q27c⟩ := isOf hZ (e25q) E_b2
            obtain ⟨_, _, ⟨T27, L27, k27, n27⟩, -, X27, ⟨Lc27, hQ27, l27, y27, z27⟩, st27⟩ := X25.virtualBack hx (y := (⟨"com/example/demarq/demarq/broker/SortedMessages", "remove", "(Lcom/example/demarq/demarq/broker/Message;)V"⟩ : MethodName)) (z := (⟨"com/example/demarq/demarq/broker/SortedMessages", "remove", "(Lcom/example/demarq/demarq/broker/Message;)V"⟩ : MethodName)) hown (mvT hZ (hw _ (List.mem_of_getElem? (i := 49) rfl))) (mvT hZ (hw _ (List.mem_of_getElem? (i := 50) rfl))) (notFace_of_selects (args := #[]) (mvT hZ (hw _ (List.mem_of_getElem? (i := 52) rfl)))) (mvT hZ (hw _ (List.mem_of_getElem? (i := 52) rfl))) (mvT hZ (hw _ (List.mem_of_getElem? (i := 51) rfl))) (by decide) (backOf (W := 0) (rm8y l Z a0 hw [] b2 b6 b3 k3 (((1 : Int32), (.ref b6)) :: (((0 : Int32), (.ref b4)) :: [])) b4 (0 : Int32) i0 v13 T24.heap n0 Z24 F_b2_head F_b2_ring V_b3 E_b2 g_b2 g_b3 ne_b2_b3 F_b2_size ⟨by decide, by decide⟩ (getH_miss (by decide) (by decide) (getH_hit (by decide) (by decide))) E_b4 F_b4_position ⟨by decide, by decide⟩ (getH_hit (by decide) (by decide)) E_b6 F_b6_position hlt (Ne.symm ne_b2_b4) (Ne.symm ne_b3_b4) (Ne.symm ne_b2_b6) (Ne.symm ne_b3_b6)) hZ (hw _ (List.mem_of_getElem? (i := 53) rfl)) (hw _ (List.mem_of_getElem? (i := 2) rfl)) (by decide) (by decide)) q27a q27c (g := (mkF m 211 #[.val (.long i0), .second, .val (.long i1), .second, .val (.int i2), .val (.long v13), .second, .val (.ref b2), .val (.ref b4), .val (.ref b6), .val (.int (1 : Int32)), .val (.int (2 : Int32)), .val (.int (0 : Int32)), .val (.ref b4), .val (.ref b6), .val (.int (0 : Int32))] [(.ref b6), (.ref b2)])) rfl (by rw [hml]; rfl) (Steps.refl _) (argsL := [(.ref b6)]) (rest := []) (lenOf own_pd10 rfl) rfl (by show 2 * 0 + _ ≤ _; exact Nat.le_of_eq rfl) (hb hby at_211) (fun _ _ => ⟨rfl, (e25q), (by decide : 4 + 1 ≤ _), (by decide : 27 + 2 ≤ _)⟩)
            dsimp only [Pt.U, Pt.locs, Pt.cells, Pt.slots] at X27 l27 y27 z27 st27 hQ27
            subst l27 y27 z27
            obtain ⟨rfl, N27q, K27q, c27_0, c27_1, c27_2, c27_3⟩ := hQ27
            have N27 := Fr.app N25 N27q
            obtain ⟨lc27, X27, N27⟩ : ∃ lc, Stand p l e room_1 s m #[(.long i0), (.long i1), (.int i2)] below meth c T27 lc 5 29 ∧ Fr n0 lc := ⟨_, X27, N27⟩
            have E_b2 := E_b2.keep K27q
            have E_b4 := E_b4.keep K27q
            have F_b4_position := F_b4_position.keep K27q (ninS (Ne.symm ne_b2_b4) (ninS (Ne.symm ne_b3_b4) nin0))
            have E_b6 := E_b6.keep K27q
            have F_b6_position := F_b6_position.keep K27q (ninS (Ne.symm ne_b2_b6) (ninS (Ne.symm ne_b3_b6) nin0))
            have F_b2_size := c27_0
            have F_b2_head := c27_1
            have F_b2_ring := c27_2
            have V_b3 : Arh Z T27.heap b3 k3 (.object "com/example/demarq/demarq/broker/Message") (16 : Int32) (((1 : Int32), .null) :: (((1 : Int32), (.ref b6)) :: (((0 : Int32), (.ref b4)) :: []))) [] .null := c27_3
            have Z27 := Nat.le_trans Z24 K27q.1
            refine Go.tr st27 ?_
            show Go p e below Φ T27 (mkF m 214 #[.val (.long i0), .second, .val (.long i1), .second, .val (.int i2), .val (.long v13), .second, .val (.ref b2), .val (.ref b4), .val (.ref b6), .val (.int (1 : Int32)), .val (.int (2 : Int32)), .val (.int (0 : Int32)), .val (.ref b4), .val (.ref b6), .val (.int (0 : Int32))] [])
            refine Go.of (fun t k => XS.iinc X27.here hx rfl (hb hby at_214) rfl (l' := #[.val (.long i0), .second, .val (.long i1), .second, .val (.int i2), .val (.long v13), .second, .val (.ref b2), .val (.ref b4), .val (.ref b6), .val (.int (1 : Int32)), .val (.int (2 : Int32)), .val (.int (0 : Int32)), .val (.ref b4), .val (.ref b6), .val (.int (1 : Int32))]) rfl k) ?_
            show Go p e below Φ T27 (mkF m 217 #[.val (.long i0), .second, .val (.long i1), .second, .val (.int i2), .val (.long v13), .second, .val (.ref b2), .val (.ref b4), .val (.ref b6), .val (.int (1 : Int32)), .val (.int (2 : Int32)), .val (.int (0 : Int32)), .val (.ref b4), .val (.ref b6), .val (.int (1 : Int32))] [])
            refine Go.of (fun t k => XS.iload X27.here hx rfl (hb hby at_217) rfl  k) ?_
            show Go p e below Φ T27 (mkF m 219 #[.val (.long i0), .second, .val (.long i1), .second, .val (.int i2), .val (.long v13), .second, .val (.ref b2), .val (.ref b4), .val (.ref b6), .val (.int (1 : Int32)), .val (.int (2 : Int32)), .val (.int (0 : Int32)), .val (.ref b4), .val (.ref b6), .val (.int (1 : Int32))] [(.int (1 : Int32))])
            refine Go.of (fun t k => XS.ifNo X27.here hx rfl (hb hby at_219) rfl (XT.i0_eq_f (by decide)) k) ?_
            show Go p e below Φ T27 (mkF m 222 #[.val (.long i0), .second, .val (.long i1), .second, .val (.int i2), .val (.long v13), .second, .val (.ref b2), .val (.ref b4), .val (.ref b6), .val (.int (1 : Int32)), .val (.int (2 : Int32)), .val (.int (0 : Int32)), .val (.ref b4), .val (.ref b6), .val (.int (1 : Int32))] [])
            refine Go.of (fun t k => XS.aload X27.here hx rfl (hb hby at_222) rfl rfl  k) ?_
            show Go p e below Φ T27 (mkF m 224 #[.val (.long i0), .second, .val (.long i1), .second, .val (.int i2), .val (.long v13), .second, .val (.ref b2), .val (.ref b4), .val (.ref b6), .val (.int (1 : Int32)), .val (.int (2 : Int32)), .val (.int (0 : Int32)), .val (.ref b4), .val (.ref b6), .val (.int (1 : Int32))] [(.ref b2)])
            obtain ⟨cq28, kq28, q28a, q28b, q28c⟩ := isOf hZ rfl E_b2
            obtain ⟨_, _, ⟨T28, L28, k28, n28⟩, -, X28, ⟨Lc28, hQ28, l28, y28, z28⟩, st28⟩ := X27.virtualBack hx (y := (⟨"com/example/demarq/demarq/broker/SortedMessages", "isEmpty", "()Z"⟩ : MethodName)) (z := (⟨"com/example/demarq/demarq/broker/SortedMessages", "isEmpty", "()Z"⟩ : MethodName)) hown (mvT hZ (hw _ (List.mem_of_getElem? (i := 26) rfl))) (mvT hZ (hw _ (List.mem_of_getElem? (i := 27) rfl))) (notFace_of_selects (args := #[]) (mvT hZ (hw _ (List.mem_of_getElem? (i := 29) rfl)))) (mvT hZ (hw _ (List.mem_of_getElem? (i := 29) rfl))) (mvT hZ (hw _ (List.mem_of_getElem? (i := 28) rfl))) (by decide) (backOf (W := 0) (rm4n l Z a0 hw [] b2 (1 : Int32) T27.heap n0 Z27 F_b2_size (by decide)) hZ (hw _ (List.mem_of_getElem? (i := 30) rfl)) (hw _ (List.mem_of_getElem? (i := 2) rfl)) (by decide) (by decide)) q28a q28c (g := (mkF m 224 #[.val (.long i0), .second, .val (.long i1), .second, .val (.int i2), .val (.long v13), .second, .val (.ref b2), .val (.ref b4), .val (.ref b6), .val (.int (1 : Int32)), .val (.int (2 : Int32)), .val (.int (0 : Int32)), .val (.ref b4), .val (.ref b6), .val (.int (1 : Int32))] [(.ref b2)])) rfl (by rw [hml]; rfl) (Steps.refl _) (argsL := []) (rest := []) (lenOf own_pd9 rfl) rfl (by show 2 * 0 + _ ≤ _; exact Nat.le_of_eq rfl) (hb hby at_224) (fun _ _ => ⟨rfl, rfl, (by decide : 5 + 0 ≤ _), (by decide : 29 + 0 ≤ _)⟩)
            dsimp only [Pt.U, Pt.locs, Pt.cells, Pt.slots] at X28 l28 y28 z28 st28 hQ28
            subst l28 y28 z28
            obtain ⟨rfl, N28q, e28q⟩ := hQ28
            have N28 := Fr.app N27 N28q
            obtain ⟨lc28, X28, N28⟩ : ∃ lc, Stand p l e room_1 s m #[(.long i0), (.long i1), (.int i2)] below meth c T28 lc 5 29 ∧ Fr n0 lc := ⟨_, X28, N28⟩
            refine Go.tr st28 ?_
            show Go p e below Φ T28 (mkF m 227 #[.val (.long i0), .second, .val (.long i1), .second, .val (.int i2), .val (.long v13), .second, .val (.ref b2), .val (.ref b4), .val (.ref b6), .val (.int (1 : Int32)), .val (.int (2 : Int32)), .val (.int (0 : Int32)), .val (.ref b4), .val (.ref b6), .val (.int (1 : Int32))] [(.int (0 : Int32))])
            refine Go.of (fun t k => XS.iload X28.here hx rfl (hb hby at_227) rfl  k) ?_
            show Go p e below Φ T28 (mkF m 229 #[.val (.long i0), .second, .val (.long i1), .second, .val (.int i2), .val (.long v13), .second, .val (.ref b2), .val (.ref b4), .val (.ref b6), .val (.int (1 : Int32)), .val (.int (2 : Int32)), .val (.int (0 : Int32)), .val (.ref b4), .val (.ref b6), .val (.int (1 : Int32))] [(.int (2 : Int32)), (.int (0 : Int32))])
            refine Go.of (fun t k => XS.iload X28.here hx rfl (hb hby at_229) rfl  k) ?_
            show Go p e below Φ T28 (mkF m 231 #[.val (.long i0), .second, .val (.long i1), .second, .val (.int i2), .val (.long v13), .second, .val (.ref b2), .val (.ref b4), .val (.ref b6), .val (.int (1 : Int32)), .val (.int (2 : Int32)), .val (.int (0 : Int32)), .val (.ref b4), .val (.ref b6), .val (.int (1 : Int32))] [(.int (1 : Int32)), (.int (2 : Int32)), (.int (0 : Int32))])
            refine Go.of (fun t k => XS.isub X28.here hx rfl (hb hby at_231) rfl k) ?_
            show Go p e below Φ T28 (mkF m 232 #[.val (.long i0), .second, .val (.long i1), .second, .val (.int i2), .val (.long v13), .second, .val (.ref b2), .val (.ref b4), .val (.ref b6), .val (.int (1 : Int32)), .val (.int (2 : Int32)), .val (.int (0 : Int32)), .val (.ref b4), .val (.ref b6), .val (.int (1 : Int32))] [(.int (1 : Int32)), (.int (0 : Int32))])
            refine Go.of (fun t k => XS.ifYes X28.here hx rfl (pc0 := 232) (pc' := 239) rfl (hb hby at_232) rfl (XT.i0_ne_t (by decide)) (by decide) (by decide) k) ?_
            show Go p e below Φ T28 (mkF m 239 #[.val (.long i0), .second, .val (.long i1), .second, .val (.int i2), .val (.long v13), .second, .val (.ref b2), .val (.ref b4), .val (.ref b6), .val (.int (1 : Int32)), .val (.int (2 : Int32)), .val (.int (0 : Int32)), .val (.ref b4), .val (.ref b6), .val (.int (1 : Int32))] [(.int (0 : Int32))])
            refine Go.of (fun t k => XS.iconst X28.here hx rfl (hb hby at_239) k) ?_
            show Go p e below Φ T28 (mkF m 240 #[.val (.long i0), .second, .val (.long i1), .second, .val (.int i2), .val (.long v13), .second, .val (.ref b2), .val (.ref b4), .val (.ref b6), .val (.int (1 : Int32)), .val (.int (2 : Int32)), .val (.int (0 : Int32)), .val (.ref b4), .val (.ref b6), .val (.int (1 : Int32))] [(.int (0 : Int32)), (.int (0 : Int32))])
            refine Go.of (fun t k => XS.icmpNo X28.here hx rfl (hb hby at_240) rfl (XT.ii_ne_f rfl) k) ?_
            show Go p e below Φ T28 (mkF m 243 #[.val (.long i0), .second, .val (.long i1), .second, .val (.int i2), .val (.long v13), .second, .val (.ref b2), .val (.ref b4), .val (.ref b6), .val (.int (1 : Int32)), .val (.int (2 : Int32)), .val (.int (0 : Int32)), .val (.ref b4), .val (.ref b6), .val (.int (1 : Int32))] [])
            refine Go.of (fun t k => XS.iconst X28.here hx rfl (hb hby at_243) k) ?_
            show Go p e below Φ T28 (mkF m 244 #[.val (.long i0), .second, .val (.long i1), .second, .val (.int i2), .val (.long v13), .second, .val (.ref b2), .val (.ref b4), .val (.ref b6), .val (.int (1 : Int32)), .val (.int (2 : Int32)), .val (.int (0 : Int32)), .val (.ref b4), .val (.ref b6), .val (.int (1 : Int32))] [(.int (1 : Int32))])
            refine Go.of (fun t k => XS.goto X28.here hx rfl (pc0 := 244) (pc' := 248) rfl (hb hby at_244) (by decide) (by decide) k) ?_
            show Go p e below Φ T28 (mkF m 248 #[.val (.long i0), .second, .val (.long i1), .second, .val (.int i2), .val (.long v13), .second, .val (.ref b2), .val (.ref b4), .val (.ref b6), .val (.int (1 : Int32)), .val (.int (2 : Int32)), .val (.int (0 : Int32)), .val (.ref b4), .val (.ref b6), .val (.int (1 : Int32))] [(.int (1 : Int32))])
            refine Go.of (fun t k => XS.istore X28.here hx rfl (hb hby at_248) rfl (l' := #[.val (.long i0), .second, .val (.long i1), .second, .val (.int i2), .val (.long v13), .second, .val (.ref b2), .val (.ref b4), .val (.ref b6), .val (.int (1 : Int32)), .val (.int (2 : Int32)), .val (.int (0 : Int32)), .val (.ref b4), .val (.ref b6), .val (.int (1 : Int32))]) rfl k) ?_
            show Go p e below Φ T28 (mkF m 250 #[.val (.long i0), .second, .val (.long i1), .second, .val (.int i2), .val (.long v13), .second, .val (.ref b2), .val (.ref b4), .val (.ref b6), .val (.int (1 : Int32)), .val (.int (2 : Int32)), .val (.int (0 : Int32)), .val (.ref b4), .val (.ref b6), .val (.int (1 : Int32))] [])
            refine Go.of (fun t k => XS.iload X28.here hx rfl (hb hby at_250) rfl  k) ?_
            show Go p e below Φ T28 (mkF m 252 #[.val (.long i0), .second, .val (.long i1), .second, .val (.int i2), .val (.long v13), .second, .val (.ref b2), .val (.ref b4), .val (.ref b6), .val (.int (1 : Int32)), .val (.int (2 : Int32)), .val (.int (0 : Int32)), .val (.ref b4), .val (.ref b6), .val (.int (1 : Int32))] [(.int (1 : Int32))])
            rw [hΦ]
            refine Go.ret X28 hx Bd.notSynchronized Bd.returns rfl (Or.inl ⟨rfl, Or.inr (Or.inl rfl), _, rfl⟩) (hb hby at_252) (by decide) (by decide) ?_
            rw [(e28q)]
            exact ⟨rfl, N28⟩
        · refine Go.of (fun t k => XS.ifNo X25.here hx rfl (hb hby at_179) rfl (XT.i0_eq_f hc179) k) ?_
          show Go p e below Φ T25 (mkF m 182 #[.val (.long i0), .second, .val (.long i1), .second, .val (.int i2), .val (.long v13), .second, .val (.ref b2), .val (.ref b4), .val (.ref b6), .val (.int (1 : Int32)), .val (.int (2 : Int32)), .val (.int (0 : Int32)), .val (.ref b4), .val (.ref b6), .val (.int (0 : Int32))] [])
          refine Go.of (fun t k => XS.aload X25.here hx rfl (hb hby at_182) rfl rfl  k) ?_
          show Go p e below Φ T25 (mkF m 184 #[.val (.long i0), .second, .val (.long i1), .second, .val (.int i2), .val (.long v13), .second, .val (.ref b2), .val (.ref b4), .val (.ref b6), .val (.int (1 : Int32)), .val (.int (2 : Int32)), .val (.int (0 : Int32)), .val (.ref b4), .val (.ref b6), .val (.int (0 : Int32))] [(.ref b2)])
          refine Go.of (fun t k => XS.aload X25.here hx rfl (hb hby at_184) rfl rfl  k) ?_
          show Go p e below Φ T25 (mkF m 186 #[.val (.long i0), .second, .val (.long i1), .second, .val (.int i2), .val (.long v13), .second, .val (.ref b2), .val (.ref b4), .val (.ref b6), .val (.int (1 : Int32)), .val (.int (2 : Int32)), .val (.int (0 : Int32)), .val (.ref b4), .val (.ref b6), .val (.int (0 : Int32))] [(.ref b4), (.ref b2)])
          obtain ⟨cq29, kq29, q29a, q29b, q29c⟩ := isOf hZ (e25q) E_b2
          obtain ⟨_, _, ⟨T29, L29, k29, n29⟩, -, X29, ⟨Lc29, hQ29, l29, y29, z29⟩, st29⟩ := X25.virtualBack hx (y := (⟨"com/example/demarq/demarq/broker/SortedMessages", "remove", "(Lcom/example/demarq/demarq/broker/Message;)V"⟩ : MethodName)) (z := (⟨"com/example/demarq/demarq/broker/SortedMessages", "remove", "(Lcom/example/demarq/demarq/broker/Message;)V"⟩ : MethodName)) hown (mvT hZ (hw _ (List.mem_of_getElem? (i := 49) rfl))) (mvT hZ (hw _ (List.mem_of_getElem? (i := 50) rfl))) (notFace_of_selects (args := #[]) (mvT hZ (hw _ (List.mem_of_getElem? (i := 52) rfl)))) (mvT hZ (hw _ (List.mem_of_getElem? (i := 52) rfl))) (mvT hZ (hw _ (List.mem_of_getElem? (i := 51) rfl))) (by decide) (backOf (W := 0) (rm8x l Z a0 hw [] b2 b4 b3 k3 (((1 : Int32), (.ref b6)) :: (((0 : Int32), (.ref b4)) :: [])) (0 : Int32) i0 T24.heap n0 Z24 F_b2_head F_b2_ring V_b3 E_b2 g_b2 g_b3 ne_b2_b3 F_b2_size ⟨by decide, by decide⟩ (getH_miss (by decide) (by decide) (getH_hit (by decide) (by decide))) E_b4 F_b4_position ⟨by decide, by decide⟩ (Ne.symm ne_b2_b4) (Ne.symm ne_b3_b4)) hZ (hw _ (List.mem_of_getElem? (i := 53) rfl)) (hw _ (List.mem_of_getElem? (i := 2) rfl)) (by decide) (by decide)) q29a q29c (g := (mkF m 186 #[.val (.long i0), .second, .val (.long i1), .second, .val (.int i2), .val (.long v13), .second, .val (.ref b2), .val (.ref b4), .val (.ref b6), .val (.int (1 : Int32)), .val (.int (2 : Int32)), .val (.int (0 : Int32)), .val (.ref b4), .val (.ref b6), .val (.int (0 : Int32))] [(.ref b4), (.ref b2)])) rfl (by rw [hml]; rfl) (Steps.refl _) (argsL := [(.ref b4)]) (rest := []) (lenOf own_pd10 rfl) rfl (by show 2 * 0 + _ ≤ _; exact Nat.le_of_eq rfl) (hb hby at_186) (fun _ _ => ⟨rfl, (e25q), (by decide : 4 + 1 ≤ _), (by decide : 27 + 2 ≤ _)⟩)
          dsimp only [Pt.U, Pt.locs, Pt.cells, Pt.slots] at X29 l29 y29 z29 st29 hQ29
          subst l29 y29 z29
          obtain ⟨rfl, N29q, K29q, c29_0, c29_1, c29_2, c29_3⟩ := hQ29
          have N29 := Fr.app N25 N29q
          obtain ⟨lc29, X29, N29⟩ : ∃ lc, Stand p l e room_1 s m #[(.long i0), (.long i1), (.int i2)] below meth c T29 lc 5 29 ∧ Fr n0 lc := ⟨_, X29, N29⟩
          have E_b2 := E_b2.keep K29q
          have E_b4 := E_b4.keep K29q
          have F_b4_position := F_b4_position.keep K29q (ninS (Ne.symm ne_b2_b4) (ninS (Ne.symm ne_b3_b4) nin0))
          have E_b6 := E_b6.keep K29q
          have F_b6_position := F_b6_position.keep K29q (ninS (Ne.symm ne_b2_b6) (ninS (Ne.symm ne_b3_b6) nin0))
          have F_b2_size := c29_0
          have F_b2_head := c29_1
          have F_b2_ring := c29_2
          have V_b3 : Arh Z T29.heap b3 k3 (.object "com/example/demarq/demarq/broker/Message") (16 : Int32) (((0 : Int32), .null) :: (((1 : Int32), (.ref b6)) :: (((0 : Int32), (.ref b4)) :: []))) [] .null := c29_3
          have Z29 := Nat.le_trans Z24 K29q.1
          refine Go.tr st29 ?_
          show Go p e below Φ T29 (mkF m 189 #[.val (.long i0), .second, .val (.long i1), .second, .val (.int i2), .val (.long v13), .second, .val (.ref b2), .val (.ref b4), .val (.ref b6), .val (.int (1 : Int32)), .val (.int (2 : Int32)), .val (.int (0 : Int32)), .val (.ref b4), .val (.ref b6), .val (.int (0 : Int32))] [])
          refine Go.of (fun t k => XS.iinc X29.here hx rfl (hb hby at_189) rfl (l' := #[.val (.long i0), .second, .val (.long i1), .second, .val (.int i2), .val (.long v13), .second, .val (.ref b2), .val (.ref b4), .val (.ref b6), .val (.int (1 : Int32)), .val (.int (2 : Int32)), .val (.int (0 : Int32)), .val (.ref b4), .val (.ref b6), .val (.int (1 : Int32))]) rfl k) ?_
          show Go p e below Φ T29 (mkF m 192 #[.val (.long i0), .second, .val (.long i1), .second, .val (.int i2), .val (.long v13), .second, .val (.ref b2), .val (.ref b4), .val (.ref b6), .val (.int (1 : Int32)), .val (.int (2 : Int32)), .val (.int (0 : Int32)), .val (.ref b4), .val (.ref b6), .val (.int (1 : Int32))] [])
          refine Go.of (fun t k => XS.iload X29.here hx rfl (hb hby at_192) rfl  k) ?_
          show Go p e below Φ T29 (mkF m 194 #[.val (.long i0), .second, .val (.long i1), .second, .val (.int i2), .val (.long v13), .second, .val (.ref b2), .val (.ref b4), .val (.ref b6), .val (.int (1 : Int32)), .val (.int (2 : Int32)), .val (.int (0 : Int32)), .val (.ref b4), .val (.ref b6), .val (.int (1 : Int32))] [(.int (2 : Int32))])
          refine Go.of (fun t k => XS.iconst X29.here hx rfl (hb hby at_194) k) ?_
          show Go p e below Φ T29 (mkF m 195 #[.val (.long i0), .second, .val (.long i1), .second, .val (.int i2), .val (.long v13), .second, .val (.ref b2), .val (.ref b4), .val (.ref b6), .val (.int (1 : Int32)), .val (.int (2 : Int32)), .val (.int (0 : Int32)), .val (.ref b4), .val (.ref b6), .val (.int (1 : Int32))] [(.int (2 : Int32)), (.int (2 : Int32))])
          refine Go.of (fun t k => XS.icmpNo X29.here hx rfl (hb hby at_195) rfl (XT.ii_lt_f (by decide)) k) ?_
          show Go p e below Φ T29 (mkF m 198 #[.val (.long i0), .second, .val (.long i1), .second, .val (.int i2), .val (.long v13), .second, .val (.ref b2), .val (.ref b4), .val (.ref b6), .val (.int (1 : Int32)), .val (.int (2 : Int32)), .val (.int (0 : Int32)), .val (.ref b4), .val (.ref b6), .val (.int (1 : Int32))] [])
          refine Go.of (fun t k => XS.iload X29.here hx rfl (hb hby at_198) rfl  k) ?_
          show Go p e below Φ T29 (mkF m 200 #[.val (.long i0), .second, .val (.long i1), .second, .val (.int i2), .val (.long v13), .second, .val (.ref b2), .val (.ref b4), .val (.ref b6), .val (.int (1 : Int32)), .val (.int (2 : Int32)), .val (.int (0 : Int32)), .val (.ref b4), .val (.ref b6), .val (.int (1 : Int32))] [(.int i2)])
          refine Go.of (fun t k => XS.iconst X29.here hx rfl (hb hby at_200) k) ?_
          show Go p e below Φ T29 (mkF m 201 #[.val (.long i0), .second, .val (.long i1), .second, .val (.int i2), .val (.long v13), .second, .val (.ref b2), .val (.ref b4), .val (.ref b6), .val (.int (1 : Int32)), .val (.int (2 : Int32)), .val (.int (0 : Int32)), .val (.ref b4), .val (.ref b6), .val (.int (1 : Int32))] [(.int (3 : Int32)), (.int i2)])
          refine Go.of (fun t k => XS.iushr X29.here hx rfl (hb hby at_201) rfl k) ?_
          show Go p e below Φ T29 (mkF m 202 #[.val (.long i0), .second, .val (.long i1), .second, .val (.int i2), .val (.long v13), .second, .val (.ref b2), .val (.ref b4), .val (.ref b6), .val (.int (1 : Int32)), .val (.int (2 : Int32)), .val (.int (0 : Int32)), .val (.ref b4), .val (.ref b6), .val (.int (1 : Int32))] [(.int (own_ushr i2 (3 : Int32)))])
          refine Go.of (fun t k => XS.iconst X29.here hx rfl (hb hby at_202) k) ?_
          show Go p e below Φ T29 (mkF m 203 #[.val (.long i0), .second, .val (.long i1), .second, .val (.int i2), .val (.long v13), .second, .val (.ref b2), .val (.ref b4), .val (.ref b6), .val (.int (1 : Int32)), .val (.int (2 : Int32)), .val (.int (0 : Int32)), .val (.ref b4), .val (.ref b6), .val (.int (1 : Int32))] [(.int (1 : Int32)), (.int (own_ushr i2 (3 : Int32)))])
          refine Go.of (fun t k => XS.iand X29.here hx rfl (hb hby at_203) rfl k) ?_
          show Go p e below Φ T29 (mkF m 204 #[.val (.long i0), .second, .val (.long i1), .second, .val (.int i2), .val (.long v13), .second, .val (.ref b2), .val (.ref b4), .val (.ref b6), .val (.int (1 : Int32)), .val (.int (2 : Int32)), .val (.int (0 : Int32)), .val (.ref b4), .val (.ref b6), .val (.int (1 : Int32))] [(.int ((own_ushr i2 (3 : Int32)) &&& (1 : Int32)))])
          by_cases hc204 : ((own_ushr i2 (3 : Int32)) &&& (1 : Int32)) = (0 : Int32)
          · refine Go.of (fun t k => XS.ifYes X29.here hx rfl (pc0 := 204) (pc' := 217) rfl (hb hby at_204) rfl (XT.i0_eq_t hc204) (by decide) (by decide) k) ?_
            show Go p e below Φ T29 (mkF m 217 #[.val (.long i0), .second, .val (.long i1), .second, .val (.int i2), .val (.long v13), .second, .val (.ref b2), .val (.ref b4), .val (.ref b6), .val (.int (1 : Int32)), .val (.int (2 : Int32)), .val (.int (0 : Int32)), .val (.ref b4), .val (.ref b6), .val (.int (1 : Int32))] [])
            refine Go.of (fun t k => XS.iload X29.here hx rfl (hb hby at_217) rfl  k) ?_
            show Go p e below Φ T29 (mkF m 219 #[.val (.long i0), .second, .val (.long i1), .second, .val (.int i2), .val (.long v13), .second, .val (.ref b2), .val (.ref b4), .val (.ref b6), .val (.int (1 : Int32)), .val (.int (2 : Int32)), .val (.int (0 : Int32)), .val (.ref b4), .val (.ref b6), .val (.int (1 : Int32))] [(.int (1 : Int32))])
            refine Go.of (fun t k => XS.ifNo X29.here hx rfl (hb hby at_219) rfl (XT.i0_eq_f (by decide)) k) ?_
            show Go p e below Φ T29 (mkF m 222 #[.val (.long i0), .second, .val (.long i1), .second, .val (.int i2), .val (.long v13), .second, .val (.ref b2), .val (.ref b4), .val (.ref b6), .val (.int (1 : Int32)), .val (.int (2 : Int32)), .val (.int (0 : Int32)), .val (.ref b4), .val (.ref b6), .val (.int (1 : Int32))] [])
            refine Go.of (fun t k => XS.aload X29.here hx rfl (hb hby at_222) rfl rfl  k) ?_
            show Go p e below Φ T29 (mkF m 224 #[.val (.long i0), .second, .val (.long i1), .second, .val (.int i2), .val (.long v13), .second, .val (.ref b2), .val (.ref b4), .val (.ref b6), .val (.int (1 : Int32)), .val (.int (2 : Int32)), .val (.int (0 : Int32)), .val (.ref b4), .val (.ref b6), .val (.int (1 : Int32))] [(.ref b2)])
            obtain ⟨cq30, kq30, q30a, q30b, q30c⟩ := isOf hZ rfl E_b2
            obtain ⟨_, _, ⟨T30, L30, k30, n30⟩, -, X30, ⟨Lc30, hQ30, l30, y30, z30⟩, st30⟩ := X29.virtualBack hx (y := (⟨"com/example/demarq/demarq/broker/SortedMessages", "isEmpty", "()Z"⟩ : MethodName)) (z := (⟨"com/example/demarq/demarq/broker/SortedMessages", "isEmpty", "()Z"⟩ : MethodName)) hown (mvT hZ (hw _ (List.mem_of_getElem? (i := 26) rfl))) (mvT hZ (hw _ (List.mem_of_getElem? (i := 27) rfl))) (notFace_of_selects (args := #[]) (mvT hZ (hw _ (List.mem_of_getElem? (i := 29) rfl)))) (mvT hZ (hw _ (List.mem_of_getElem? (i := 29) rfl))) (mvT hZ (hw _ (List.mem_of_getElem? (i := 28) rfl))) (by decide) (backOf (W := 0) (rm4n l Z a0 hw [] b2 (1 : Int32) T29.heap n0 Z29 F_b2_size (by decide)) hZ (hw _ (List.mem_of_getElem? (i := 30) rfl)) (hw _ (List.mem_of_getElem? (i := 2) rfl)) (by decide) (by decide)) q30a q30c (g := (mkF m 224 #[.val (.long i0), .second, .val (.long i1), .second, .val (.int i2), .val (.long v13), .second, .val (.ref b2), .val (.ref b4), .val (.ref b6), .val (.int (1 : Int32)), .val (.int (2 : Int32)), .val (.int (0 : Int32)), .val (.ref b4), .val (.ref b6), .val (.int (1 : Int32))] [(.ref b2)])) rfl (by rw [hml]; rfl) (Steps.refl _) (argsL := []) (rest := []) (lenOf own_pd9 rfl) rfl (by show 2 * 0 + _ ≤ _; exact Nat.le_of_eq rfl) (hb hby at_224) (fun _ _ => ⟨rfl, rfl, (by decide : 5 + 0 ≤ _), (by decide : 29 + 0 ≤ _)⟩)
            dsimp only [Pt.U, Pt.locs, Pt.cells, Pt.slots] at X30 l30 y30 z30 st30 hQ30
            subst l30 y30 z30
            obtain ⟨rfl, N30q, e30q⟩ := hQ30
            have N30 := Fr.app N29 N30q
            obtain ⟨lc30, X30, N30⟩ : ∃ lc, Stand p l e room_1 s m #[(.long i0), (.long i1), (.int i2)] below meth c T30 lc 5 29 ∧ Fr n0 lc := ⟨_, X30, N30⟩
            refine Go.tr st30 ?_
            show Go p e below Φ T30 (mkF m 227 #[.val (.long i0), .second, .val (.long i1), .second, .val (.int i2), .val (.long v13), .second, .val (.ref b2), .val (.ref b4), .val (.ref b6), .val (.int (1 : Int32)), .val (.int (2 : Int32)), .val (.int (0 : Int32)), .val (.ref b4), .val (.ref b6), .val (.int (1 : Int32))] [(.int (0 : Int32))])
            refine Go.of (fun t k => XS.iload X30.here hx rfl (hb hby at_227) rfl  k) ?_
            show Go p e below Φ T30 (mkF m 229 #[.val (.long i0), .second, .val (.long i1), .second, .val (.int i2), .val (.long v13), .second, .val (.ref b2), .val (.ref b4), .val (.ref b6), .val (.int (1 : Int32)), .val (.int (2 : Int32)), .val (.int (0 : Int32)), .val (.ref b4), .val (.ref b6), .val (.int (1 : Int32))] [(.int (2 : Int32)), (.int (0 : Int32))])
            refine Go.of (fun t k => XS.iload X30.here hx rfl (hb hby at_229) rfl  k) ?_
            show Go p e below Φ T30 (mkF m 231 #[.val (.long i0), .second, .val (.long i1), .second, .val (.int i2), .val (.long v13), .second, .val (.ref b2), .val (.ref b4), .val (.ref b6), .val (.int (1 : Int32)), .val (.int (2 : Int32)), .val (.int (0 : Int32)), .val (.ref b4), .val (.ref b6), .val (.int (1 : Int32))] [(.int (1 : Int32)), (.int (2 : Int32)), (.int (0 : Int32))])
            refine Go.of (fun t k => XS.isub X30.here hx rfl (hb hby at_231) rfl k) ?_
            show Go p e below Φ T30 (mkF m 232 #[.val (.long i0), .second, .val (.long i1), .second, .val (.int i2), .val (.long v13), .second, .val (.ref b2), .val (.ref b4), .val (.ref b6), .val (.int (1 : Int32)), .val (.int (2 : Int32)), .val (.int (0 : Int32)), .val (.ref b4), .val (.ref b6), .val (.int (1 : Int32))] [(.int (1 : Int32)), (.int (0 : Int32))])
            refine Go.of (fun t k => XS.ifYes X30.here hx rfl (pc0 := 232) (pc' := 239) rfl (hb hby at_232) rfl (XT.i0_ne_t (by decide)) (by decide) (by decide) k) ?_
            show Go p e below Φ T30 (mkF m 239 #[.val (.long i0), .second, .val (.long i1), .second, .val (.int i2), .val (.long v13), .second, .val (.ref b2), .val (.ref b4), .val (.ref b6), .val (.int (1 : Int32)), .val (.int (2 : Int32)), .val (.int (0 : Int32)), .val (.ref b4), .val (.ref b6), .val (.int (1 : Int32))] [(.int (0 : Int32))])
            refine Go.of (fun t k => XS.iconst X30.here hx rfl (hb hby at_239) k) ?_
            show Go p e below Φ T30 (mkF m 240 #[.val (.long i0), .second, .val (.long i1), .second, .val (.int i2), .val (.long v13), .second, .val (.ref b2), .val (.ref b4), .val (.ref b6), .val (.int (1 : Int32)), .val (.int (2 : Int32)), .val (.int (0 : Int32)), .val (.ref b4), .val (.ref b6), .val (.int (1 : Int32))] [(.int (0 : Int32)), (.int (0 : Int32))])
            refine Go.of (fun t k => XS.icmpNo X30.here hx rfl (hb hby at_240) rfl (XT.ii_ne_f rfl) k) ?_
            show Go p e below Φ T30 (mkF m 243 #[.val (.long i0), .second, .val (.long i1), .second, .val (.int i2), .val (.long v13), .second, .val (.ref b2), .val (.ref b4), .val (.ref b6), .val (.int (1 : Int32)), .val (.int (2 : Int32)), .val (.int (0 : Int32)), .val (.ref b4), .val (.ref b6), .val (.int (1 : Int32))] [])
            refine Go.of (fun t k => XS.iconst X30.here hx rfl (hb hby at_243) k) ?_
            show Go p e below Φ T30 (mkF m 244 #[.val (.long i0), .second, .val (.long i1), .second, .val (.int i2), .val (.long v13), .second, .val (.ref b2), .val (.ref b4), .val (.ref b6), .val (.int (1 : Int32)), .val (.int (2 : Int32)), .val (.int (0 : Int32)), .val (.ref b4), .val (.ref b6), .val (.int (1 : Int32))] [(.int (1 : Int32))])
            refine Go.of (fun t k => XS.goto X30.here hx rfl (pc0 := 244) (pc' := 248) rfl (hb hby at_244) (by decide) (by decide) k) ?_
            show Go p e below Φ T30 (mkF m 248 #[.val (.long i0), .second, .val (.long i1), .second, .val (.int i2), .val (.long v13), .second, .val (.ref b2), .val (.ref b4), .val (.ref b6), .val (.int (1 : Int32)), .val (.int (2 : Int32)), .val (.int (0 : Int32)), .val (.ref b4), .val (.ref b6), .val (.int (1 : Int32))] [(.int (1 : Int32))])
            refine Go.of (fun t k => XS.istore X30.here hx rfl (hb hby at_248) rfl (l' := #[.val (.long i0), .second, .val (.long i1), .second, .val (.int i2), .val (.long v13), .second, .val (.ref b2), .val (.ref b4), .val (.ref b6), .val (.int (1 : Int32)), .val (.int (2 : Int32)), .val (.int (0 : Int32)), .val (.ref b4), .val (.ref b6), .val (.int (1 : Int32))]) rfl k) ?_
            show Go p e below Φ T30 (mkF m 250 #[.val (.long i0), .second, .val (.long i1), .second, .val (.int i2), .val (.long v13), .second, .val (.ref b2), .val (.ref b4), .val (.ref b6), .val (.int (1 : Int32)), .val (.int (2 : Int32)), .val (.int (0 : Int32)), .val (.ref b4), .val (.ref b6), .val (.int (1 : Int32))] [])
            refine Go.of (fun t k => XS.iload X30.here hx rfl (hb hby at_250) rfl  k) ?_
            show Go p e below Φ T30 (mkF m 252 #[.val (.long i0), .second, .val (.long i1), .second, .val (.int i2), .val (.long v13), .second, .val (.ref b2), .val (.ref b4), .val (.ref b6), .val (.int (1 : Int32)), .val (.int (2 : Int32)), .val (.int (0 : Int32)), .val (.ref b4), .val (.ref b6), .val (.int (1 : Int32))] [(.int (1 : Int32))])
            rw [hΦ]
            refine Go.ret X30 hx Bd.notSynchronized Bd.returns rfl (Or.inl ⟨rfl, Or.inr (Or.inl rfl), _, rfl⟩) (hb hby at_252) (by decide) (by decide) ?_
            rw [(e30q)]
            exact ⟨rfl, N30⟩
          · refine Go.of (fun t k => XS.ifNo X29.here hx rfl (hb hby at_204) rfl (XT.i0_eq_f hc204) k) ?_
            show Go p e below Φ T29 (mkF m 207 #[.val (.long i0), .second, .val (.long i1), .second, .val (.int i2), .val (.long v13), .second, .val (.ref b2), .val (.ref b4), .val (.ref b6), .val (.int (1 : Int32)), .val (.int (2 : Int32)), .val (.int (0 : Int32)), .val (.ref b4), .val (.ref b6), .val (.int (1 : Int32))] [])
            refine Go.of (fun t k => XS.aload X29.here hx rfl (hb hby at_207) rfl rfl  k) ?_
            show Go p e below Φ T29 (mkF m 209 #[.val (.long i0), .second, .val (.long i1), .second, .val (.int i2), .val (.long v13), .second, .val (.ref b2), .val (.ref b4), .val (.ref b6), .val (.int (1 : Int32)), .val (.int (2 : Int32)), .val (.int (0 : Int32)), .val (.ref b4), .val (.ref b6), .val (.int (1 : Int32))] [(.ref b2)])
            refine Go.of (fun t k => XS.aload X29.here hx rfl (hb hby at_209) rfl rfl  k) ?_
            show Go p e below Φ T29 (mkF m 211 #[.val (.long i0), .second, .val (.long i1), .second, .val (.int i2), .val (.long v13), .second, .val (.ref b2), .val (.ref b4), .val (.ref b6), .val (.int (1 : Int32)), .val (.int (2 : Int32)), .val (.int (0 : Int32)), .val (.ref b4), .val (.ref b6), .val (.int (1 : Int32))] [(.ref b6), (.ref b2)])
            obtain ⟨cq31, kq31, q31a, q31b, q31c⟩ := isOf hZ rfl E_b2
            obtain ⟨_, _, ⟨T31, L31, k31, n31⟩, -, X31, ⟨Lc31, hQ31, l31, y31, z31⟩, st31⟩ := X29.virtualBack hx (y := (⟨"com/example/demarq/demarq/broker/SortedMessages", "remove", "(Lcom/example/demarq/demarq/broker/Message;)V"⟩ : MethodName)) (z := (⟨"com/example/demarq/demarq/broker/SortedMessages", "remove", "(Lcom/example/demarq/demarq/broker/Message;)V"⟩ : MethodName)) hown (mvT hZ (hw _ (List.mem_of_getElem? (i := 49) rfl))) (mvT hZ (hw _ (List.mem_of_getElem? (i := 50) rfl))) (notFace_of_selects (args := #[]) (mvT hZ (hw _ (List.mem_of_getElem? (i := 52) rfl)))) (mvT hZ (hw _ (List.mem_of_getElem? (i := 52) rfl))) (mvT hZ (hw _ (List.mem_of_getElem? (i := 51) rfl))) (by decide) (backOf (W := 0) (rm8a l Z a0 hw [] b2 b6 b3 k3 (((0 : Int32), .null) :: (((1 : Int32), (.ref b6)) :: (((0 : Int32), (.ref b4)) :: []))) (1 : Int32) v13 T29.heap n0 Z29 F_b2_head F_b2_ring V_b3 E_b2 g_b2 g_b3 ne_b2_b3 F_b2_size ⟨by decide, by decide⟩ (getH_miss (by decide) (by decide) (getH_hit (by decide) (by decide))) E_b6 F_b6_position (Ne.symm ne_b2_b6) (Ne.symm ne_b3_b6)) hZ (hw _ (List.mem_of_getElem? (i := 53) rfl)) (hw _ (List.mem_of_getElem? (i := 2) rfl)) (by decide) (by decide)) q31a q31c (g := (mkF m 211 #[.val (.long i0), .second, .val (.long i1), .second, .val (.int i2), .val (.long v13), .second, .val (.ref b2), .val (.ref b4), .val (.ref b6), .val (.int (1 : Int32)), .val (.int (2 : Int32)), .val (.int (0 : Int32)), .val (.ref b4), .val (.ref b6), .val (.int (1 : Int32))] [(.ref b6), (.ref b2)])) rfl (by rw [hml]; rfl) (Steps.refl _) (argsL := [(.ref b6)]) (rest := []) (lenOf own_pd10 rfl) rfl (by show 2 * 0 + _ ≤ _; exact Nat.le_of_eq rfl) (hb hby at_211) (fun _ _ => ⟨rfl, rfl, (by decide : 5 + 1 ≤ _), (by decide : 29 + 2 ≤ _)⟩)
            dsimp only [Pt.U, Pt.locs, Pt.cells, Pt.slots] at X31 l31 y31 z31 st31 hQ31
            subst l31 y31 z31
            obtain ⟨rfl, N31q, K31q, c31_0⟩ := hQ31
            have N31 := Fr.app N29 N31q
            obtain ⟨lc31, X31, N31⟩ : ∃ lc, Stand p l e room_1 s m #[(.long i0), (.long i1), (.int i2)] below meth c T31 lc 6 31 ∧ Fr n0 lc := ⟨_, X31, N31⟩
            have E_b2 := E_b2.keep K31q
            have E_b4 := E_b4.keep K31q
            have F_b4_position := F_b4_position.keep K31q (ninS (Ne.symm ne_b2_b4) (ninS (Ne.symm ne_b3_b4) nin0))
            have E_b6 := E_b6.keep K31q
            have F_b6_position := F_b6_position.keep K31q (ninS (Ne.symm ne_b2_b6) (ninS (Ne.symm ne_b3_b6) nin0))
            have F_b2_size := c31_0
            have Z31 := Nat.le_trans Z29 K31q.1
            refine Go.tr st31 ?_
            show Go p e below Φ T31 (mkF m 214 #[.val (.long i0), .second, .val (.long i1), .second, .val (.int i2), .val (.long v13), .second, .val (.ref b2), .val (.ref b4), .val (.ref b6), .val (.int (1 : Int32)), .val (.int (2 : Int32)), .val (.int (0 : Int32)), .val (.ref b4), .val (.ref b6), .val (.int (1 : Int32))] [])
            refine Go.of (fun t k => XS.iinc X31.here hx rfl (hb hby at_214) rfl (l' := #[.val (.long i0), .second, .val (.long i1), .second, .val (.int i2), .val (.long v13), .second, .val (.ref b2), .val (.ref b4), .val (.ref b6), .val (.int (1 : Int32)), .val (.int (2 : Int32)), .val (.int (0 : Int32)), .val (.ref b4), .val (.ref b6), .val (.int (2 : Int32))]) rfl k) ?_
            show Go p e below Φ T31 (mkF m 217 #[.val (.long i0), .second, .val (.long i1), .second, .val (.int i2), .val (.long v13), .second, .val (.ref b2), .val (.ref b4), .val (.ref b6), .val (.int (1 : Int32)), .val (.int (2 : Int32)), .val (.int (0 : Int32)), .val (.ref b4), .val (.ref b6), .val (.int (2 : Int32))] [])
            refine Go.of (fun t k => XS.iload X31.here hx rfl (hb hby at_217) rfl  k) ?_
            show Go p e below Φ T31 (mkF m 219 #[.val (.long i0), .second, .val (.long i1), .second, .val (.int i2), .val (.long v13), .second, .val (.ref b2), .val (.ref b4), .val (.ref b6), .val (.int (1 : Int32)), .val (.int (2 : Int32)), .val (.int (0 : Int32)), .val (.ref b4), .val (.ref b6), .val (.int (2 : Int32))] [(.int (1 : Int32))])
            refine Go.of (fun t k => XS.ifNo X31.here hx rfl (hb hby at_219) rfl (XT.i0_eq_f (by decide)) k) ?_
            show Go p e below Φ T31 (mkF m 222 #[.val (.long i0), .second, .val (.long i1), .second, .val (.int i2), .val (.long v13), .second, .val (.ref b2), .val (.ref b4), .val (.ref b6), .val (.int (1 : Int32)), .val (.int (2 : Int32)), .val (.int (0 : Int32)), .val (.ref b4), .val (.ref b6), .val (.int (2 : Int32))] [])
            refine Go.of (fun t k => XS.aload X31.here hx rfl (hb hby at_222) rfl rfl  k) ?_
            show Go p e below Φ T31 (mkF m 224 #[.val (.long i0), .second, .val (.long i1), .second, .val (.int i2), .val (.long v13), .second, .val (.ref b2), .val (.ref b4), .val (.ref b6), .val (.int (1 : Int32)), .val (.int (2 : Int32)), .val (.int (0 : Int32)), .val (.ref b4), .val (.ref b6), .val (.int (2 : Int32))] [(.ref b2)])
            obtain ⟨cq32, kq32, q32a, q32b, q32c⟩ := isOf hZ rfl E_b2
            obtain ⟨_, _, ⟨T32, L32, k32, n32⟩, -, X32, ⟨Lc32, hQ32, l32, y32, z32⟩, st32⟩ := X31.virtualBack hx (y := (⟨"com/example/demarq/demarq/broker/SortedMessages", "isEmpty", "()Z"⟩ : MethodName)) (z := (⟨"com/example/demarq/demarq/broker/SortedMessages", "isEmpty", "()Z"⟩ : MethodName)) hown (mvT hZ (hw _ (List.mem_of_getElem? (i := 26) rfl))) (mvT hZ (hw _ (List.mem_of_getElem? (i := 27) rfl))) (notFace_of_selects (args := #[]) (mvT hZ (hw _ (List.mem_of_getElem? (i := 29) rfl)))) (mvT hZ (hw _ (List.mem_of_getElem? (i := 29) rfl))) (mvT hZ (hw _ (List.mem_of_getElem? (i := 28) rfl))) (by decide) (backOf (W := 0) (rm4z l Z a0 hw [] b2 T31.heap n0 Z31 F_b2_size) hZ (hw _ (List.mem_of_getElem? (i := 30) rfl)) (hw _ (List.mem_of_getElem? (i := 2) rfl)) (by decide) (by decide)) q32a q32c (g := (mkF m 224 #[.val (.long i0), .second, .val (.long i1), .second, .val (.int i2), .val (.long v13), .second, .val (.ref b2), .val (.ref b4), .val (.ref b6), .val (.int (1 : Int32)), .val (.int (2 : Int32)), .val (.int (0 : Int32)), .val (.ref b4), .val (.ref b6), .val (.int (2 : Int32))] [(.ref b2)])) rfl (by rw [hml]; rfl) (Steps.refl _) (argsL := []) (rest := []) (lenOf own_pd9 rfl) rfl (by show 2 * 0 + _ ≤ _; exact Nat.le_of_eq rfl) (hb hby at_224) (fun _ _ => ⟨rfl, rfl, (by decide : 6 + 0 ≤ _), (by decide : 31 + 0 ≤ _)⟩)
            dsimp only [Pt.U, Pt.locs, Pt.cells, Pt.slots] at X32 l32 y32 z32 st32 hQ32
            subst l32 y32 z32
            obtain ⟨rfl, N32q, e32q⟩ := hQ32
            have N32 := Fr.app N31 N32q
            obtain ⟨lc32, X32, N32⟩ : ∃ lc, Stand p l e room_1 s m #[(.long i0), (.long i1), (.int i2)] below meth c T32 lc 6 31 ∧ Fr n0 lc := ⟨_, X32, N32⟩
            refine Go.tr st32 ?_
            show Go p e below Φ T32 (mkF m 227 #[.val (.long i0), .second, .val (.long i1), .second, .val (.int i2), .val (.long v13), .second, .val (.ref b2), .val (.ref b4), .val (.ref b6), .val (.int (1 : Int32)), .val (.int (2 : Int32)), .val (.int (0 : Int32)), .val (.ref b4), .val (.ref b6), .val (.int (2 : Int32))] [(.int (1 : Int32))])
            refine Go.of (fun t k => XS.iload X32.here hx rfl (hb hby at_227) rfl  k) ?_
            show Go p e below Φ T32 (mkF m 229 #[.val (.long i0), .second, .val (.long i1), .second, .val (.int i2), .val (.long v13), .second, .val (.ref b2), .val (.ref b4), .val (.ref b6), .val (.int (1 : Int32)), .val (.int (2 : Int32)), .val (.int (0 : Int32)), .val (.ref b4), .val (.ref b6), .val (.int (2 : Int32))] [(.int (2 : Int32)), (.int (1 : Int32))])
            refine Go.of (fun t k => XS.iload X32.here hx rfl (hb hby at_229) rfl  k) ?_
            show Go p e below Φ T32 (mkF m 231 #[.val (.long i0), .second, .val (.long i1), .second, .val (.int i2), .val (.long v13), .second, .val (.ref b2), .val (.ref b4), .val (.ref b6), .val (.int (1 : Int32)), .val (.int (2 : Int32)), .val (.int (0 : Int32)), .val (.ref b4), .val (.ref b6), .val (.int (2 : Int32))] [(.int (2 : Int32)), (.int (2 : Int32)), (.int (1 : Int32))])
            refine Go.of (fun t k => XS.isub X32.here hx rfl (hb hby at_231) rfl k) ?_
            show Go p e below Φ T32 (mkF m 232 #[.val (.long i0), .second, .val (.long i1), .second, .val (.int i2), .val (.long v13), .second, .val (.ref b2), .val (.ref b4), .val (.ref b6), .val (.int (1 : Int32)), .val (.int (2 : Int32)), .val (.int (0 : Int32)), .val (.ref b4), .val (.ref b6), .val (.int (2 : Int32))] [(.int (0 : Int32)), (.int (1 : Int32))])
            refine Go.of (fun t k => XS.ifNo X32.here hx rfl (hb hby at_232) rfl (XT.i0_ne_f rfl) k) ?_
            show Go p e below Φ T32 (mkF m 235 #[.val (.long i0), .second, .val (.long i1), .second, .val (.int i2), .val (.long v13), .second, .val (.ref b2), .val (.ref b4), .val (.ref b6), .val (.int (1 : Int32)), .val (.int (2 : Int32)), .val (.int (0 : Int32)), .val (.ref b4), .val (.ref b6), .val (.int (2 : Int32))] [(.int (1 : Int32))])
            refine Go.of (fun t k => XS.iconst X32.here hx rfl (hb hby at_235) k) ?_
            show Go p e below Φ T32 (mkF m 236 #[.val (.long i0), .second, .val (.long i1), .second, .val (.int i2), .val (.long v13), .second, .val (.ref b2), .val (.ref b4), .val (.ref b6), .val (.int (1 : Int32)), .val (.int (2 : Int32)), .val (.int (0 : Int32)), .val (.ref b4), .val (.ref b6), .val (.int (2 : Int32))] [(.int (1 : Int32)), (.int (1 : Int32))])
            refine Go.of (fun t k => XS.goto X32.here hx rfl (pc0 := 236) (pc' := 240) rfl (hb hby at_236) (by decide) (by decide) k) ?_
            show Go p e below Φ T32 (mkF m 240 #[.val (.long i0), .second, .val (.long i1), .second, .val (.int i2), .val (.long v13), .second, .val (.ref b2), .val (.ref b4), .val (.ref b6), .val (.int (1 : Int32)), .val (.int (2 : Int32)), .val (.int (0 : Int32)), .val (.ref b4), .val (.ref b6), .val (.int (2 : Int32))] [(.int (1 : Int32)), (.int (1 : Int32))])
            refine Go.of (fun t k => XS.icmpNo X32.here hx rfl (hb hby at_240) rfl (XT.ii_ne_f rfl) k) ?_
            show Go p e below Φ T32 (mkF m 243 #[.val (.long i0), .second, .val (.long i1), .second, .val (.int i2), .val (.long v13), .second, .val (.ref b2), .val (.ref b4), .val (.ref b6), .val (.int (1 : Int32)), .val (.int (2 : Int32)), .val (.int (0 : Int32)), .val (.ref b4), .val (.ref b6), .val (.int (2 : Int32))] [])
            refine Go.of (fun t k => XS.iconst X32.here hx rfl (hb hby at_243) k) ?_
            show Go p e below Φ T32 (mkF m 244 #[.val (.long i0), .second, .val (.long i1), .second, .val (.int i2), .val (.long v13), .second, .val (.ref b2), .val (.ref b4), .val (.ref b6), .val (.int (1 : Int32)), .val (.int (2 : Int32)), .val (.int (0 : Int32)), .val (.ref b4), .val (.ref b6), .val (.int (2 : Int32))] [(.int (1 : Int32))])
            refine Go.of (fun t k => XS.goto X32.here hx rfl (pc0 := 244) (pc' := 248) rfl (hb hby at_244) (by decide) (by decide) k) ?_
            show Go p e below Φ T32 (mkF m 248 #[.val (.long i0), .second, .val (.long i1), .second, .val (.int i2), .val (.long v13), .second, .val (.ref b2), .val (.ref b4), .val (.ref b6), .val (.int (1 : Int32)), .val (.int (2 : Int32)), .val (.int (0 : Int32)), .val (.ref b4), .val (.ref b6), .val (.int (2 : Int32))] [(.int (1 : Int32))])
            refine Go.of (fun t k => XS.istore X32.here hx rfl (hb hby at_248) rfl (l' := #[.val (.long i0), .second, .val (.long i1), .second, .val (.int i2), .val (.long v13), .second, .val (.ref b2), .val (.ref b4), .val (.ref b6), .val (.int (1 : Int32)), .val (.int (2 : Int32)), .val (.int (0 : Int32)), .val (.ref b4), .val (.ref b6), .val (.int (2 : Int32))]) rfl k) ?_
            show Go p e below Φ T32 (mkF m 250 #[.val (.long i0), .second, .val (.long i1), .second, .val (.int i2), .val (.long v13), .second, .val (.ref b2), .val (.ref b4), .val (.ref b6), .val (.int (1 : Int32)), .val (.int (2 : Int32)), .val (.int (0 : Int32)), .val (.ref b4), .val (.ref b6), .val (.int (2 : Int32))] [])
            refine Go.of (fun t k => XS.iload X32.here hx rfl (hb hby at_250) rfl  k) ?_
            show Go p e below Φ T32 (mkF m 252 #[.val (.long i0), .second, .val (.long i1), .second, .val (.int i2), .val (.long v13), .second, .val (.ref b2), .val (.ref b4), .val (.ref b6), .val (.int (1 : Int32)), .val (.int (2 : Int32)), .val (.int (0 : Int32)), .val (.ref b4), .val (.ref b6), .val (.int (2 : Int32))] [(.int (1 : Int32))])
            rw [hΦ]
            refine Go.ret X32 hx Bd.notSynchronized Bd.returns rfl (Or.inl ⟨rfl, Or.inr (Or.inl rfl), _, rfl⟩) (hb hby at_252) (by decide) (by decide) ?_
            rw [(e32q)]
            exact ⟨rfl, N32⟩
      · obtain ⟨cq33, kq33, q33a, q33b, q33c⟩ := isOf hZ rfl E_b2
        obtain ⟨_, _, ⟨T33, L33, k33, n33⟩, -, X33, ⟨Lc33, hQ33, l33, y33, z33⟩, st33⟩ := X23.virtualBack hx (y := (⟨"com/example/demarq/demarq/broker/SortedMessages", "add", "(Lcom/example/demarq/demarq/broker/Message;)V"⟩ : MethodName)) (z := (⟨"com/example/demarq/demarq/broker/SortedMessages", "add", "(Lcom/example/demarq/demarq/broker/Message;)V"⟩ : MethodName)) hown (mvT hZ (hw _ (List.mem_of_getElem? (i := 33) rfl))) (mvT hZ (hw _ (List.mem_of_getElem? (i := 34) rfl))) (notFace_of_selects (args := #[]) (mvT hZ (hw _ (List.mem_of_getElem? (i := 36) rfl)))) (mvT hZ (hw _ (List.mem_of_getElem? (i := 36) rfl))) (mvT hZ (hw _ (List.mem_of_getElem? (i := 35) rfl))) (by decide) (backOf (W := 0) (rm5g l Z a0 hw [] b2 b6 b3 k3 (((0 : Int32), (.ref b4)) :: []) b4 v13 i0 T23.heap n0 Z23 F_b2_head F_b2_ring V_b3 F_b2_size E_b6 F_b6_position E_b4 F_b4_position (getH_hit (by decide) (by decide)) E_b2 g_b2 g_b3 ne_b2_b3 Ov3 (Ne.symm ne_b2_b4) (Ne.symm ne_b3_b4) (Ne.symm ne_b2_b6) (Ne.symm ne_b3_b6) hlt) hZ (hw _ (List.mem_of_getElem? (i := 37) rfl)) (hw _ (List.mem_of_getElem? (i := 2) rfl)) (by decide) (by decide)) q33a q33c (g := (mkF m 131 #[.val (.long i0), .second, .val (.long i1), .second, .val (.int i2), .val (.long v13), .second, .val (.ref b2), .val (.ref b4), .val (.ref b6), .val (.int (1 : Int32)), .val (.int (2 : Int32)), .val (.int (0 : Int32)), .val (.ref b4), .val (.ref b6), .unset] [(.ref b6), (.ref b2)])) rfl (by rw [hml]; rfl) (Steps.refl _) (argsL := [(.ref b6)]) (rest := []) (lenOf own_pd10 rfl) rfl (by show 2 * 0 + _ ≤ _; exact Nat.le_of_eq rfl) (hb hby at_131) (fun _ _ => ⟨rfl, rfl, (by decide : 4 + 1 ≤ _), (by decide : 27 + 2 ≤ _)⟩)
        dsimp only [Pt.U, Pt.locs, Pt.cells, Pt.slots] at X33 l33 y33 z33 st33 hQ33
        subst l33 y33 z33
        obtain ⟨rfl, N33q, K33q, c33_0, c33_1, c33_2, c33_3⟩ := hQ33
        have N33 := Fr.app N23 N33q
        obtain ⟨lc33, X33, N33⟩ : ∃ lc, Stand p l e room_1 s m #[(.long i0), (.long i1), (.int i2)] below meth c T33 lc 5 29 ∧ Fr n0 lc := ⟨_, X33, N33⟩
        have E_b2 := E_b2.keep K33q
        have E_b4 := E_b4.keep K33q
        have F_b4_position := F_b4_position.keep K33q (ninS (Ne.symm ne_b2_b4) (ninS (Ne.symm ne_b3_b4) nin0))
        have E_b6 := E_b6.keep K33q
        have F_b6_position := F_b6_position.keep K33q (ninS (Ne.symm ne_b2_b6) (ninS (Ne.symm ne_b3_b6) nin0))
        have F_b2_size := c33_0
        have F_b2_head := c33_1
        have F_b2_ring := c33_2
        have V_b3 : Arh Z T33.heap b3 k3 (.object "com/example/demarq/demarq/broker/Message") (16 : Int32) (((15 : Int32), (.ref b6)) :: (((0 : Int32), (.ref b4)) :: [])) [] .null := c33_3
        have Z33 := Nat.le_trans Z23 K33q.1
        refine Go.tr st33 ?_
        show Go p e below Φ T33 (mkF m 134 #[.val (.long i0), .second, .val (.long i1), .second, .val (.int i2), .val (.long v13), .second, .val (.ref b2), .val (.ref b4), .val (.ref b6), .val (.int (1 : Int32)), .val (.int (2 : Int32)), .val (.int (0 : Int32)), .val (.ref b4), .val (.ref b6), .unset] [])
        refine Go.of (fun t k => XS.iload X33.here hx rfl (hb hby at_134) rfl  k) ?_
        show Go p e below Φ T33 (mkF m 136 #[.val (.long i0), .second, .val (.long i1), .second, .val (.int i2), .val (.long v13), .second, .val (.ref b2), .val (.ref b4), .val (.ref b6), .val (.int (1 : Int32)), .val (.int (2 : Int32)), .val (.int (0 : Int32)), .val (.ref b4), .val (.ref b6), .unset] [(.int (1 : Int32))])
        refine Go.of (fun t k => XS.ifNo X33.here hx rfl (hb hby at_136) rfl (XT.i0_eq_f (by decide)) k) ?_
        show Go p e below Φ T33 (mkF m 139 #[.val (.long i0), .second, .val (.long i1), .second, .val (.int i2), .val (.long v13), .second, .val (.ref b2), .val (.ref b4), .val (.ref b6), .val (.int (1 : Int32)), .val (.int (2 : Int32)), .val (.int (0 : Int32)), .val (.ref b4), .val (.ref b6), .unset] [])
        refine Go.of (fun t k => XS.aload X33.here hx rfl (hb hby at_139) rfl rfl  k) ?_
        show Go p e below Φ T33 (mkF m 141 #[.val (.long i0), .second, .val (.long i1), .second, .val (.int i2), .val (.long v13), .second, .val (.ref b2), .val (.ref b4), .val (.ref b6), .val (.int (1 : Int32)), .val (.int (2 : Int32)), .val (.int (0 : Int32)), .val (.ref b4), .val (.ref b6), .unset] [(.ref b2)])
        obtain ⟨cq34, kq34, q34a, q34b, q34c⟩ := isOf hZ rfl E_b2
        obtain ⟨_, _, ⟨T34, L34, k34, n34⟩, -, X34, ⟨Lc34, hQ34, l34, y34, z34⟩, st34⟩ := X33.virtualBack hx (y := (⟨"com/example/demarq/demarq/broker/SortedMessages", "isEmpty", "()Z"⟩ : MethodName)) (z := (⟨"com/example/demarq/demarq/broker/SortedMessages", "isEmpty", "()Z"⟩ : MethodName)) hown (mvT hZ (hw _ (List.mem_of_getElem? (i := 26) rfl))) (mvT hZ (hw _ (List.mem_of_getElem? (i := 27) rfl))) (notFace_of_selects (args := #[]) (mvT hZ (hw _ (List.mem_of_getElem? (i := 29) rfl)))) (mvT hZ (hw _ (List.mem_of_getElem? (i := 29) rfl))) (mvT hZ (hw _ (List.mem_of_getElem? (i := 28) rfl))) (by decide) (backOf (W := 0) (rm4n l Z a0 hw [] b2 (2 : Int32) T33.heap n0 Z33 F_b2_size (by decide)) hZ (hw _ (List.mem_of_getElem? (i := 30) rfl)) (hw _ (List.mem_of_getElem? (i := 2) rfl)) (by decide) (by decide)) q34a q34c (g := (mkF m 141 #[.val (.long i0), .second, .val (.long i1), .second, .val (.int i2), .val (.long v13), .second, .val (.ref b2), .val (.ref b4), .val (.ref b6), .val (.int (1 : Int32)), .val (.int (2 : Int32)), .val (.int (0 : Int32)), .val (.ref b4), .val (.ref b6), .unset] [(.ref b2)])) rfl (by rw [hml]; rfl) (Steps.refl _) (argsL := []) (rest := []) (lenOf own_pd9 rfl) rfl (by show 2 * 0 + _ ≤ _; exact Nat.le_of_eq rfl) (hb hby at_141) (fun _ _ => ⟨rfl, rfl, (by decide : 5 + 0 ≤ _), (by decide : 29 + 0 ≤ _)⟩)
        dsimp only [Pt.U, Pt.locs, Pt.cells, Pt.slots] at X34 l34 y34 z34 st34 hQ34
        subst l34 y34 z34
        obtain ⟨rfl, N34q, e34q⟩ := hQ34
        have N34 := Fr.app N33 N34q
        obtain ⟨lc34, X34, N34⟩ : ∃ lc, Stand p l e room_1 s m #[(.long i0), (.long i1), (.int i2)] below meth c T34 lc 5 29 ∧ Fr n0 lc := ⟨_, X34, N34⟩
        refine Go.tr st34 ?_
        show Go p e below Φ T34 (mkF m 144 #[.val (.long i0), .second, .val (.long i1), .second, .val (.int i2), .val (.long v13), .second, .val (.ref b2), .val (.ref b4), .val (.ref b6), .val (.int (1 : Int32)), .val (.int (2 : Int32)), .val (.int (0 : Int32)), .val (.ref b4), .val (.ref b6), .unset] [(.int (0 : Int32))])
        refine Go.of (fun t k => XS.iload X34.here hx rfl (hb hby at_144) rfl  k) ?_
        show Go p e below Φ T34 (mkF m 146 #[.val (.long i0), .second, .val (.long i1), .second, .val (.int i2), .val (.long v13), .second, .val (.ref b2), .val (.ref b4), .val (.ref b6), .val (.int (1 : Int32)), .val (.int (2 : Int32)), .val (.int (0 : Int32)), .val (.ref b4), .val (.ref b6), .unset] [(.int (2 : Int32)), (.int (0 : Int32))])
        refine Go.of (fun t k => XS.ifYes X34.here hx rfl (pc0 := 146) (pc' := 153) rfl (hb hby at_146) rfl (XT.i0_ne_t (by decide)) (by decide) (by decide) k) ?_
        show Go p e below Φ T34 (mkF m 153 #[.val (.long i0), .second, .val (.long i1), .second, .val (.int i2), .val (.long v13), .second, .val (.ref b2), .val (.ref b4), .val (.ref b6), .val (.int (1 : Int32)), .val (.int (2 : Int32)), .val (.int (0 : Int32)), .val (.ref b4), .val (.ref b6), .unset] [(.int (0 : Int32))])
        refine Go.of (fun t k => XS.iconst X34.here hx rfl (hb hby at_153) k) ?_
        show Go p e below Φ T34 (mkF m 154 #[.val (.long i0), .second, .val (.long i1), .second, .val (.int i2), .val (.long v13), .second, .val (.ref b2), .val (.ref b4), .val (.ref b6), .val (.int (1 : Int32)), .val (.int (2 : Int32)), .val (.int (0 : Int32)), .val (.ref b4), .val (.ref b6), .unset] [(.int (0 : Int32)), (.int (0 : Int32))])
        refine Go.of (fun t k => XS.icmpNo X34.here hx rfl (hb hby at_154) rfl (XT.ii_ne_f rfl) k) ?_
        show Go p e below Φ T34 (mkF m 157 #[.val (.long i0), .second, .val (.long i1), .second, .val (.int i2), .val (.long v13), .second, .val (.ref b2), .val (.ref b4), .val (.ref b6), .val (.int (1 : Int32)), .val (.int (2 : Int32)), .val (.int (0 : Int32)), .val (.ref b4), .val (.ref b6), .unset] [])
        refine Go.of (fun t k => XS.iconst X34.here hx rfl (hb hby at_157) k) ?_
        show Go p e below Φ T34 (mkF m 158 #[.val (.long i0), .second, .val (.long i1), .second, .val (.int i2), .val (.long v13), .second, .val (.ref b2), .val (.ref b4), .val (.ref b6), .val (.int (1 : Int32)), .val (.int (2 : Int32)), .val (.int (0 : Int32)), .val (.ref b4), .val (.ref b6), .unset] [(.int (1 : Int32))])
        refine Go.of (fun t k => XS.goto X34.here hx rfl (pc0 := 158) (pc' := 162) rfl (hb hby at_158) (by decide) (by decide) k) ?_
        show Go p e below Φ T34 (mkF m 162 #[.val (.long i0), .second, .val (.long i1), .second, .val (.int i2), .val (.long v13), .second, .val (.ref b2), .val (.ref b4), .val (.ref b6), .val (.int (1 : Int32)), .val (.int (2 : Int32)), .val (.int (0 : Int32)), .val (.ref b4), .val (.ref b6), .unset] [(.int (1 : Int32))])
        refine Go.of (fun t k => XS.istore X34.here hx rfl (hb hby at_162) rfl (l' := #[.val (.long i0), .second, .val (.long i1), .second, .val (.int i2), .val (.long v13), .second, .val (.ref b2), .val (.ref b4), .val (.ref b6), .val (.int (1 : Int32)), .val (.int (2 : Int32)), .val (.int (0 : Int32)), .val (.ref b4), .val (.ref b6), .unset]) rfl k) ?_
        show Go p e below Φ T34 (mkF m 164 #[.val (.long i0), .second, .val (.long i1), .second, .val (.int i2), .val (.long v13), .second, .val (.ref b2), .val (.ref b4), .val (.ref b6), .val (.int (1 : Int32)), .val (.int (2 : Int32)), .val (.int (0 : Int32)), .val (.ref b4), .val (.ref b6), .unset] [])
        refine Go.of (fun t k => XS.iconst X34.here hx rfl (hb hby at_164) k) ?_
        show Go p e below Φ T34 (mkF m 165 #[.val (.long i0), .second, .val (.long i1), .second, .val (.int i2), .val (.long v13), .second, .val (.ref b2), .val (.ref b4), .val (.ref b6), .val (.int (1 : Int32)), .val (.int (2 : Int32)), .val (.int (0 : Int32)), .val (.ref b4), .val (.ref b6), .unset] [(.int (0 : Int32))])
        refine Go.of (fun t k => XS.istore X34.here hx rfl (hb hby at_165) rfl (l' := #[.val (.long i0), .second, .val (.long i1), .second, .val (.int i2), .val (.long v13), .second, .val (.ref b2), .val (.ref b4), .val (.ref b6), .val (.int (1 : Int32)), .val (.int (2 : Int32)), .val (.int (0 : Int32)), .val (.ref b4), .val (.ref b6), .val (.int (0 : Int32))]) rfl k) ?_
        show Go p e below Φ T34 (mkF m 167 #[.val (.long i0), .second, .val (.long i1), .second, .val (.int i2), .val (.long v13), .second, .val (.ref b2), .val (.ref b4), .val (.ref b6), .val (.int (1 : Int32)), .val (.int (2 : Int32)), .val (.int (0 : Int32)), .val (.ref b4), .val (.ref b6), .val (.int (0 : Int32))] [])
        refine Go.of (fun t k => XS.iload X34.here hx rfl (hb hby at_167) rfl  k) ?_
        show Go p e below Φ T34 (mkF m 169 #[.val (.long i0), .second, .val (.long i1), .second, .val (.int i2), .val (.long v13), .second, .val (.ref b2), .val (.ref b4), .val (.ref b6), .val (.int (1 : Int32)), .val (.int (2 : Int32)), .val (.int (0 : Int32)), .val (.ref b4), .val (.ref b6), .val (.int (0 : Int32))] [(.int (2 : Int32))])
        refine Go.of (fun t k => XS.iconst X34.here hx rfl (hb hby at_169) k) ?_
        show Go p e below Φ T34 (mkF m 170 #[.val (.long i0), .second, .val (.long i1), .second, .val (.int i2), .val (.long v13), .second, .val (.ref b2), .val (.ref b4), .val (.ref b6), .val (.int (1 : Int32)), .val (.int (2 : Int32)), .val (.int (0 : Int32)), .val (.ref b4), .val (.ref b6), .val (.int (0 : Int32))] [(.int (1 : Int32)), (.int (2 : Int32))])
        refine Go.of (fun t k => XS.icmpNo X34.here hx rfl (hb hby at_170) rfl (XT.ii_lt_f (by decide)) k) ?_
        show Go p e below Φ T34 (mkF m 173 #[.val (.long i0), .second, .val (.long i1), .second, .val (.int i2), .val (.long v13), .second, .val (.ref b2), .val (.ref b4), .val (.ref b6), .val (.int (1 : Int32)), .val (.int (2 : Int32)), .val (.int (0 : Int32)), .val (.ref b4), .val (.ref b6), .val (.int (0 : Int32))] [])
        refine Go.of (fun t k => XS.iload X34.here hx rfl (hb hby at_173) rfl  k) ?_
        show Go p e below Φ T34 (mkF m 175 #[.val (.long i0), .second, .val (.long i1), .second, .val (.int i2), .val (.long v13), .second, .val (.ref b2), .val (.ref b4), .val (.ref b6), .val (.int (1 : Int32)), .val (.int (2 : Int32)), .val (.int (0 : Int32)), .val (.ref b4), .val (.ref b6), .val (.int (0 : Int32))] [(.int i2)])
        refine Go.of (fun t k => XS.iconst X34.here hx rfl (hb hby at_175) k) ?_
        show Go p e below Φ T34 (mkF m 176 #[.val (.long i0), .second, .val (.long i1), .second, .val (.int i2), .val (.long v13), .second, .val (.ref b2), .val (.ref b4), .val (.ref b6), .val (.int (1 : Int32)), .val (.int (2 : Int32)), .val (.int (0 : Int32)), .val (.ref b4), .val (.ref b6), .val (.int (0 : Int32))] [(.int (2 : Int32)), (.int i2)])
        refine Go.of (fun t k => XS.iushr X34.here hx rfl (hb hby at_176) rfl k) ?_
        show Go p e below Φ T34 (mkF m 177 #[.val (.long i0), .second, .val (.long i1), .second, .val (.int i2), .val (.long v13), .second, .val (.ref b2), .val (.ref b4), .val (.ref b6), .val (.int (1 : Int32)), .val (.int (2 : Int32)), .val (.int (0 : Int32)), .val (.ref b4), .val (.ref b6), .val (.int (0 : Int32))] [(.int (own_ushr i2 (2 : Int32)))])
        refine Go.of (fun t k => XS.iconst X34.here hx rfl (hb hby at_177) k) ?_
        show Go p e below Φ T34 (mkF m 178 #[.val (.long i0), .second, .val (.long i1), .second, .val (.int i2), .val (.long v13), .second, .val (.ref b2), .val (.ref b4), .val (.ref b6), .val (.int (1 : Int32)), .val (.int (2 : Int32)), .val (.int (0 : Int32)), .val (.ref b4), .val (.ref b6), .val (.int (0 : Int32))] [(.int (1 : Int32)), (.int (own_ushr i2 (2 : Int32)))])
        refine Go.of (fun t k => XS.iand X34.here hx rfl (hb hby at_178) rfl k) ?_
        show Go p e below Φ T34 (mkF m 179 #[.val (.long i0), .second, .val (.long i1), .second, .val (.int i2), .val (.long v13), .second, .val (.ref b2), .val (.ref b4), .val (.ref b6), .val (.int (1 : Int32)), .val (.int (2 : Int32)), .val (.int (0 : Int32)), .val (.ref b4), .val (.ref b6), .val (.int (0 : Int32))] [(.int ((own_ushr i2 (2 : Int32)) &&& (1 : Int32)))])
        by_cases hc179 : ((own_ushr i2 (2 : Int32)) &&& (1 : Int32)) = (0 : Int32)
        · refine Go.of (fun t k => XS.ifYes X34.here hx rfl (pc0 := 179) (pc' := 192) rfl (hb hby at_179) rfl (XT.i0_eq_t hc179) (by decide) (by decide) k) ?_
          show Go p e below Φ T34 (mkF m 192 #[.val (.long i0), .second, .val (.long i1), .second, .val (.int i2), .val (.long v13), .second, .val (.ref b2), .val (.ref b4), .val (.ref b6), .val (.int (1 : Int32)), .val (.int (2 : Int32)), .val (.int (0 : Int32)), .val (.ref b4), .val (.ref b6), .val (.int (0 : Int32))] [])
          refine Go.of (fun t k => XS.iload X34.here hx rfl (hb hby at_192) rfl  k) ?_
          show Go p e below Φ T34 (mkF m 194 #[.val (.long i0), .second, .val (.long i1), .second, .val (.int i2), .val (.long v13), .second, .val (.ref b2), .val (.ref b4), .val (.ref b6), .val (.int (1 : Int32)), .val (.int (2 : Int32)), .val (.int (0 : Int32)), .val (.ref b4), .val (.ref b6), .val (.int (0 : Int32))] [(.int (2 : Int32))])
          refine Go.of (fun t k => XS.iconst X34.here hx rfl (hb hby at_194) k) ?_
          show Go p e below Φ T34 (mkF m 195 #[.val (.long i0), .second, .val (.long i1), .second, .val (.int i2), .val (.long v13), .second, .val (.ref b2), .val (.ref b4), .val (.ref b6), .val (.int (1 : Int32)), .val (.int (2 : Int32)), .val (.int (0 : Int32)), .val (.ref b4), .val (.ref b6), .val (.int (0 : Int32))] [(.int (2 : Int32)), (.int (2 : Int32))])
          refine Go.of (fun t k => XS.icmpNo X34.here hx rfl (hb hby at_195) rfl (XT.ii_lt_f (by decide)) k) ?_
          show Go p e below Φ T34 (mkF m 198 #[.val (.long i0), .second, .val (.long i1), .second, .val (.int i2), .val (.long v13), .second, .val (.ref b2), .val (.ref b4), .val (.ref b6), .val (.int (1 : Int32)), .val (.int (2 : Int32)), .val (.int (0 : Int32)), .val (.ref b4), .val (.ref b6), .val (.int (0 : Int32))] [])
          refine Go.of (fun t k => XS.iload X34.here hx rfl (hb hby at_198) rfl  k) ?_
          show Go p e below Φ T34 (mkF m 200 #[.val (.long i0), .second, .val (.long i1), .second, .val (.int i2), .val (.long v13), .second, .val (.ref b2), .val (.ref b4), .val (.ref b6), .val (.int (1 : Int32)), .val (.int (2 : Int32)), .val (.int (0 : Int32)), .val (.ref b4), .val (.ref b6), .val (.int (0 : Int32))] [(.int i2)])
          refine Go.of (fun t k => XS.iconst X34.here hx rfl (hb hby at_200) k) ?_
          show Go p e below Φ T34 (mkF m 201 #[.val (.long i0), .second, .val (.long i1), .second, .val (.int i2), .val (.long v13), .second, .val (.ref b2), .val (.ref b4), .val (.ref b6), .val (.int (1 : Int32)), .val (.int (2 : Int32)), .val (.int (0 : Int32)), .val (.ref b4), .val (.ref b6), .val (.int (0 : Int32))] [(.int (3 : Int32)), (.int i2)])
          refine Go.of (fun t k => XS.iushr X34.here hx rfl (hb hby at_201) rfl k) ?_
          show Go p e below Φ T34 (mkF m 202 #[.val (.long i0), .second, .val (.long i1), .second, .val (.int i2), .val (.long v13), .second, .val (.ref b2), .val (.ref b4), .val (.ref b6), .val (.int (1 : Int32)), .val (.int (2 : Int32)), .val (.int (0 : Int32)), .val (.ref b4), .val (.ref b6), .val (.int (0 : Int32))] [(.int (own_ushr i2 (3 : Int32)))])
          refine Go.of (fun t k => XS.iconst X34.here hx rfl (hb hby at_202) k) ?_
          show Go p e below Φ T34 (mkF m 203 #[.val (.long i0), .second, .val (.long i1), .second, .val (.int i2), .val (.long v13), .second, .val (.ref b2), .val (.ref b4), .val (.ref b6), .val (.int (1 : Int32)), .val (.int (2 : Int32)), .val (.int (0 : Int32)), .val (.ref b4), .val (.ref b6), .val (.int (0 : Int32))] [(.int (1 : Int32)), (.int (own_ushr i2 (3 : Int32)))])
          refine Go.of (fun t k => XS.iand X34.here hx rfl (hb hby at_203) rfl k) ?_
          show Go p e below Φ T34 (mkF m 204 #[.val (.long i0), .second, .val (.long i1), .second, .val (.int i2), .val (.long v13), .second, .val (.ref b2), .val (.ref b4), .val (.ref b6), .val (.int (1 : Int32)), .val (.int (2 : Int32)), .val (.int (0 : Int32)), .val (.ref b4), .val (.ref b6), .val (.int (0 : Int32))] [(.int ((own_ushr i2 (3 : Int32)) &&& (1 : Int32)))])
          by_cases hc204 : ((own_ushr i2 (3 : Int32)) &&& (1 : Int32)) = (0 : Int32)
          · refine Go.of (fun t k => XS.ifYes X34.here hx rfl (pc0 := 204) (pc' := 217) rfl (hb hby at_204) rfl (XT.i0_eq_t hc204) (by decide) (by decide) k) ?_
            show Go p e below Φ T34 (mkF m 217 #[.val (.long i0), .second, .val (.long i1), .second, .val (.int i2), .val (.long v13), .second, .val (.ref b2), .val (.ref b4), .val (.ref b6), .val (.int (1 : Int32)), .val (.int (2 : Int32)), .val (.int (0 : Int32)), .val (.ref b4), .val (.ref b6), .val (.int (0 : Int32))] [])
            refine Go.of (fun t k => XS.iload X34.here hx rfl (hb hby at_217) rfl  k) ?_
            show Go p e below Φ T34 (mkF m 219 #[.val (.long i0), .second, .val (.long i1), .second, .val (.int i2), .val (.long v13), .second, .val (.ref b2), .val (.ref b4), .val (.ref b6), .val (.int (1 : Int32)), .val (.int (2 : Int32)), .val (.int (0 : Int32)), .val (.ref b4), .val (.ref b6), .val (.int (0 : Int32))] [(.int (1 : Int32))])
            refine Go.of (fun t k => XS.ifNo X34.here hx rfl (hb hby at_219) rfl (XT.i0_eq_f (by decide)) k) ?_
            show Go p e below Φ T34 (mkF m 222 #[.val (.long i0), .second, .val (.long i1), .second, .val (.int i2), .val (.long v13), .second, .val (.ref b2), .val (.ref b4), .val (.ref b6), .val (.int (1 : Int32)), .val (.int (2 : Int32)), .val (.int (0 : Int32)), .val (.ref b4), .val (.ref b6), .val (.int (0 : Int32))] [])
            refine Go.of (fun t k => XS.aload X34.here hx rfl (hb hby at_222) rfl rfl  k) ?_
            show Go p e below Φ T34 (mkF m 224 #[.val (.long i0), .second, .val (.long i1), .second, .val (.int i2), .val (.long v13), .second, .val (.ref b2), .val (.ref b4), .val (.ref b6), .val (.int (1 : Int32)), .val (.int (2 : Int32)), .val (.int (0 : Int32)), .val (.ref b4), .val (.ref b6), .val (.int (0 : Int32))] [(.ref b2)])
            obtain ⟨cq35, kq35, q35a, q35b, q35c⟩ := isOf hZ (e34q) E_b2
            obtain ⟨_, _, ⟨T35, L35, k35, n35⟩, -, X35, ⟨Lc35, hQ35, l35, y35, z35⟩, st35⟩ := X34.virtualBack hx (y := (⟨"com/example/demarq/demarq/broker/SortedMessages", "isEmpty", "()Z"⟩ : MethodName)) (z := (⟨"com/example/demarq/demarq/broker/SortedMessages", "isEmpty", "()Z"⟩ : MethodName)) hown (mvT hZ (hw _ (List.mem_of_getElem? (i := 26) rfl))) (mvT hZ (hw _ (List.mem_of_getElem? (i := 27) rfl))) (notFace_of_selects (args := #[]) (mvT hZ (hw _ (List.mem_of_getElem? (i := 29) rfl)))) (mvT hZ (hw _ (List.mem_of_getElem? (i := 29) rfl))) (mvT hZ (hw _ (List.mem_of_getElem? (i := 28) rfl))) (by decide) (backOf (W := 0) (rm4n l Z a0 hw [] b2 (2 : Int32) T33.heap n0 Z33 F_b2_size (by decide)) hZ (hw _ (List.mem_of_getElem? (i := 30) rfl)) (hw _ (List.mem_of_getElem? (i := 2) rfl)) (by decide) (by decide)) q35a q35c (g := (mkF m 224 #[.val (.long i0), .second, .val (.long i1), .second, .val (.int i2), .val (.long v13), .second, .val (.ref b2), .val (.ref b4), .val (.ref b6), .val (.int (1 : Int32)), .val (.int (2 : Int32)), .val (.int (0 : Int32)), .val (.ref b4), .val (.ref b6), .val (.int (0 : Int32))] [(.ref b2)])) rfl (by rw [hml]; rfl) (Steps.refl _) (argsL := []) (rest := []) (lenOf own_pd9 rfl) rfl (by show 2 * 0 + _ ≤ _; exact Nat.le_of_eq rfl) (hb hby at_224) (fun _ _ => ⟨rfl, (e34q), (by decide : 5 + 0 ≤ _), (by decide : 29 + 0 ≤ _)⟩)
            dsimp only [Pt.U, Pt.locs, Pt.cells, Pt.slots] at X35 l35 y35 z35 st35 hQ35
            subst l35 y35 z35
            obtain ⟨rfl, N35q, e35q⟩ := hQ35
            have N35 := Fr.app N34 N35q
            obtain ⟨lc35, X35, N35⟩ : ∃ lc, Stand p l e room_1 s m #[(.long i0), (.long i1), (.int i2)] below meth c T35 lc 5 29 ∧ Fr n0 lc := ⟨_, X35, N35⟩
            refine Go.tr st35 ?_
            show Go p e below Φ T35 (mkF m 227 #[.val (.long i0), .second, .val (.long i1), .second, .val (.int i2), .val (.long v13), .second, .val (.ref b2), .val (.ref b4), .val (.ref b6), .val (.int (1 : Int32)), .val (.int (2 : Int32)), .val (.int (0 : Int32)), .val (.ref b4), .val (.ref b6), .val (.int (0 : Int32))] [(.int (0 : Int32))])
            refine Go.of (fun t k => XS.iload X35.here hx rfl (hb hby at_227) rfl  k) ?_
            show Go p e below Φ T35 (mkF m 229 #[.val (.long i0), .second, .val (.long i1), .second, .val (.int i2), .val (.long v13), .second, .val (.ref b2), .val (.ref b4), .val (.ref b6), .val (.int (1 : Int32)), .val (.int (2 : Int32)), .val (.int (0 : Int32)), .val (.ref b4), .val (.ref b6), .val (.int (0 : Int32))] [(.int (2 : Int32)), (.int (0 : Int32))])
            refine Go.of (fun t k => XS.iload X35.here hx rfl (hb hby at_229) rfl  k) ?_
            show Go p e below Φ T35 (mkF m 231 #[.val (.long i0), .second, .val (.long i1), .second, .val (.int i2), .val (.long v13), .second, .val (.ref b2), .val (.ref b4), .val (.ref b6), .val (.int (1 : Int32)), .val (.int (2 : Int32)), .val (.int (0 : Int32)), .val (.ref b4), .val (.ref b6), .val (.int (0 : Int32))] [(.int (0 : Int32)), (.int (2 : Int32)), (.int (0 : Int32))])
            refine Go.of (fun t k => XS.isub X35.here hx rfl (hb hby at_231) rfl k) ?_
            show Go p e below Φ T35 (mkF m 232 #[.val (.long i0), .second, .val (.long i1), .second, .val (.int i2), .val (.long v13), .second, .val (.ref b2), .val (.ref b4), .val (.ref b6), .val (.int (1 : Int32)), .val (.int (2 : Int32)), .val (.int (0 : Int32)), .val (.ref b4), .val (.ref b6), .val (.int (0 : Int32))] [(.int (2 : Int32)), (.int (0 : Int32))])
            refine Go.of (fun t k => XS.ifYes X35.here hx rfl (pc0 := 232) (pc' := 239) rfl (hb hby at_232) rfl (XT.i0_ne_t (by decide)) (by decide) (by decide) k) ?_
            show Go p e below Φ T35 (mkF m 239 #[.val (.long i0), .second, .val (.long i1), .second, .val (.int i2), .val (.long v13), .second, .val (.ref b2), .val (.ref b4), .val (.ref b6), .val (.int (1 : Int32)), .val (.int (2 : Int32)), .val (.int (0 : Int32)), .val (.ref b4), .val (.ref b6), .val (.int (0 : Int32))] [(.int (0 : Int32))])
            refine Go.of (fun t k => XS.iconst X35.here hx rfl (hb hby at_239) k) ?_
            show Go p e below Φ T35 (mkF m 240 #[.val (.long i0), .second, .val (.long i1), .second, .val (.int i2), .val (.long v13), .second, .val (.ref b2), .val (.ref b4), .val (.ref b6), .val (.int (1 : Int32)), .val (.int (2 : Int32)), .val (.int (0 : Int32)), .val (.ref b4), .val (.ref b6), .val (.int (0 : Int32))] [(.int (0 : Int32)), (.int (0 : Int32))])
            refine Go.of (fun t k => XS.icmpNo X35.here hx rfl (hb hby at_240) rfl (XT.ii_ne_f rfl) k) ?_
            show Go p e below Φ T35 (mkF m 243 #[.val (.long i0), .second, .val (.long i1), .second, .val (.int i2), .val (.long v13), .second, .val (.ref b2), .val (.ref b4), .val (.ref b6), .val (.int (1 : Int32)), .val (.int (2 : Int32)), .val (.int (0 : Int32)), .val (.ref b4), .val (.ref b6), .val (.int (0 : Int32))] [])
            refine Go.of (fun t k => XS.iconst X35.here hx rfl (hb hby at_243) k) ?_
            show Go p e below Φ T35 (mkF m 244 #[.val (.long i0), .second, .val (.long i1), .second, .val (.int i2), .val (.long v13), .second, .val (.ref b2), .val (.ref b4), .val (.ref b6), .val (.int (1 : Int32)), .val (.int (2 : Int32)), .val (.int (0 : Int32)), .val (.ref b4), .val (.ref b6), .val (.int (0 : Int32))] [(.int (1 : Int32))])
            refine Go.of (fun t k => XS.goto X35.here hx rfl (pc0 := 244) (pc' := 248) rfl (hb hby at_244) (by decide) (by decide) k) ?_
            show Go p e below Φ T35 (mkF m 248 #[.val (.long i0), .second, .val (.long i1), .second, .val (.int i2), .val (.long v13), .second, .val (.ref b2), .val (.ref b4), .val (.ref b6), .val (.int (1 : Int32)), .val (.int (2 : Int32)), .val (.int (0 : Int32)), .val (.ref b4), .val (.ref b6), .val (.int (0 : Int32))] [(.int (1 : Int32))])
            refine Go.of (fun t k => XS.istore X35.here hx rfl (hb hby at_248) rfl (l' := #[.val (.long i0), .second, .val (.long i1), .second, .val (.int i2), .val (.long v13), .second, .val (.ref b2), .val (.ref b4), .val (.ref b6), .val (.int (1 : Int32)), .val (.int (2 : Int32)), .val (.int (0 : Int32)), .val (.ref b4), .val (.ref b6), .val (.int (0 : Int32))]) rfl k) ?_
            show Go p e below Φ T35 (mkF m 250 #[.val (.long i0), .second, .val (.long i1), .second, .val (.int i2), .val (.long v13), .second, .val (.ref b2), .val (.ref b4), .val (.ref b6), .val (.int (1 : Int32)), .val (.int (2 : Int32)), .val (.int (0 : Int32)), .val (.ref b4), .val (.ref b6), .val (.int (0 : Int32))] [])
            refine Go.of (fun t k => XS.iload X35.here hx rfl (hb hby at_250) rfl  k) ?_
            show Go p e below Φ T35 (mkF m 252 #[.val (.long i0), .second, .val (.long i1), .second, .val (.int i2), .val (.long v13), .second, .val (.ref b2), .val (.ref b4), .val (.ref b6), .val (.int (1 : Int32)), .val (.int (2 : Int32)), .val (.int (0 : Int32)), .val (.ref b4), .val (.ref b6), .val (.int (0 : Int32))] [(.int (1 : Int32))])
            rw [hΦ]
            refine Go.ret X35 hx Bd.notSynchronized Bd.returns rfl (Or.inl ⟨rfl, Or.inr (Or.inl rfl), _, rfl⟩) (hb hby at_252) (by decide) (by decide) ?_
            rw [(e35q)]
            exact ⟨rfl, N35⟩
          · refine Go.of (fun t k => XS.ifNo X34.here hx rfl (hb hby at_204) rfl (XT.i0_eq_f hc204) k) ?_
            show Go p e below Φ T34 (mkF m 207 #[.val (.long i0), .second, .val (.long i1), .second, .val (.int i2), .val (.long v13), .second, .val (.ref b2), .val (.ref b4), .val (.ref b6), .val (.int (1 : Int32)), .val (.int (2 : Int32)), .val (.int (0 : Int32)), .val (.ref b4), .val (.ref b6), .val (.int (0 : Int32))] [])
            refine Go.of (fun t k => XS.aload X34.here hx rfl (hb hby at_207) rfl rfl  k) ?_
            show Go p e below Φ T34 (mkF m 209 #[.val (.long i0), .second, .val (.long i1), .second, .val (.int i2), .val (.long v13), .second, .val (.ref b2), .val (.ref b4), .val (.ref b6), .val (.int (1 : Int32)), .val (.int (2 : Int32)), .val (.int (0 : Int32)), .val (.ref b4), .val (.ref b6), .val (.int (0 : Int32))] [(.ref b2)])
            refine Go.of (fun t k => XS.aload X34.here hx rfl (hb hby at_209) rfl rfl  k) ?_
            show Go p e below Φ T34 (mkF m 211 #[.val (.long i0), .second, .val (.long i1), .second, .val (.int i2), .val (.long v13), .second, .val (.ref b2), .val (.ref b4), .val (.ref b6), .val (.int (1 : Int32)), .val (.int (2 : Int32)), .val (.int (0 : Int32)), .val (.ref b4), .val (.ref b6), .val (.int (0 : Int32))] [(.ref b6), (.ref b2)])
            obtain ⟨cq36, kq36, q36a, q36b, q36c⟩ := isOf hZ (e34q) E_b2
            obtain ⟨_, _, ⟨T36, L36, k36, n36⟩, -, X36, ⟨Lc36, hQ36, l36, y36, z36⟩, st36⟩ := X34.virtualBack hx (y := (⟨"com/example/demarq/demarq/broker/SortedMessages", "remove", "(Lcom/example/demarq/demarq/broker/Message;)V"⟩ : MethodName)) (z := (⟨"com/example/demarq/demarq/broker/SortedMessages", "remove", "(Lcom/example/demarq/demarq/broker/Message;)V"⟩ : MethodName)) hown (mvT hZ (hw _ (List.mem_of_getElem? (i := 49) rfl))) (mvT hZ (hw _ (List.mem_of_getElem? (i := 50) rfl))) (notFace_of_selects (args := #[]) (mvT hZ (hw _ (List.mem_of_getElem? (i := 52) rfl)))) (mvT hZ (hw _ (List.mem_of_getElem? (i := 52) rfl))) (mvT hZ (hw _ (List.mem_of_getElem? (i := 51) rfl))) (by decide) (backOf (W := 0) (rm8x l Z a0 hw [] b2 b6 b3 k3 (((15 : Int32), (.ref b6)) :: (((0 : Int32), (.ref b4)) :: [])) (15 : Int32) v13 T33.heap n0 Z33 F_b2_head F_b2_ring V_b3 E_b2 g_b2 g_b3 ne_b2_b3 F_b2_size ⟨by decide, by decide⟩ (getH_hit (by decide) (by decide)) E_b6 F_b6_position ⟨by decide, by decide⟩ (Ne.symm ne_b2_b6) (Ne.symm ne_b3_b6)) hZ (hw _ (List.mem_of_getElem? (i := 53) rfl)) (hw _ (List.mem_of_getElem? (i := 2) rfl)) (by decide) (by decide)) q36a q36c (g := (mkF m 211 #[.val (.long i0), .second, .val (.long i1), .second, .val (.int i2), .val (.long v13), .second, .val (.ref b2), .val (.ref b4), .val (.ref b6), .val (.int (1 : Int32)), .val (.int (2 : Int32)), .val (.int (0 : Int32)), .val (.ref b4), .val (.ref b6), .val (.int (0 : Int32))] [(.ref b6), (.ref b2)])) rfl (by rw [hml]; rfl) (Steps.refl _) (argsL := [(.ref b6)]) (rest := []) (lenOf own_pd10 rfl) rfl (by show 2 * 0 + _ ≤ _; exact Nat.le_of_eq rfl) (hb hby at_211) (fun _ _ => ⟨rfl, (e34q), (by decide : 5 + 1 ≤ _), (by decide : 29 + 2 ≤ _)⟩)
            dsimp only [Pt.U, Pt.locs, Pt.cells, Pt.slots] at X36 l36 y36 z36 st36 hQ36
            subst l36 y36 z36
            obtain ⟨rfl, N36q, K36q, c36_0, c36_1, c36_2, c36_3⟩ := hQ36
            have N36 := Fr.app N34 N36q
            obtain ⟨lc36, X36, N36⟩ : ∃ lc, Stand p l e room_1 s m #[(.long i0), (.long i1), (.int i2)] below meth c T36 lc 6 31 ∧ Fr n0 lc := ⟨_, X36, N36⟩
            have E_b2 := E_b2.keep K36q
            have E_b4 := E_b4.keep K36q
            have F_b4_position := F_b4_position.keep K36q (ninS (Ne.symm ne_b2_b4) (ninS (Ne.symm ne_b3_b4) nin0))
            have E_b6 := E_b6.keep K36q
            have F_b6_position := F_b6_position.keep K36q (ninS (Ne.symm ne_b2_b6) (ninS (Ne.symm ne_b3_b6) nin0))
            have F_b2_size := c36_0
            have F_b2_head := c36_1
            have F_b2_ring := c36_2
            have V_b3 : Arh Z T36.heap b3 k3 (.object "com/example/demarq/demarq/broker/Message") (16 : Int32) (((15 : Int32), .null) :: (((15 : Int32), (.ref b6)) :: (((0 : Int32), (.ref b4)) :: []))) [] .null := c36_3
            have Z36 := Nat.le_trans Z33 K36q.1
            refine Go.tr st36 ?_
            show Go p e below Φ T36 (mkF m 214 #[.val (.long i0), .second, .val (.long i1), .second, .val (.int i2), .val (.long v13), .second, .val (.ref b2), .val (.ref b4), .val (.ref b6), .val (.int (1 : Int32)), .val (.int (2 : Int32)), .val (.int (0 : Int32)), .val (.ref b4), .val (.ref b6), .val (.int (0 : Int32))] [])
            refine Go.of (fun t k => XS.iinc X36.here hx rfl (hb hby at_214) rfl (l' := #[.val (.long i0), .second, .val (.long i1), .second, .val (.int i2), .val (.long v13), .second, .val (.ref b2), .val (.ref b4), .val (.ref b6), .val (.int (1 : Int32)), .val (.int (2 : Int32)), .val (.int (0 : Int32)), .val (.ref b4), .val (.ref b6), .val (.int (1 : Int32))]) rfl k) ?_
            show Go p e below Φ T36 (mkF m 217 #[.val (.long i0), .second, .val (.long i1), .second, .val (.int i2), .val (.long v13), .second, .val (.ref b2), .val (.ref b4), .val (.ref b6), .val (.int (1 : Int32)), .val (.int (2 : Int32)), .val (.int (0 : Int32)), .val (.ref b4), .val (.ref b6), .val (.int (1 : Int32))] [])
            refine Go.of (fun t k => XS.iload X36.here hx rfl (hb hby at_217) rfl  k) ?_
            show Go p e below Φ T36 (mkF m 219 #[.val (.long i0), .second, .val (.long i1), .second, .val (.int i2), .val (.long v13), .second, .val (.ref b2), .val (.ref b4), .val (.ref b6), .val (.int (1 : Int32)), .val (.int (2 : Int32)), .val (.int (0 : Int32)), .val (.ref b4), .val (.ref b6), .val (.int (1 : Int32))] [(.int (1 : Int32))])
            refine Go.of (fun t k => XS.ifNo X36.here hx rfl (hb hby at_219) rfl (XT.i0_eq_f (by decide)) k) ?_
            show Go p e below Φ T36 (mkF m 222 #[.val (.long i0), .second, .val (.long i1), .second, .val (.int i2), .val (.long v13), .second, .val (.ref b2), .val (.ref b4), .val (.ref b6), .val (.int (1 : Int32)), .val (.int (2 : Int32)), .val (.int (0 : Int32)), .val (.ref b4), .val (.ref b6), .val (.int (1 : Int32))] [])
            refine Go.of (fun t k => XS.aload X36.here hx rfl (hb hby at_222) rfl rfl  k) ?_
            show Go p e below Φ T36 (mkF m 224 #[.val (.long i0), .second, .val (.long i1), .second, .val (.int i2), .val (.long v13), .second, .val (.ref b2), .val (.ref b4), .val (.ref b6), .val (.int (1 : Int32)), .val (.int (2 : Int32)), .val (.int (0 : Int32)), .val (.ref b4), .val (.ref b6), .val (.int (1 : Int32))] [(.ref b2)])
            obtain ⟨cq37, kq37, q37a, q37b, q37c⟩ := isOf hZ rfl E_b2
            obtain ⟨_, _, ⟨T37, L37, k37, n37⟩, -, X37, ⟨Lc37, hQ37, l37, y37, z37⟩, st37⟩ := X36.virtualBack hx (y := (⟨"com/example/demarq/demarq/broker/SortedMessages", "isEmpty", "()Z"⟩ : MethodName)) (z := (⟨"com/example/demarq/demarq/broker/SortedMessages", "isEmpty", "()Z"⟩ : MethodName)) hown (mvT hZ (hw _ (List.mem_of_getElem? (i := 26) rfl))) (mvT hZ (hw _ (List.mem_of_getElem? (i := 27) rfl))) (notFace_of_selects (args := #[]) (mvT hZ (hw _ (List.mem_of_getElem? (i := 29) rfl)))) (mvT hZ (hw _ (List.mem_of_getElem? (i := 29) rfl))) (mvT hZ (hw _ (List.mem_of_getElem? (i := 28) rfl))) (by decide) (backOf (W := 0) (rm4n l Z a0 hw [] b2 (1 : Int32) T36.heap n0 Z36 F_b2_size (by decide)) hZ (hw _ (List.mem_of_getElem? (i := 30) rfl)) (hw _ (List.mem_of_getElem? (i := 2) rfl)) (by decide) (by decide)) q37a q37c (g := (mkF m 224 #[.val (.long i0), .second, .val (.long i1), .second, .val (.int i2), .val (.long v13), .second, .val (.ref b2), .val (.ref b4), .val (.ref b6), .val (.int (1 : Int32)), .val (.int (2 : Int32)), .val (.int (0 : Int32)), .val (.ref b4), .val (.ref b6), .val (.int (1 : Int32))] [(.ref b2)])) rfl (by rw [hml]; rfl) (Steps.refl _) (argsL := []) (rest := []) (lenOf own_pd9 rfl) rfl (by show 2 * 0 + _ ≤ _; exact Nat.le_of_eq rfl) (hb hby at_224) (fun _ _ => ⟨rfl, rfl, (by decide : 6 + 0 ≤ _), (by decide : 31 + 0 ≤ _)⟩)
            dsimp only [Pt.U, Pt.locs, Pt.cells, Pt.slots] at X37 l37 y37 z37 st37 hQ37
            subst l37 y37 z37
            obtain ⟨rfl, N37q, e37q⟩ := hQ37
            have N37 := Fr.app N36 N37q
            obtain ⟨lc37, X37, N37⟩ : ∃ lc, Stand p l e room_1 s m #[(.long i0), (.long i1), (.int i2)] below meth c T37 lc 6 31 ∧ Fr n0 lc := ⟨_, X37, N37⟩
            refine Go.tr st37 ?_
            show Go p e below Φ T37 (mkF m 227 #[.val (.long i0), .second, .val (.long i1), .second, .val (.int i2), .val (.long v13), .second, .val (.ref b2), .val (.ref b4), .val (.ref b6), .val (.int (1 : Int32)), .val (.int (2 : Int32)), .val (.int (0 : Int32)), .val (.ref b4), .val (.ref b6), .val (.int (1 : Int32))] [(.int (0 : Int32))])
            refine Go.of (fun t k => XS.iload X37.here hx rfl (hb hby at_227) rfl  k) ?_
            show Go p e below Φ T37 (mkF m 229 #[.val (.long i0), .second, .val (.long i1), .second, .val (.int i2), .val (.long v13), .second, .val (.ref b2), .val (.ref b4), .val (.ref b6), .val (.int (1 : Int32)), .val (.int (2 : Int32)), .val (.int (0 : Int32)), .val (.ref b4), .val (.ref b6), .val (.int (1 : Int32))] [(.int (2 : Int32)), (.int (0 : Int32))])
            refine Go.of (fun t k => XS.iload X37.here hx rfl (hb hby at_229) rfl  k) ?_
            show Go p e below Φ T37 (mkF m 231 #[.val (.long i0), .second, .val (.long i1), .second, .val (.int i2), .val (.long v13), .second, .val (.ref b2), .val (.ref b4), .val (.ref b6), .val (.int (1 : Int32)), .val (.int (2 : Int32)), .val (.int (0 : Int32)), .val (.ref b4), .val (.ref b6), .val (.int (1 : Int32))] [(.int (1 : Int32)), (.int (2 : Int32)), (.int (0 : Int32))])
            refine Go.of (fun t k => XS.isub X37.here hx rfl (hb hby at_231) rfl k) ?_
            show Go p e below Φ T37 (mkF m 232 #[.val (.long i0), .second, .val (.long i1), .second, .val (.int i2), .val (.long v13), .second, .val (.ref b2), .val (.ref b4), .val (.ref b6), .val (.int (1 : Int32)), .val (.int (2 : Int32)), .val (.int (0 : Int32)), .val (.ref b4), .val (.ref b6), .val (.int (1 : Int32))] [(.int (1 : Int32)), (.int (0 : Int32))])
            refine Go.of (fun t k => XS.ifYes X37.here hx rfl (pc0 := 232) (pc' := 239) rfl (hb hby at_232) rfl (XT.i0_ne_t (by decide)) (by decide) (by decide) k) ?_
            show Go p e below Φ T37 (mkF m 239 #[.val (.long i0), .second, .val (.long i1), .second, .val (.int i2), .val (.long v13), .second, .val (.ref b2), .val (.ref b4), .val (.ref b6), .val (.int (1 : Int32)), .val (.int (2 : Int32)), .val (.int (0 : Int32)), .val (.ref b4), .val (.ref b6), .val (.int (1 : Int32))] [(.int (0 : Int32))])
            refine Go.of (fun t k => XS.iconst X37.here hx rfl (hb hby at_239) k) ?_
            show Go p e below Φ T37 (mkF m 240 #[.val (.long i0), .second, .val (.long i1), .second, .val (.int i2), .val (.long v13), .second, .val (.ref b2), .val (.ref b4), .val (.ref b6), .val (.int (1 : Int32)), .val (.int (2 : Int32)), .val (.int (0 : Int32)), .val (.ref b4), .val (.ref b6), .val (.int (1 : Int32))] [(.int (0 : Int32)), (.int (0 : Int32))])
            refine Go.of (fun t k => XS.icmpNo X37.here hx rfl (hb hby at_240) rfl (XT.ii_ne_f rfl) k) ?_
            show Go p e below Φ T37 (mkF m 243 #[.val (.long i0), .second, .val (.long i1), .second, .val (.int i2), .val (.long v13), .second, .val (.ref b2), .val (.ref b4), .val (.ref b6), .val (.int (1 : Int32)), .val (.int (2 : Int32)), .val (.int (0 : Int32)), .val (.ref b4), .val (.ref b6), .val (.int (1 : Int32))] [])
            refine Go.of (fun t k => XS.iconst X37.here hx rfl (hb hby at_243) k) ?_
            show Go p e below Φ T37 (mkF m 244 #[.val (.long i0), .second, .val (.long i1), .second, .val (.int i2), .val (.long v13), .second, .val (.ref b2), .val (.ref b4), .val (.ref b6), .val (.int (1 : Int32)), .val (.int (2 : Int32)), .val (.int (0 : Int32)), .val (.ref b4), .val (.ref b6), .val (.int (1 : Int32))] [(.int (1 : Int32))])
            refine Go.of (fun t k => XS.goto X37.here hx rfl (pc0 := 244) (pc' := 248) rfl (hb hby at_244) (by decide) (by decide) k) ?_
            show Go p e below Φ T37 (mkF m 248 #[.val (.long i0), .second, .val (.long i1), .second, .val (.int i2), .val (.long v13), .second, .val (.ref b2), .val (.ref b4), .val (.ref b6), .val (.int (1 : Int32)), .val (.int (2 : Int32)), .val (.int (0 : Int32)), .val (.ref b4), .val (.ref b6), .val (.int (1 : Int32))] [(.int (1 : Int32))])
            refine Go.of (fun t k => XS.istore X37.here hx rfl (hb hby at_248) rfl (l' := #[.val (.long i0), .second, .val (.long i1), .second, .val (.int i2), .val (.long v13), .second, .val (.ref b2), .val (.ref b4), .val (.ref b6), .val (.int (1 : Int32)), .val (.int (2 : Int32)), .val (.int (0 : Int32)), .val (.ref b4), .val (.ref b6), .val (.int (1 : Int32))]) rfl k) ?_
            show Go p e below Φ T37 (mkF m 250 #[.val (.long i0), .second, .val (.long i1), .second, .val (.int i2), .val (.long v13), .second, .val (.ref b2), .val (.ref b4), .val (.ref b6), .val (.int (1 : Int32)), .val (.int (2 : Int32)), .val (.int (0 : Int32)), .val (.ref b4), .val (.ref b6), .val (.int (1 : Int32))] [])
            refine Go.of (fun t k => XS.iload X37.here hx rfl (hb hby at_250) rfl  k) ?_
            show Go p e below Φ T37 (mkF m 252 #[.val (.long i0), .second, .val (.long i1), .second, .val (.int i2), .val (.long v13), .second, .val (.ref b2), .val (.ref b4), .val (.ref b6), .val (.int (1 : Int32)), .val (.int (2 : Int32)), .val (.int (0 : Int32)), .val (.ref b4), .val (.ref b6), .val (.int (1 : Int32))] [(.int (1 : Int32))])
            rw [hΦ]
            refine Go.ret X37 hx Bd.notSynchronized Bd.returns rfl (Or.inl ⟨rfl, Or.inr (Or.inl rfl), _, rfl⟩) (hb hby at_252) (by decide) (by decide) ?_
            rw [(e37q)]
            exact ⟨rfl, N37⟩
        · refine Go.of (fun t k => XS.ifNo X34.here hx rfl (hb hby at_179) rfl (XT.i0_eq_f hc179) k) ?_
          show Go p e below Φ T34 (mkF m 182 #[.val (.long i0), .second, .val (.long i1), .second, .val (.int i2), .val (.long v13), .second, .val (.ref b2), .val (.ref b4), .val (.ref b6), .val (.int (1 : Int32)), .val (.int (2 : Int32)), .val (.int (0 : Int32)), .val (.ref b4), .val (.ref b6), .val (.int (0 : Int32))] [])
          refine Go.of (fun t k => XS.aload X34.here hx rfl (hb hby at_182) rfl rfl  k) ?_
          show Go p e below Φ T34 (mkF m 184 #[.val (.long i0), .second, .val (.long i1), .second, .val (.int i2), .val (.long v13), .second, .val (.ref b2), .val (.ref b4), .val (.ref b6), .val (.int (1 : Int32)), .val (.int (2 : Int32)), .val (.int (0 : Int32)), .val (.ref b4), .val (.ref b6), .val (.int (0 : Int32))] [(.ref b2)])
          refine Go.of (fun t k => XS.aload X34.here hx rfl (hb hby at_184) rfl rfl  k) ?_
          show Go p e below Φ T34 (mkF m 186 #[.val (.long i0), .second, .val (.long i1), .second, .val (.int i2), .val (.long v13), .second, .val (.ref b2), .val (.ref b4), .val (.ref b6), .val (.int (1 : Int32)), .val (.int (2 : Int32)), .val (.int (0 : Int32)), .val (.ref b4), .val (.ref b6), .val (.int (0 : Int32))] [(.ref b4), (.ref b2)])
          obtain ⟨cq38, kq38, q38a, q38b, q38c⟩ := isOf hZ (e34q) E_b2
          obtain ⟨_, _, ⟨T38, L38, k38, n38⟩, -, X38, ⟨Lc38, hQ38, l38, y38, z38⟩, st38⟩ := X34.virtualBack hx (y := (⟨"com/example/demarq/demarq/broker/SortedMessages", "remove", "(Lcom/example/demarq/demarq/broker/Message;)V"⟩ : MethodName)) (z := (⟨"com/example/demarq/demarq/broker/SortedMessages", "remove", "(Lcom/example/demarq/demarq/broker/Message;)V"⟩ : MethodName)) hown (mvT hZ (hw _ (List.mem_of_getElem? (i := 49) rfl))) (mvT hZ (hw _ (List.mem_of_getElem? (i := 50) rfl))) (notFace_of_selects (args := #[]) (mvT hZ (hw _ (List.mem_of_getElem? (i := 52) rfl)))) (mvT hZ (hw _ (List.mem_of_getElem? (i := 52) rfl))) (mvT hZ (hw _ (List.mem_of_getElem? (i := 51) rfl))) (by decide) (backOf (W := 0) (rm8y l Z a0 hw [] b2 b4 b3 k3 (((15 : Int32), (.ref b6)) :: (((0 : Int32), (.ref b4)) :: [])) b6 (15 : Int32) v13 i0 T33.heap n0 Z33 F_b2_head F_b2_ring V_b3 E_b2 g_b2 g_b3 ne_b2_b3 F_b2_size ⟨by decide, by decide⟩ (getH_hit (by decide) (by decide)) E_b6 F_b6_position ⟨by decide, by decide⟩ (getH_miss (by decide) (by decide) (getH_hit (by decide) (by decide))) E_b4 F_b4_position (own_gt hlt (Ne.symm (own_ne i0 i1 v13 hv13))) (Ne.symm ne_b2_b6) (Ne.symm ne_b3_b6) (Ne.symm ne_b2_b4) (Ne.symm ne_b3_b4)) hZ (hw _ (List.mem_of_getElem? (i := 53) rfl)) (hw _ (List.mem_of_getElem? (i := 2) rfl)) (by decide) (by decide)) q38a q38c (g := (mkF m 186 #[.val (.long i0), .second, .val (.long i1), .second, .val (.int i2), .val (.long v13), .second, .val (.ref b2), .val (.ref b4), .val (.ref b6), .val (.int (1 : Int32)), .val (.int (2 : Int32)), .val (.int (0 : Int32)), .val (.ref b4), .val (.ref b6), .val (.int (0 : Int32))] [(.ref b4), (.ref b2)])) rfl (by rw [hml]; rfl) (Steps.refl _) (argsL := [(.ref b4)]) (rest := []) (lenOf own_pd10 rfl) rfl (by show 2 * 0 + _ ≤ _; exact Nat.le_of_eq rfl) (hb hby at_186) (fun _ _ => ⟨rfl, (e34q), (by decide : 5 + 1 ≤ _), (by decide : 29 + 2 ≤ _)⟩)
          dsimp only [Pt.U, Pt.locs, Pt.cells, Pt.slots] at X38 l38 y38 z38 st38 hQ38
          subst l38 y38 z38
          obtain ⟨rfl, N38q, K38q, c38_0, c38_1, c38_2, c38_3⟩ := hQ38
          have N38 := Fr.app N34 N38q
          obtain ⟨lc38, X38, N38⟩ : ∃ lc, Stand p l e room_1 s m #[(.long i0), (.long i1), (.int i2)] below meth c T38 lc 6 31 ∧ Fr n0 lc := ⟨_, X38, N38⟩
          have E_b2 := E_b2.keep K38q
          have E_b4 := E_b4.keep K38q
          have F_b4_position := F_b4_position.keep K38q (ninS (Ne.symm ne_b2_b4) (ninS (Ne.symm ne_b3_b4) nin0))
          have E_b6 := E_b6.keep K38q
          have F_b6_position := F_b6_position.keep K38q (ninS (Ne.symm ne_b2_b6) (ninS (Ne.symm ne_b3_b6) nin0))
          have F_b2_size := c38_0
          have F_b2_head := c38_1
          have F_b2_ring := c38_2
          have V_b3 : Arh Z T38.heap b3 k3 (.object "com/example/demarq/demarq/broker/Message") (16 : Int32) (((0 : Int32), .null) :: (((15 : Int32), (.ref b6)) :: (((0 : Int32), (.ref b4)) :: []))) [] .null := c38_3
          have Z38 := Nat.le_trans Z33 K38q.1
          refine Go.tr st38 ?_
          show Go p e below Φ T38 (mkF m 189 #[.val (.long i0), .second, .val (.long i1), .second, .val (.int i2), .val (.long v13), .second, .val (.ref b2), .val (.ref b4), .val (.ref b6), .val (.int (1 : Int32)), .val (.int (2 : Int32)), .val (.int (0 : Int32)), .val (.ref b4), .val (.ref b6), .val (.int (0 : Int32))] [])
          refine Go.of (fun t k => XS.iinc X38.here hx rfl (hb hby at_189) rfl (l' := #[.val (.long i0), .second, .val (.long i1), .second, .val (.int i2), .val (.long v13), .second, .val (.ref b2), .val (.ref b4), .val (.ref b6), .val (.int (1 : Int32)), .val (.int (2 : Int32)), .val (.int (0 : Int32)), .val (.ref b4), .val (.ref b6), .val (.int (1 : Int32))]) rfl k) ?_
          show Go p e below Φ T38 (mkF m 192 #[.val (.long i0), .second, .val (.long i1), .second, .val (.int i2), .val (.long v13), .second, .val (.ref b2), .val (.ref b4), .val (.ref b6), .val (.int (1 : Int32)), .val (.int (2 : Int32)), .val (.int (0 : Int32)), .val (.ref b4), .val (.ref b6), .val (.int (1 : Int32))] [])
          refine Go.of (fun t k => XS.iload X38.here hx rfl (hb hby at_192) rfl  k) ?_
          show Go p e below Φ T38 (mkF m 194 #[.val (.long i0), .second, .val (.long i1), .second, .val (.int i2), .val (.long v13), .second, .val (.ref b2), .val (.ref b4), .val (.ref b6), .val (.int (1 : Int32)), .val (.int (2 : Int32)), .val (.int (0 : Int32)), .val (.ref b4), .val (.ref b6), .val (.int (1 : Int32))] [(.int (2 : Int32))])
          refine Go.of (fun t k => XS.iconst X38.here hx rfl (hb hby at_194) k) ?_
          show Go p e below Φ T38 (mkF m 195 #[.val (.long i0), .second, .val (.long i1), .second, .val (.int i2), .val (.long v13), .second, .val (.ref b2), .val (.ref b4), .val (.ref b6), .val (.int (1 : Int32)), .val (.int (2 : Int32)), .val (.int (0 : Int32)), .val (.ref b4), .val (.ref b6), .val (.int (1 : Int32))] [(.int (2 : Int32)), (.int (2 : Int32))])
          refine Go.of (fun t k => XS.icmpNo X38.here hx rfl (hb hby at_195) rfl (XT.ii_lt_f (by decide)) k) ?_
          show Go p e below Φ T38 (mkF m 198 #[.val (.long i0), .second, .val (.long i1), .second, .val (.int i2), .val (.long v13), .second, .val (.ref b2), .val (.ref b4), .val (.ref b6), .val (.int (1 : Int32)), .val (.int (2 : Int32)), .val (.int (0 : Int32)), .val (.ref b4), .val (.ref b6), .val (.int (1 : Int32))] [])
          refine Go.of (fun t k => XS.iload X38.here hx rfl (hb hby at_198) rfl  k) ?_
          show Go p e below Φ T38 (mkF m 200 #[.val (.long i0), .second, .val (.long i1), .second, .val (.int i2), .val (.long v13), .second, .val (.ref b2), .val (.ref b4), .val (.ref b6), .val (.int (1 : Int32)), .val (.int (2 : Int32)), .val (.int (0 : Int32)), .val (.ref b4), .val (.ref b6), .val (.int (1 : Int32))] [(.int i2)])
          refine Go.of (fun t k => XS.iconst X38.here hx rfl (hb hby at_200) k) ?_
          show Go p e below Φ T38 (mkF m 201 #[.val (.long i0), .second, .val (.long i1), .second, .val (.int i2), .val (.long v13), .second, .val (.ref b2), .val (.ref b4), .val (.ref b6), .val (.int (1 : Int32)), .val (.int (2 : Int32)), .val (.int (0 : Int32)), .val (.ref b4), .val (.ref b6), .val (.int (1 : Int32))] [(.int (3 : Int32)), (.int i2)])
          refine Go.of (fun t k => XS.iushr X38.here hx rfl (hb hby at_201) rfl k) ?_
          show Go p e below Φ T38 (mkF m 202 #[.val (.long i0), .second, .val (.long i1), .second, .val (.int i2), .val (.long v13), .second, .val (.ref b2), .val (.ref b4), .val (.ref b6), .val (.int (1 : Int32)), .val (.int (2 : Int32)), .val (.int (0 : Int32)), .val (.ref b4), .val (.ref b6), .val (.int (1 : Int32))] [(.int (own_ushr i2 (3 : Int32)))])
          refine Go.of (fun t k => XS.iconst X38.here hx rfl (hb hby at_202) k) ?_
          show Go p e below Φ T38 (mkF m 203 #[.val (.long i0), .second, .val (.long i1), .second, .val (.int i2), .val (.long v13), .second, .val (.ref b2), .val (.ref b4), .val (.ref b6), .val (.int (1 : Int32)), .val (.int (2 : Int32)), .val (.int (0 : Int32)), .val (.ref b4), .val (.ref b6), .val (.int (1 : Int32))] [(.int (1 : Int32)), (.int (own_ushr i2 (3 : Int32)))])
          refine Go.of (fun t k => XS.iand X38.here hx rfl (hb hby at_203) rfl k) ?_
          show Go p e below Φ T38 (mkF m 204 #[.val (.long i0), .second, .val (.long i1), .second, .val (.int i2), .val (.long v13), .second, .val (.ref b2), .val (.ref b4), .val (.ref b6), .val (.int (1 : Int32)), .val (.int (2 : Int32)), .val (.int (0 : Int32)), .val (.ref b4), .val (.ref b6), .val (.int (1 : Int32))] [(.int ((own_ushr i2 (3 : Int32)) &&& (1 : Int32)))])
          by_cases hc204 : ((own_ushr i2 (3 : Int32)) &&& (1 : Int32)) = (0 : Int32)
          · refine Go.of (fun t k => XS.ifYes X38.here hx rfl (pc0 := 204) (pc' := 217) rfl (hb hby at_204) rfl (XT.i0_eq_t hc204) (by decide) (by decide) k) ?_
            show Go p e below Φ T38 (mkF m 217 #[.val (.long i0), .second, .val (.long i1), .second, .val (.int i2), .val (.long v13), .second, .val (.ref b2), .val (.ref b4), .val (.ref b6), .val (.int (1 : Int32)), .val (.int (2 : Int32)), .val (.int (0 : Int32)), .val (.ref b4), .val (.ref b6), .val (.int (1 : Int32))] [])
            refine Go.of (fun t k => XS.iload X38.here hx rfl (hb hby at_217) rfl  k) ?_
            show Go p e below Φ T38 (mkF m 219 #[.val (.long i0), .second, .val (.long i1), .second, .val (.int i2), .val (.long v13), .second, .val (.ref b2), .val (.ref b4), .val (.ref b6), .val (.int (1 : Int32)), .val (.int (2 : Int32)), .val (.int (0 : Int32)), .val (.ref b4), .val (.ref b6), .val (.int (1 : Int32))] [(.int (1 : Int32))])
            refine Go.of (fun t k => XS.ifNo X38.here hx rfl (hb hby at_219) rfl (XT.i0_eq_f (by decide)) k) ?_
            show Go p e below Φ T38 (mkF m 222 #[.val (.long i0), .second, .val (.long i1), .second, .val (.int i2), .val (.long v13), .second, .val (.ref b2), .val (.ref b4), .val (.ref b6), .val (.int (1 : Int32)), .val (.int (2 : Int32)), .val (.int (0 : Int32)), .val (.ref b4), .val (.ref b6), .val (.int (1 : Int32))] [])
            refine Go.of (fun t k => XS.aload X38.here hx rfl (hb hby at_222) rfl rfl  k) ?_
            show Go p e below Φ T38 (mkF m 224 #[.val (.long i0), .second, .val (.long i1), .second, .val (.int i2), .val (.long v13), .second, .val (.ref b2), .val (.ref b4), .val (.ref b6), .val (.int (1 : Int32)), .val (.int (2 : Int32)), .val (.int (0 : Int32)), .val (.ref b4), .val (.ref b6), .val (.int (1 : Int32))] [(.ref b2)])
            obtain ⟨cq39, kq39, q39a, q39b, q39c⟩ := isOf hZ rfl E_b2
            obtain ⟨_, _, ⟨T39, L39, k39, n39⟩, -, X39, ⟨Lc39, hQ39, l39, y39, z39⟩, st39⟩ := X38.virtualBack hx (y := (⟨"com/example/demarq/demarq/broker/SortedMessages", "isEmpty", "()Z"⟩ : MethodName)) (z := (⟨"com/example/demarq/demarq/broker/SortedMessages", "isEmpty", "()Z"⟩ : MethodName)) hown (mvT hZ (hw _ (List.mem_of_getElem? (i := 26) rfl))) (mvT hZ (hw _ (List.mem_of_getElem? (i := 27) rfl))) (notFace_of_selects (args := #[]) (mvT hZ (hw _ (List.mem_of_getElem? (i := 29) rfl)))) (mvT hZ (hw _ (List.mem_of_getElem? (i := 29) rfl))) (mvT hZ (hw _ (List.mem_of_getElem? (i := 28) rfl))) (by decide) (backOf (W := 0) (rm4n l Z a0 hw [] b2 (1 : Int32) T38.heap n0 Z38 F_b2_size (by decide)) hZ (hw _ (List.mem_of_getElem? (i := 30) rfl)) (hw _ (List.mem_of_getElem? (i := 2) rfl)) (by decide) (by decide)) q39a q39c (g := (mkF m 224 #[.val (.long i0), .second, .val (.long i1), .second, .val (.int i2), .val (.long v13), .second, .val (.ref b2), .val (.ref b4), .val (.ref b6), .val (.int (1 : Int32)), .val (.int (2 : Int32)), .val (.int (0 : Int32)), .val (.ref b4), .val (.ref b6), .val (.int (1 : Int32))] [(.ref b2)])) rfl (by rw [hml]; rfl) (Steps.refl _) (argsL := []) (rest := []) (lenOf own_pd9 rfl) rfl (by show 2 * 0 + _ ≤ _; exact Nat.le_of_eq rfl) (hb hby at_224) (fun _ _ => ⟨rfl, rfl, (by decide : 6 + 0 ≤ _), (by decide : 31 + 0 ≤ _)⟩)
            dsimp only [Pt.U, Pt.locs, Pt.cells, Pt.slots] at X39 l39 y39 z39 st39 hQ39
            subst l39 y39 z39
            obtain ⟨rfl, N39q, e39q⟩ := hQ39
            have N39 := Fr.app N38 N39q
            obtain ⟨lc39, X39, N39⟩ : ∃ lc, Stand p l e room_1 s m #[(.long i0), (.long i1), (.int i2)] below meth c T39 lc 6 31 ∧ Fr n0 lc := ⟨_, X39, N39⟩
            refine Go.tr st39 ?_
            show Go p e below Φ T39 (mkF m 227 #[.val (.long i0), .second, .val (.long i1), .second, .val (.int i2), .val (.long v13), .second, .val (.ref b2), .val (.ref b4), .val (.ref b6), .val (.int (1 : Int32)), .val (.int (2 : Int32)), .val (.int (0 : Int32)), .val (.ref b4), .val (.ref b6), .val (.int (1 : Int32))] [(.int (0 : Int32))])
            refine Go.of (fun t k => XS.iload X39.here hx rfl (hb hby at_227) rfl  k) ?_
            show Go p e below Φ T39 (mkF m 229 #[.val (.long i0), .second, .val (.long i1), .second, .val (.int i2), .val (.long v13), .second, .val (.ref b2), .val (.ref b4), .val (.ref b6), .val (.int (1 : Int32)), .val (.int (2 : Int32)), .val (.int (0 : Int32)), .val (.ref b4), .val (.ref b6), .val (.int (1 : Int32))] [(.int (2 : Int32)), (.int (0 : Int32))])
            refine Go.of (fun t k => XS.iload X39.here hx rfl (hb hby at_229) rfl  k) ?_
            show Go p e below Φ T39 (mkF m 231 #[.val (.long i0), .second, .val (.long i1), .second, .val (.int i2), .val (.long v13), .second, .val (.ref b2), .val (.ref b4), .val (.ref b6), .val (.int (1 : Int32)), .val (.int (2 : Int32)), .val (.int (0 : Int32)), .val (.ref b4), .val (.ref b6), .val (.int (1 : Int32))] [(.int (1 : Int32)), (.int (2 : Int32)), (.int (0 : Int32))])
            refine Go.of (fun t k => XS.isub X39.here hx rfl (hb hby at_231) rfl k) ?_
            show Go p e below Φ T39 (mkF m 232 #[.val (.long i0), .second, .val (.long i1), .second, .val (.int i2), .val (.long v13), .second, .val (.ref b2), .val (.ref b4), .val (.ref b6), .val (.int (1 : Int32)), .val (.int (2 : Int32)), .val (.int (0 : Int32)), .val (.ref b4), .val (.ref b6), .val (.int (1 : Int32))] [(.int (1 : Int32)), (.int (0 : Int32))])
            refine Go.of (fun t k => XS.ifYes X39.here hx rfl (pc0 := 232) (pc' := 239) rfl (hb hby at_232) rfl (XT.i0_ne_t (by decide)) (by decide) (by decide) k) ?_
            show Go p e below Φ T39 (mkF m 239 #[.val (.long i0), .second, .val (.long i1), .second, .val (.int i2), .val (.long v13), .second, .val (.ref b2), .val (.ref b4), .val (.ref b6), .val (.int (1 : Int32)), .val (.int (2 : Int32)), .val (.int (0 : Int32)), .val (.ref b4), .val (.ref b6), .val (.int (1 : Int32))] [(.int (0 : Int32))])
            refine Go.of (fun t k => XS.iconst X39.here hx rfl (hb hby at_239) k) ?_
            show Go p e below Φ T39 (mkF m 240 #[.val (.long i0), .second, .val (.long i1), .second, .val (.int i2), .val (.long v13), .second, .val (.ref b2), .val (.ref b4), .val (.ref b6), .val (.int (1 : Int32)), .val (.int (2 : Int32)), .val (.int (0 : Int32)), .val (.ref b4), .val (.ref b6), .val (.int (1 : Int32))] [(.int (0 : Int32)), (.int (0 : Int32))])
            refine Go.of (fun t k => XS.icmpNo X39.here hx rfl (hb hby at_240) rfl (XT.ii_ne_f rfl) k) ?_
            show Go p e below Φ T39 (mkF m 243 #[.val (.long i0), .second, .val (.long i1), .second, .val (.int i2), .val (.long v13), .second, .val (.ref b2), .val (.ref b4), .val (.ref b6), .val (.int (1 : Int32)), .val (.int (2 : Int32)), .val (.int (0 : Int32)), .val (.ref b4), .val (.ref b6), .val (.int (1 : Int32))] [])
            refine Go.of (fun t k => XS.iconst X39.here hx rfl (hb hby at_243) k) ?_
            show Go p e below Φ T39 (mkF m 244 #[.val (.long i0), .second, .val (.long i1), .second, .val (.int i2), .val (.long v13), .second, .val (.ref b2), .val (.ref b4), .val (.ref b6), .val (.int (1 : Int32)), .val (.int (2 : Int32)), .val (.int (0 : Int32)), .val (.ref b4), .val (.ref b6), .val (.int (1 : Int32))] [(.int (1 : Int32))])
            refine Go.of (fun t k => XS.goto X39.here hx rfl (pc0 := 244) (pc' := 248) rfl (hb hby at_244) (by decide) (by decide) k) ?_
            show Go p e below Φ T39 (mkF m 248 #[.val (.long i0), .second, .val (.long i1), .second, .val (.int i2), .val (.long v13), .second, .val (.ref b2), .val (.ref b4), .val (.ref b6), .val (.int (1 : Int32)), .val (.int (2 : Int32)), .val (.int (0 : Int32)), .val (.ref b4), .val (.ref b6), .val (.int (1 : Int32))] [(.int (1 : Int32))])
            refine Go.of (fun t k => XS.istore X39.here hx rfl (hb hby at_248) rfl (l' := #[.val (.long i0), .second, .val (.long i1), .second, .val (.int i2), .val (.long v13), .second, .val (.ref b2), .val (.ref b4), .val (.ref b6), .val (.int (1 : Int32)), .val (.int (2 : Int32)), .val (.int (0 : Int32)), .val (.ref b4), .val (.ref b6), .val (.int (1 : Int32))]) rfl k) ?_
            show Go p e below Φ T39 (mkF m 250 #[.val (.long i0), .second, .val (.long i1), .second, .val (.int i2), .val (.long v13), .second, .val (.ref b2), .val (.ref b4), .val (.ref b6), .val (.int (1 : Int32)), .val (.int (2 : Int32)), .val (.int (0 : Int32)), .val (.ref b4), .val (.ref b6), .val (.int (1 : Int32))] [])
            refine Go.of (fun t k => XS.iload X39.here hx rfl (hb hby at_250) rfl  k) ?_
            show Go p e below Φ T39 (mkF m 252 #[.val (.long i0), .second, .val (.long i1), .second, .val (.int i2), .val (.long v13), .second, .val (.ref b2), .val (.ref b4), .val (.ref b6), .val (.int (1 : Int32)), .val (.int (2 : Int32)), .val (.int (0 : Int32)), .val (.ref b4), .val (.ref b6), .val (.int (1 : Int32))] [(.int (1 : Int32))])
            rw [hΦ]
            refine Go.ret X39 hx Bd.notSynchronized Bd.returns rfl (Or.inl ⟨rfl, Or.inr (Or.inl rfl), _, rfl⟩) (hb hby at_252) (by decide) (by decide) ?_
            rw [(e39q)]
            exact ⟨rfl, N39⟩
          · refine Go.of (fun t k => XS.ifNo X38.here hx rfl (hb hby at_204) rfl (XT.i0_eq_f hc204) k) ?_
            show Go p e below Φ T38 (mkF m 207 #[.val (.long i0), .second, .val (.long i1), .second, .val (.int i2), .val (.long v13), .second, .val (.ref b2), .val (.ref b4), .val (.ref b6), .val (.int (1 : Int32)), .val (.int (2 : Int32)), .val (.int (0 : Int32)), .val (.ref b4), .val (.ref b6), .val (.int (1 : Int32))] [])
            refine Go.of (fun t k => XS.aload X38.here hx rfl (hb hby at_207) rfl rfl  k) ?_
            show Go p e below Φ T38 (mkF m 209 #[.val (.long i0), .second, .val (.long i1), .second, .val (.int i2), .val (.long v13), .second, .val (.ref b2), .val (.ref b4), .val (.ref b6), .val (.int (1 : Int32)), .val (.int (2 : Int32)), .val (.int (0 : Int32)), .val (.ref b4), .val (.ref b6), .val (.int (1 : Int32))] [(.ref b2)])
            refine Go.of (fun t k => XS.aload X38.here hx rfl (hb hby at_209) rfl rfl  k) ?_
            show Go p e below Φ T38 (mkF m 211 #[.val (.long i0), .second, .val (.long i1), .second, .val (.int i2), .val (.long v13), .second, .val (.ref b2), .val (.ref b4), .val (.ref b6), .val (.int (1 : Int32)), .val (.int (2 : Int32)), .val (.int (0 : Int32)), .val (.ref b4), .val (.ref b6), .val (.int (1 : Int32))] [(.ref b6), (.ref b2)])
            obtain ⟨cq40, kq40, q40a, q40b, q40c⟩ := isOf hZ rfl E_b2
            obtain ⟨_, _, ⟨T40, L40, k40, n40⟩, -, X40, ⟨Lc40, hQ40, l40, y40, z40⟩, st40⟩ := X38.virtualBack hx (y := (⟨"com/example/demarq/demarq/broker/SortedMessages", "remove", "(Lcom/example/demarq/demarq/broker/Message;)V"⟩ : MethodName)) (z := (⟨"com/example/demarq/demarq/broker/SortedMessages", "remove", "(Lcom/example/demarq/demarq/broker/Message;)V"⟩ : MethodName)) hown (mvT hZ (hw _ (List.mem_of_getElem? (i := 49) rfl))) (mvT hZ (hw _ (List.mem_of_getElem? (i := 50) rfl))) (notFace_of_selects (args := #[]) (mvT hZ (hw _ (List.mem_of_getElem? (i := 52) rfl)))) (mvT hZ (hw _ (List.mem_of_getElem? (i := 52) rfl))) (mvT hZ (hw _ (List.mem_of_getElem? (i := 51) rfl))) (by decide) (backOf (W := 0) (rm8a l Z a0 hw [] b2 b6 b3 k3 (((0 : Int32), .null) :: (((15 : Int32), (.ref b6)) :: (((0 : Int32), (.ref b4)) :: []))) (15 : Int32) v13 T38.heap n0 Z38 F_b2_head F_b2_ring V_b3 E_b2 g_b2 g_b3 ne_b2_b3 F_b2_size ⟨by decide, by decide⟩ (getH_miss (by decide) (by decide) (getH_hit (by decide) (by decide))) E_b6 F_b6_position (Ne.symm ne_b2_b6) (Ne.symm ne_b3_b6)) hZ (hw _ (List.mem_of_getElem? (i := 53) rfl)) (hw _ (List.mem_of_getElem? (i := 2) rfl)) (by decide) (by decide)) q40a q40c (g := (mkF m 211 #[.val (.long i0), .second, .val (.long i1), .second, .val (.int i2), .val (.long v13), .second, .val (.ref b2), .val (.ref b4), .val (.ref b6), .val (.int (1 : Int32)), .val (.int (2 : Int32)), .val (.int (0 : Int32)), .val (.ref b4), .val (.ref b6), .val (.int (1 : Int32))] [(.ref b6), (.ref b2)])) rfl (by rw [hml]; rfl) (Steps.refl _) (argsL := [(.ref b6)]) (rest := []) (lenOf own_pd10 rfl) rfl (by show 2 * 0 + _ ≤ _; exact Nat.le_of_eq rfl) (hb hby at_211) (fun _ _ => ⟨rfl, rfl, (by decide : 6 + 1 ≤ _), (by decide : 31 + 2 ≤ _)⟩)
            dsimp only [Pt.U, Pt.locs, Pt.cells, Pt.slots] at X40 l40 y40 z40 st40 hQ40
            subst l40 y40 z40
            obtain ⟨rfl, N40q, K40q, c40_0⟩ := hQ40
            have N40 := Fr.app N38 N40q
            obtain ⟨lc40, X40, N40⟩ : ∃ lc, Stand p l e room_1 s m #[(.long i0), (.long i1), (.int i2)] below meth c T40 lc 7 33 ∧ Fr n0 lc := ⟨_, X40, N40⟩
            have E_b2 := E_b2.keep K40q
            have E_b4 := E_b4.keep K40q
            have F_b4_position := F_b4_position.keep K40q (ninS (Ne.symm ne_b2_b4) (ninS (Ne.symm ne_b3_b4) nin0))
            have E_b6 := E_b6.keep K40q
            have F_b6_position := F_b6_position.keep K40q (ninS (Ne.symm ne_b2_b6) (ninS (Ne.symm ne_b3_b6) nin0))
            have F_b2_size := c40_0
            have Z40 := Nat.le_trans Z38 K40q.1
            refine Go.tr st40 ?_
            show Go p e below Φ T40 (mkF m 214 #[.val (.long i0), .second, .val (.long i1), .second, .val (.int i2), .val (.long v13), .second, .val (.ref b2), .val (.ref b4), .val (.ref b6), .val (.int (1 : Int32)), .val (.int (2 : Int32)), .val (.int (0 : Int32)), .val (.ref b4), .val (.ref b6), .val (.int (1 : Int32))] [])
            refine Go.of (fun t k => XS.iinc X40.here hx rfl (hb hby at_214) rfl (l' := #[.val (.long i0), .second, .val (.long i1), .second, .val (.int i2), .val (.long v13), .second, .val (.ref b2), .val (.ref b4), .val (.ref b6), .val (.int (1 : Int32)), .val (.int (2 : Int32)), .val (.int (0 : Int32)), .val (.ref b4), .val (.ref b6), .val (.int (2 : Int32))]) rfl k) ?_
            show Go p e below Φ T40 (mkF m 217 #[.val (.long i0), .second, .val (.long i1), .second, .val (.int i2), .val (.long v13), .second, .val (.ref b2), .val (.ref b4), .val (.ref b6), .val (.int (1 : Int32)), .val (.int (2 : Int32)), .val (.int (0 : Int32)), .val (.ref b4), .val (.ref b6), .val (.int (2 : Int32))] [])
            refine Go.of (fun t k => XS.iload X40.here hx rfl (hb hby at_217) rfl  k) ?_
            show Go p e below Φ T40 (mkF m 219 #[.val (.long i0), .second, .val (.long i1), .second, .val (.int i2), .val (.long v13), .second, .val (.ref b2), .val (.ref b4), .val (.ref b6), .val (.int (1 : Int32)), .val (.int (2 : Int32)), .val (.int (0 : Int32)), .val (.ref b4), .val (.ref b6), .val (.int (2 : Int32))] [(.int (1 : Int32))])
            refine Go.of (fun t k => XS.ifNo X40.here hx rfl (hb hby at_219) rfl (XT.i0_eq_f (by decide)) k) ?_
            show Go p e below Φ T40 (mkF m 222 #[.val (.long i0), .second, .val (.long i1), .second, .val (.int i2), .val (.long v13), .second, .val (.ref b2), .val (.ref b4), .val (.ref b6), .val (.int (1 : Int32)), .val (.int (2 : Int32)), .val (.int (0 : Int32)), .val (.ref b4), .val (.ref b6), .val (.int (2 : Int32))] [])
            refine Go.of (fun t k => XS.aload X40.here hx rfl (hb hby at_222) rfl rfl  k) ?_
            show Go p e below Φ T40 (mkF m 224 #[.val (.long i0), .second, .val (.long i1), .second, .val (.int i2), .val (.long v13), .second, .val (.ref b2), .val (.ref b4), .val (.ref b6), .val (.int (1 : Int32)), .val (.int (2 : Int32)), .val (.int (0 : Int32)), .val (.ref b4), .val (.ref b6), .val (.int (2 : Int32))] [(.ref b2)])
            obtain ⟨cq41, kq41, q41a, q41b, q41c⟩ := isOf hZ rfl E_b2
            obtain ⟨_, _, ⟨T41, L41, k41, n41⟩, -, X41, ⟨Lc41, hQ41, l41, y41, z41⟩, st41⟩ := X40.virtualBack hx (y := (⟨"com/example/demarq/demarq/broker/SortedMessages", "isEmpty", "()Z"⟩ : MethodName)) (z := (⟨"com/example/demarq/demarq/broker/SortedMessages", "isEmpty", "()Z"⟩ : MethodName)) hown (mvT hZ (hw _ (List.mem_of_getElem? (i := 26) rfl))) (mvT hZ (hw _ (List.mem_of_getElem? (i := 27) rfl))) (notFace_of_selects (args := #[]) (mvT hZ (hw _ (List.mem_of_getElem? (i := 29) rfl)))) (mvT hZ (hw _ (List.mem_of_getElem? (i := 29) rfl))) (mvT hZ (hw _ (List.mem_of_getElem? (i := 28) rfl))) (by decide) (backOf (W := 0) (rm4z l Z a0 hw [] b2 T40.heap n0 Z40 F_b2_size) hZ (hw _ (List.mem_of_getElem? (i := 30) rfl)) (hw _ (List.mem_of_getElem? (i := 2) rfl)) (by decide) (by decide)) q41a q41c (g := (mkF m 224 #[.val (.long i0), .second, .val (.long i1), .second, .val (.int i2), .val (.long v13), .second, .val (.ref b2), .val (.ref b4), .val (.ref b6), .val (.int (1 : Int32)), .val (.int (2 : Int32)), .val (.int (0 : Int32)), .val (.ref b4), .val (.ref b6), .val (.int (2 : Int32))] [(.ref b2)])) rfl (by rw [hml]; rfl) (Steps.refl _) (argsL := []) (rest := []) (lenOf own_pd9 rfl) rfl (by show 2 * 0 + _ ≤ _; exact Nat.le_of_eq rfl) (hb hby at_224) (fun _ _ => ⟨rfl, rfl, (by decide : 7 + 0 ≤ _), (by decide : 33 + 0 ≤ _)⟩)
            dsimp only [Pt.U, Pt.locs, Pt.cells, Pt.slots] at X41 l41 y41 z41 st41 hQ41
            subst l41 y41 z41
            obtain ⟨rfl, N41q, e41q⟩ := hQ41
            have N41 := Fr.app N40 N41q
            obtain ⟨lc41, X41, N41⟩ : ∃ lc, Stand p l e room_1 s m #[(.long i0), (.long i1), (.int i2)] below meth c T41 lc 7 33 ∧ Fr n0 lc := ⟨_, X41, N41⟩
            refine Go.tr st41 ?_
            show Go p e below Φ T41 (mkF m 227 #[.val (.long i0), .second, .val (.long i1), .second, .val (.int i2), .val (.long v13), .second, .val (.ref b2), .val (.ref b4), .val (.ref b6), .val (.int (1 : Int32)), .val (.int (2 : Int32)), .val (.int (0 : Int32)), .val (.ref b4), .val (.ref b6), .val (.int (2 : Int32))] [(.int (1 : Int32))])
            refine Go.of (fun t k => XS.iload X41.here hx rfl (hb hby at_227) rfl  k) ?_
            show Go p e below Φ T41 (mkF m 229 #[.val (.long i0), .second, .val (.long i1), .second, .val (.int i2), .val (.long v13), .second, .val (.ref b2), .val (.ref b4), .val (.ref b6), .val (.int (1 : Int32)), .val (.int (2 : Int32)), .val (.int (0 : Int32)), .val (.ref b4), .val (.ref b6), .val (.int (2 : Int32))] [(.int (2 : Int32)), (.int (1 : Int32))])
            refine Go.of (fun t k => XS.iload X41.here hx rfl (hb hby at_229) rfl  k) ?_
            show Go p e below Φ T41 (mkF m 231 #[.val (.long i0), .second, .val (.long i1), .second, .val (.int i2), .val (.long v13), .second, .val (.ref b2), .val (.ref b4), .val (.ref b6), .val (.int (1 : Int32)), .val (.int (2 : Int32)), .val (.int (0 : Int32)), .val (.ref b4), .val (.ref b6), .val (.int (2 : Int32))] [(.int (2 : Int32)), (.int (2 : Int32)), (.int (1 : Int32))])
            refine Go.of (fun t k => XS.isub X41.here hx rfl (hb hby at_231) rfl k) ?_
            show Go p e below Φ T41 (mkF m 232 #[.val (.long i0), .second, .val (.long i1), .second, .val (.int i2), .val (.long v13), .second, .val (.ref b2), .val (.ref b4), .val (.ref b6), .val (.int (1 : Int32)), .val (.int (2 : Int32)), .val (.int (0 : Int32)), .val (.ref b4), .val (.ref b6), .val (.int (2 : Int32))] [(.int (0 : Int32)), (.int (1 : Int32))])
            refine Go.of (fun t k => XS.ifNo X41.here hx rfl (hb hby at_232) rfl (XT.i0_ne_f rfl) k) ?_
            show Go p e below Φ T41 (mkF m 235 #[.val (.long i0), .second, .val (.long i1), .second, .val (.int i2), .val (.long v13), .second, .val (.ref b2), .val (.ref b4), .val (.ref b6), .val (.int (1 : Int32)), .val (.int (2 : Int32)), .val (.int (0 : Int32)), .val (.ref b4), .val (.ref b6), .val (.int (2 : Int32))] [(.int (1 : Int32))])
            refine Go.of (fun t k => XS.iconst X41.here hx rfl (hb hby at_235) k) ?_
            show Go p e below Φ T41 (mkF m 236 #[.val (.long i0), .second, .val (.long i1), .second, .val (.int i2), .val (.long v13), .second, .val (.ref b2), .val (.ref b4), .val (.ref b6), .val (.int (1 : Int32)), .val (.int (2 : Int32)), .val (.int (0 : Int32)), .val (.ref b4), .val (.ref b6), .val (.int (2 : Int32))] [(.int (1 : Int32)), (.int (1 : Int32))])
            refine Go.of (fun t k => XS.goto X41.here hx rfl (pc0 := 236) (pc' := 240) rfl (hb hby at_236) (by decide) (by decide) k) ?_
            show Go p e below Φ T41 (mkF m 240 #[.val (.long i0), .second, .val (.long i1), .second, .val (.int i2), .val (.long v13), .second, .val (.ref b2), .val (.ref b4), .val (.ref b6), .val (.int (1 : Int32)), .val (.int (2 : Int32)), .val (.int (0 : Int32)), .val (.ref b4), .val (.ref b6), .val (.int (2 : Int32))] [(.int (1 : Int32)), (.int (1 : Int32))])
            refine Go.of (fun t k => XS.icmpNo X41.here hx rfl (hb hby at_240) rfl (XT.ii_ne_f rfl) k) ?_
            show Go p e below Φ T41 (mkF m 243 #[.val (.long i0), .second, .val (.long i1), .second, .val (.int i2), .val (.long v13), .second, .val (.ref b2), .val (.ref b4), .val (.ref b6), .val (.int (1 : Int32)), .val (.int (2 : Int32)), .val (.int (0 : Int32)), .val (.ref b4), .val (.ref b6), .val (.int (2 : Int32))] [])
            refine Go.of (fun t k => XS.iconst X41.here hx rfl (hb hby at_243) k) ?_
            show Go p e below Φ T41 (mkF m 244 #[.val (.long i0), .second, .val (.long i1), .second, .val (.int i2), .val (.long v13), .second, .val (.ref b2), .val (.ref b4), .val (.ref b6), .val (.int (1 : Int32)), .val (.int (2 : Int32)), .val (.int (0 : Int32)), .val (.ref b4), .val (.ref b6), .val (.int (2 : Int32))] [(.int (1 : Int32))])
            refine Go.of (fun t k => XS.goto X41.here hx rfl (pc0 := 244) (pc' := 248) rfl (hb hby at_244) (by decide) (by decide) k) ?_
            show Go p e below Φ T41 (mkF m 248 #[.val (.long i0), .second, .val (.long i1), .second, .val (.int i2), .val (.long v13), .second, .val (.ref b2), .val (.ref b4), .val (.ref b6), .val (.int (1 : Int32)), .val (.int (2 : Int32)), .val (.int (0 : Int32)), .val (.ref b4), .val (.ref b6), .val (.int (2 : Int32))] [(.int (1 : Int32))])
            refine Go.of (fun t k => XS.istore X41.here hx rfl (hb hby at_248) rfl (l' := #[.val (.long i0), .second, .val (.long i1), .second, .val (.int i2), .val (.long v13), .second, .val (.ref b2), .val (.ref b4), .val (.ref b6), .val (.int (1 : Int32)), .val (.int (2 : Int32)), .val (.int (0 : Int32)), .val (.ref b4), .val (.ref b6), .val (.int (2 : Int32))]) rfl k) ?_
            show Go p e below Φ T41 (mkF m 250 #[.val (.long i0), .second, .val (.long i1), .second, .val (.int i2), .val (.long v13), .second, .val (.ref b2), .val (.ref b4), .val (.ref b6), .val (.int (1 : Int32)), .val (.int (2 : Int32)), .val (.int (0 : Int32)), .val (.ref b4), .val (.ref b6), .val (.int (2 : Int32))] [])
            refine Go.of (fun t k => XS.iload X41.here hx rfl (hb hby at_250) rfl  k) ?_
            show Go p e below Φ T41 (mkF m 252 #[.val (.long i0), .second, .val (.long i1), .second, .val (.int i2), .val (.long v13), .second, .val (.ref b2), .val (.ref b4), .val (.ref b6), .val (.int (1 : Int32)), .val (.int (2 : Int32)), .val (.int (0 : Int32)), .val (.ref b4), .val (.ref b6), .val (.int (2 : Int32))] [(.int (1 : Int32))])
            rw [hΦ]
            refine Go.ret X41 hx Bd.notSynchronized Bd.returns rfl (Or.inl ⟨rfl, Or.inr (Or.inl rfl), _, rfl⟩) (hb hby at_252) (by decide) (by decide) ?_
            rw [(e41q)]
            exact ⟨rfl, N41⟩
    · refine Go.of (fun t k => XS.ifNo X8.here hx rfl (hb hby at_70) rfl (XT.i0_eq_f hc70) k) ?_
      show Go p e below Φ T8 (mkF m 73 #[.val (.long i0), .second, .val (.long i1), .second, .val (.int i2), .val (.long v13), .second, .val (.ref b2), .val (.ref b4), .val (.ref b6), .val (.int (1 : Int32)), .val (.int (2 : Int32)), .unset, .unset, .unset, .unset] [])
      refine Go.of (fun t k => XS.iconst X8.here hx rfl (hb hby at_73) k) ?_
      show Go p e below Φ T8 (mkF m 74 #[.val (.long i0), .second, .val (.long i1), .second, .val (.int i2), .val (.long v13), .second, .val (.ref b2), .val (.ref b4), .val (.ref b6), .val (.int (1 : Int32)), .val (.int (2 : Int32)), .unset, .unset, .unset, .unset] [(.int (1 : Int32))])
      refine Go.of (fun t k => XS.goto X8.here hx rfl (pc0 := 74) (pc' := 78) rfl (hb hby at_74) (by decide) (by decide) k) ?_
      show Go p e below Φ T8 (mkF m 78 #[.val (.long i0), .second, .val (.long i1), .second, .val (.int i2), .val (.long v13), .second, .val (.ref b2), .val (.ref b4), .val (.ref b6), .val (.int (1 : Int32)), .val (.int (2 : Int32)), .unset, .unset, .unset, .unset] [(.int (1 : Int32))])
      refine Go.of (fun t k => XS.istore X8.here hx rfl (hb hby at_78) rfl (l' := #[.val (.long i0), .second, .val (.long i1), .second, .val (.int i2), .val (.long v13), .second, .val (.ref b2), .val (.ref b4), .val (.ref b6), .val (.int (1 : Int32)), .val (.int (2 : Int32)), .val (.int (1 : Int32)), .unset, .unset, .unset]) rfl k) ?_
      show Go p e below Φ T8 (mkF m 80 #[.val (.long i0), .second, .val (.long i1), .second, .val (.int i2), .val (.long v13), .second, .val (.ref b2), .val (.ref b4), .val (.ref b6), .val (.int (1 : Int32)), .val (.int (2 : Int32)), .val (.int (1 : Int32)), .unset, .unset, .unset] [])
      refine Go.of (fun t k => XS.iload X8.here hx rfl (hb hby at_80) rfl  k) ?_
      show Go p e below Φ T8 (mkF m 82 #[.val (.long i0), .second, .val (.long i1), .second, .val (.int i2), .val (.long v13), .second, .val (.ref b2), .val (.ref b4), .val (.ref b6), .val (.int (1 : Int32)), .val (.int (2 : Int32)), .val (.int (1 : Int32)), .unset, .unset, .unset] [(.int (1 : Int32))])
      refine Go.of (fun t k => XS.ifNo X8.here hx rfl (hb hby at_82) rfl (XT.i0_eq_f (by decide)) k) ?_
      show Go p e below Φ T8 (mkF m 85 #[.val (.long i0), .second, .val (.long i1), .second, .val (.int i2), .val (.long v13), .second, .val (.ref b2), .val (.ref b4), .val (.ref b6), .val (.int (1 : Int32)), .val (.int (2 : Int32)), .val (.int (1 : Int32)), .unset, .unset, .unset] [])
      refine Go.of (fun t k => XS.aload X8.here hx rfl (hb hby at_85) rfl rfl  k) ?_
      show Go p e below Φ T8 (mkF m 87 #[.val (.long i0), .second, .val (.long i1), .second, .val (.int i2), .val (.long v13), .second, .val (.ref b2), .val (.ref b4), .val (.ref b6), .val (.int (1 : Int32)), .val (.int (2 : Int32)), .val (.int (1 : Int32)), .unset, .unset, .unset] [(.ref b6)])
      refine Go.of (fun t k => XS.goto X8.here hx rfl (pc0 := 87) (pc' := 92) rfl (hb hby at_87) (by decide) (by decide) k) ?_
      show Go p e below Φ T8 (mkF m 92 #[.val (.long i0), .second, .val (.long i1), .second, .val (.int i2), .val (.long v13), .second, .val (.ref b2), .val (.ref b4), .val (.ref b6), .val (.int (1 : Int32)), .val (.int (2 : Int32)), .val (.int (1 : Int32)), .unset, .unset, .unset] [(.ref b6)])
      refine Go.of (fun t k => XS.astore X8.here hx rfl (hb hby at_92) rfl rfl (l' := #[.val (.long i0), .second, .val (.long i1), .second, .val (.int i2), .val (.long v13), .second, .val (.ref b2), .val (.ref b4), .val (.ref b6), .val (.int (1 : Int32)), .val (.int (2 : Int32)), .val (.int (1 : Int32)), .val (.ref b6), .unset, .unset]) rfl k) ?_
      show Go p e below Φ T8 (mkF m 94 #[.val (.long i0), .second, .val (.long i1), .second, .val (.int i2), .val (.long v13), .second, .val (.ref b2), .val (.ref b4), .val (.ref b6), .val (.int (1 : Int32)), .val (.int (2 : Int32)), .val (.int (1 : Int32)), .val (.ref b6), .unset, .unset] [])
      refine Go.of (fun t k => XS.iload X8.here hx rfl (hb hby at_94) rfl  k) ?_
      show Go p e below Φ T8 (mkF m 96 #[.val (.long i0), .second, .val (.long i1), .second, .val (.int i2), .val (.long v13), .second, .val (.ref b2), .val (.ref b4), .val (.ref b6), .val (.int (1 : Int32)), .val (.int (2 : Int32)), .val (.int (1 : Int32)), .val (.ref b6), .unset, .unset] [(.int (1 : Int32))])
      refine Go.of (fun t k => XS.ifNo X8.here hx rfl (hb hby at_96) rfl (XT.i0_eq_f (by decide)) k) ?_
      show Go p e below Φ T8 (mkF m 99 #[.val (.long i0), .second, .val (.long i1), .second, .val (.int i2), .val (.long v13), .second, .val (.ref b2), .val (.ref b4), .val (.ref b6), .val (.int (1 : Int32)), .val (.int (2 : Int32)), .val (.int (1 : Int32)), .val (.ref b6), .unset, .unset] [])
      refine Go.of (fun t k => XS.aload X8.here hx rfl (hb hby at_99) rfl rfl  k) ?_
      show Go p e below Φ T8 (mkF m 101 #[.val (.long i0), .second, .val (.long i1), .second, .val (.int i2), .val (.long v13), .second, .val (.ref b2), .val (.ref b4), .val (.ref b6), .val (.int (1 : Int32)), .val (.int (2 : Int32)), .val (.int (1 : Int32)), .val (.ref b6), .unset, .unset] [(.ref b4)])
      refine Go.of (fun t k => XS.goto X8.here hx rfl (pc0 := 101) (pc' := 106) rfl (hb hby at_101) (by decide) (by decide) k) ?_
      show Go p e below Φ T8 (mkF m 106 #[.val (.long i0), .second, .val (.long i1), .second, .val (.int i2), .val (.long v13), .second, .val (.ref b2), .val (.ref b4), .val (.ref b6), .val (.int (1 : Int32)), .val (.int (2 : Int32)), .val (.int (1 : Int32)), .val (.ref b6), .unset, .unset] [(.ref b4)])
      refine Go.of (fun t k => XS.astore X8.here hx rfl (hb hby at_106) rfl rfl (l' := #[.val (.long i0), .second, .val (.long i1), .second, .val (.int i2), .val (.long v13), .second, .val (.ref b2), .val (.ref b4), .val (.ref b6), .val (.int (1 : Int32)), .val (.int (2 : Int32)), .val (.int (1 : Int32)), .val (.ref b6), .val (.ref b4), .unset]) rfl k) ?_
      show Go p e below Φ T8 (mkF m 108 #[.val (.long i0), .second, .val (.long i1), .second, .val (.int i2), .val (.long v13), .second, .val (.ref b2), .val (.ref b4), .val (.ref b6), .val (.int (1 : Int32)), .val (.int (2 : Int32)), .val (.int (1 : Int32)), .val (.ref b6), .val (.ref b4), .unset] [])
      refine Go.of (fun t k => XS.iload X8.here hx rfl (hb hby at_108) rfl  k) ?_
      show Go p e below Φ T8 (mkF m 110 #[.val (.long i0), .second, .val (.long i1), .second, .val (.int i2), .val (.long v13), .second, .val (.ref b2), .val (.ref b4), .val (.ref b6), .val (.int (1 : Int32)), .val (.int (2 : Int32)), .val (.int (1 : Int32)), .val (.ref b6), .val (.ref b4), .unset] [(.int (2 : Int32))])
      refine Go.of (fun t k => XS.iconst X8.here hx rfl (hb hby at_110) k) ?_
      show Go p e below Φ T8 (mkF m 111 #[.val (.long i0), .second, .val (.long i1), .second, .val (.int i2), .val (.long v13), .second, .val (.ref b2), .val (.ref b4), .val (.ref b6), .val (.int (1 : Int32)), .val (.int (2 : Int32)), .val (.int (1 : Int32)), .val (.ref b6), .val (.ref b4), .unset] [(.int (1 : Int32)), (.int (2 : Int32))])
      refine Go.of (fun t k => XS.icmpNo X8.here hx rfl (hb hby at_111) rfl (XT.ii_lt_f (by decide)) k) ?_
      show Go p e below Φ T8 (mkF m 114 #[.val (.long i0), .second, .val (.long i1), .second, .val (.int i2), .val (.long v13), .second, .val (.ref b2), .val (.ref b4), .val (.ref b6), .val (.int (1 : Int32)), .val (.int (2 : Int32)), .val (.int (1 : Int32)), .val (.ref b6), .val (.ref b4), .unset] [])
      refine Go.of (fun t k => XS.aload X8.here hx rfl (hb hby at_114) rfl rfl  k) ?_
      show Go p e below Φ T8 (mkF m 116 #[.val (.long i0), .second, .val (.long i1), .second, .val (.int i2), .val (.long v13), .second, .val (.ref b2), .val (.ref b4), .val (.ref b6), .val (.int (1 : Int32)), .val (.int (2 : Int32)), .val (.int (1 : Int32)), .val (.ref b6), .val (.ref b4), .unset] [(.ref b2)])
      refine Go.of (fun t k => XS.aload X8.here hx rfl (hb hby at_116) rfl rfl  k) ?_
      show Go p e below Φ T8 (mkF m 118 #[.val (.long i0), .second, .val (.long i1), .second, .val (.int i2), .val (.long v13), .second, .val (.ref b2), .val (.ref b4), .val (.ref b6), .val (.int (1 : Int32)), .val (.int (2 : Int32)), .val (.int (1 : Int32)), .val (.ref b6), .val (.ref b4), .unset] [(.ref b6), (.ref b2)])
      obtain ⟨cq42, kq42, q42a, q42b, q42c⟩ := isOf hZ (e8q) E_b2
      obtain ⟨_, _, ⟨T42, L42, k42, n42⟩, -, X42, ⟨Lc42, hQ42, l42, y42, z42⟩, st42⟩ := X8.virtualBack hx (y := (⟨"com/example/demarq/demarq/broker/SortedMessages", "add", "(Lcom/example/demarq/demarq/broker/Message;)V"⟩ : MethodName)) (z := (⟨"com/example/demarq/demarq/broker/SortedMessages", "add", "(Lcom/example/demarq/demarq/broker/Message;)V"⟩ : MethodName)) hown (mvT hZ (hw _ (List.mem_of_getElem? (i := 33) rfl))) (mvT hZ (hw _ (List.mem_of_getElem? (i := 34) rfl))) (notFace_of_selects (args := #[]) (mvT hZ (hw _ (List.mem_of_getElem? (i := 36) rfl)))) (mvT hZ (hw _ (List.mem_of_getElem? (i := 36) rfl))) (mvT hZ (hw _ (List.mem_of_getElem? (i := 35) rfl))) (by decide) (backOf (W := 0) (rm5z l Z a0 hw [] b2 b6 b3 k3 [] T7.heap n0 Z7 F_b2_head F_b2_ring V_b3 F_b2_size E_b6 E_b2 g_b2 g_b3 ne_b2_b3 Ov3) hZ (hw _ (List.mem_of_getElem? (i := 37) rfl)) (hw _ (List.mem_of_getElem? (i := 2) rfl)) (by decide) (by decide)) q42a q42c (g := (mkF m 118 #[.val (.long i0), .second, .val (.long i1), .second, .val (.int i2), .val (.long v13), .second, .val (.ref b2), .val (.ref b4), .val (.ref b6), .val (.int (1 : Int32)), .val (.int (2 : Int32)), .val (.int (1 : Int32)), .val (.ref b6), .val (.ref b4), .unset] [(.ref b6), (.ref b2)])) rfl (by rw [hml]; rfl) (Steps.refl _) (argsL := [(.ref b6)]) (rest := []) (lenOf own_pd10 rfl) rfl (by show 2 * 0 + _ ≤ _; exact Nat.le_of_eq rfl) (hb hby at_118) (fun _ _ => ⟨rfl, (e8q), (by decide : 4 + 0 ≤ _), (by decide : 27 + 0 ≤ _)⟩)
      dsimp only [Pt.U, Pt.locs, Pt.cells, Pt.slots] at X42 l42 y42 z42 st42 hQ42
      subst l42 y42 z42
      obtain ⟨rfl, N42q, K42q, c42_0, c42_1, c42_2, c42_3⟩ := hQ42
      have N42 := Fr.app N8 N42q
      obtain ⟨lc42, X42, N42⟩ : ∃ lc, Stand p l e room_1 s m #[(.long i0), (.long i1), (.int i2)] below meth c T42 lc 4 27 ∧ Fr n0 lc := ⟨_, X42, N42⟩
      have E_b2 := E_b2.keep K42q
      have E_b4 := E_b4.keep K42q
      have F_b4_position := F_b4_position.keep K42q (ninS (Ne.symm ne_b2_b4) (ninS (Ne.symm ne_b3_b4) nin0))
      have E_b6 := E_b6.keep K42q
      have F_b6_position := F_b6_position.keep K42q (ninS (Ne.symm ne_b2_b6) (ninS (Ne.symm ne_b3_b6) nin0))
      have F_b2_size := c42_0
      have F_b2_head := c42_1
      have F_b2_ring := c42_2
      have V_b3 : Arh Z T42.heap b3 k3 (.object "com/example/demarq/demarq/broker/Message") (16 : Int32) (((0 : Int32), (.ref b6)) :: []) [] .null := c42_3
      have Z42 := Nat.le_trans Z7 K42q.1
      refine Go.tr st42 ?_
      show Go p e below Φ T42 (mkF m 121 #[.val (.long i0), .second, .val (.long i1), .second, .val (.int i2), .val (.long v13), .second, .val (.ref b2), .val (.ref b4), .val (.ref b6), .val (.int (1 : Int32)), .val (.int (2 : Int32)), .val (.int (1 : Int32)), .val (.ref b6), .val (.ref b4), .unset] [])
      refine Go.of (fun t k => XS.iload X42.here hx rfl (hb hby at_121) rfl  k) ?_
      show Go p e below Φ T42 (mkF m 123 #[.val (.long i0), .second, .val (.long i1), .second, .val (.int i2), .val (.long v13), .second, .val (.ref b2), .val (.ref b4), .val (.ref b6), .val (.int (1 : Int32)), .val (.int (2 : Int32)), .val (.int (1 : Int32)), .val (.ref b6), .val (.ref b4), .unset] [(.int (2 : Int32))])
      refine Go.of (fun t k => XS.iconst X42.here hx rfl (hb hby at_123) k) ?_
      show Go p e below Φ T42 (mkF m 124 #[.val (.long i0), .second, .val (.long i1), .second, .val (.int i2), .val (.long v13), .second, .val (.ref b2), .val (.ref b4), .val (.ref b6), .val (.int (1 : Int32)), .val (.int (2 : Int32)), .val (.int (1 : Int32)), .val (.ref b6), .val (.ref b4), .unset] [(.int (2 : Int32)), (.int (2 : Int32))])
      refine Go.of (fun t k => XS.icmpNo X42.here hx rfl (hb hby at_124) rfl (XT.ii_lt_f (by decide)) k) ?_
      show Go p e below Φ T42 (mkF m 127 #[.val (.long i0), .second, .val (.long i1), .second, .val (.int i2), .val (.long v13), .second, .val (.ref b2), .val (.ref b4), .val (.ref b6), .val (.int (1 : Int32)), .val (.int (2 : Int32)), .val (.int (1 : Int32)), .val (.ref b6), .val (.ref b4), .unset] [])
      refine Go.of (fun t k => XS.aload X42.here hx rfl (hb hby at_127) rfl rfl  k) ?_
      show Go p e below Φ T42 (mkF m 129 #[.val (.long i0), .second, .val (.long i1), .second, .val (.int i2), .val (.long v13), .second, .val (.ref b2), .val (.ref b4), .val (.ref b6), .val (.int (1 : Int32)), .val (.int (2 : Int32)), .val (.int (1 : Int32)), .val (.ref b6), .val (.ref b4), .unset] [(.ref b2)])
      refine Go.of (fun t k => XS.aload X42.here hx rfl (hb hby at_129) rfl rfl  k) ?_
      show Go p e below Φ T42 (mkF m 131 #[.val (.long i0), .second, .val (.long i1), .second, .val (.int i2), .val (.long v13), .second, .val (.ref b2), .val (.ref b4), .val (.ref b6), .val (.int (1 : Int32)), .val (.int (2 : Int32)), .val (.int (1 : Int32)), .val (.ref b6), .val (.ref b4), .unset] [(.ref b4), (.ref b2)])
      by_cases hlt : v13 < i0
      · obtain ⟨cq43, kq43, q43a, q43b, q43c⟩ := isOf hZ rfl E_b2
        obtain ⟨_, _, ⟨T43, L43, k43, n43⟩, -, X43, ⟨Lc43, hQ43, l43, y43, z43⟩, st43⟩ := X42.virtualBack hx (y := (⟨"com/example/demarq/demarq/broker/SortedMessages", "add", "(Lcom/example/demarq/demarq/broker/Message;)V"⟩ : MethodName)) (z := (⟨"com/example/demarq/demarq/broker/SortedMessages", "add", "(Lcom/example/demarq/demarq/broker/Message;)V"⟩ : MethodName)) hown (mvT hZ (hw _ (List.mem_of_getElem? (i := 33) rfl))) (mvT hZ (hw _ (List.mem_of_getElem? (i := 34) rfl))) (notFace_of_selects (args := #[]) (mvT hZ (hw _ (List.mem_of_getElem? (i := 36) rfl)))) (mvT hZ (hw _ (List.mem_of_getElem? (i := 36) rfl))) (mvT hZ (hw _ (List.mem_of_getElem? (i := 35) rfl))) (by decide) (backOf (W := 0) (rm5l l Z a0 hw [] b2 b4 b3 k3 (((0 : Int32), (.ref b6)) :: []) b6 i0 v13 T42.heap n0 Z42 F_b2_head F_b2_ring V_b3 F_b2_size E_b4 F_b4_position E_b6 F_b6_position (getH_hit (by decide) (by decide)) E_b2 g_b2 g_b3 ne_b2_b3 Ov3 (Ne.symm ne_b2_b6) (Ne.symm ne_b3_b6) (Ne.symm ne_b2_b4) (Ne.symm ne_b3_b4) hlt) hZ (hw _ (List.mem_of_getElem? (i := 37) rfl)) (hw _ (List.mem_of_getElem? (i := 2) rfl)) (by decide) (by decide)) q43a q43c (g := (mkF m 131 #[.val (.long i0), .second, .val (.long i1), .second, .val (.int i2), .val (.long v13), .second, .val (.ref b2), .val (.ref b4), .val (.ref b6), .val (.int (1 : Int32)), .val (.int (2 : Int32)), .val (.int (1 : Int32)), .val (.ref b6), .val (.ref b4), .unset] [(.ref b4), (.ref b2)])) rfl (by rw [hml]; rfl) (Steps.refl _) (argsL := [(.ref b4)]) (rest := []) (lenOf own_pd10 rfl) rfl (by show 2 * 0 + _ ≤ _; exact Nat.le_of_eq rfl) (hb hby at_131) (fun _ _ => ⟨rfl, rfl, (by decide : 4 + 0 ≤ _), (by decide : 27 + 0 ≤ _)⟩)
        dsimp only [Pt.U, Pt.locs, Pt.cells, Pt.slots] at X43 l43 y43 z43 st43 hQ43
        subst l43 y43 z43
        obtain ⟨rfl, N43q, K43q, c43_0, c43_1, c43_2, c43_3⟩ := hQ43
        have N43 := Fr.app N42 N43q
        obtain ⟨lc43, X43, N43⟩ : ∃ lc, Stand p l e room_1 s m #[(.long i0), (.long i1), (.int i2)] below meth c T43 lc 4 27 ∧ Fr n0 lc := ⟨_, X43, N43⟩
        have E_b2 := E_b2.keep K43q
        have E_b4 := E_b4.keep K43q
        have F_b4_position := F_b4_position.keep K43q (ninS (Ne.symm ne_b2_b4) (ninS (Ne.symm ne_b3_b4) nin0))
        have E_b6 := E_b6.keep K43q
        have F_b6_position := F_b6_position.keep K43q (ninS (Ne.symm ne_b2_b6) (ninS (Ne.symm ne_b3_b6) nin0))
        have F_b2_size := c43_0
        have F_b2_head := c43_1
        have F_b2_ring := c43_2
        have V_b3 : Arh Z T43.heap b3 k3 (.object "com/example/demarq/demarq/broker/Message") (16 : Int32) (((1 : Int32), (.ref b4)) :: (((0 : Int32), (.ref b6)) :: [])) [] .null := c43_3
        have Z43 := Nat.le_trans Z42 K43q.1
        refine Go.tr st43 ?_
        show Go p e below Φ T43 (mkF m 134 #[.val (.long i0), .second, .val (.long i1), .second, .val (.int i2), .val (.long v13), .second, .val (.ref b2), .val (.ref b4), .val (.ref b6), .val (.int (1 : Int32)), .val (.int (2 : Int32)), .val (.int (1 : Int32)), .val (.ref b6), .val (.ref b4), .unset] [])
        refine Go.of (fun t k => XS.iload X43.here hx rfl (hb hby at_134) rfl  k) ?_
        show Go p e below Φ T43 (mkF m 136 #[.val (.long i0), .second, .val (.long i1), .second, .val (.int i2), .val (.long v13), .second, .val (.ref b2), .val (.ref b4), .val (.ref b6), .val (.int (1 : Int32)), .val (.int (2 : Int32)), .val (.int (1 : Int32)), .val (.ref b6), .val (.ref b4), .unset] [(.int (1 : Int32))])
        refine Go.of (fun t k => XS.ifNo X43.here hx rfl (hb hby at_136) rfl (XT.i0_eq_f (by decide)) k) ?_
        show Go p e below Φ T43 (mkF m 139 #[.val (.long i0), .second, .val (.long i1), .second, .val (.int i2), .val (.long v13), .second, .val (.ref b2), .val (.ref b4), .val (.ref b6), .val (.int (1 : Int32)), .val (.int (2 : Int32)), .val (.int (1 : Int32)), .val (.ref b6), .val (.ref b4), .unset] [])
        refine Go.of (fun t k => XS.aload X43.here hx rfl (hb hby at_139) rfl rfl  k) ?_
        show Go p e below Φ T43 (mkF m 141 #[.val (.long i0), .second, .val (.long i1), .second, .val (.int i2), .val (.long v13), .second, .val (.ref b2), .val (.ref b4), .val (.ref b6), .val (.int (1 : Int32)), .val (.int (2 : Int32)), .val (.int (1 : Int32)), .val (.ref b6), .val (.ref b4), .unset] [(.ref b2)])
        obtain ⟨cq44, kq44, q44a, q44b, q44c⟩ := isOf hZ rfl E_b2
        obtain ⟨_, _, ⟨T44, L44, k44, n44⟩, -, X44, ⟨Lc44, hQ44, l44, y44, z44⟩, st44⟩ := X43.virtualBack hx (y := (⟨"com/example/demarq/demarq/broker/SortedMessages", "isEmpty", "()Z"⟩ : MethodName)) (z := (⟨"com/example/demarq/demarq/broker/SortedMessages", "isEmpty", "()Z"⟩ : MethodName)) hown (mvT hZ (hw _ (List.mem_of_getElem? (i := 26) rfl))) (mvT hZ (hw _ (List.mem_of_getElem? (i := 27) rfl))) (notFace_of_selects (args := #[]) (mvT hZ (hw _ (List.mem_of_getElem? (i := 29) rfl)))) (mvT hZ (hw _ (List.mem_of_getElem? (i := 29) rfl))) (mvT hZ (hw _ (List.mem_of_getElem? (i := 28) rfl))) (by decide) (backOf (W := 0) (rm4n l Z a0 hw [] b2 (2 : Int32) T43.heap n0 Z43 F_b2_size (by decide)) hZ (hw _ (List.mem_of_getElem? (i := 30) rfl)) (hw _ (List.mem_of_getElem? (i := 2) rfl)) (by decide) (by decide)) q44a q44c (g := (mkF m 141 #[.val (.long i0), .second, .val (.long i1), .second, .val (.int i2), .val (.long v13), .second, .val (.ref b2), .val (.ref b4), .val (.ref b6), .val (.int (1 : Int32)), .val (.int (2 : Int32)), .val (.int (1 : Int32)), .val (.ref b6), .val (.ref b4), .unset] [(.ref b2)])) rfl (by rw [hml]; rfl) (Steps.refl _) (argsL := []) (rest := []) (lenOf own_pd9 rfl) rfl (by show 2 * 0 + _ ≤ _; exact Nat.le_of_eq rfl) (hb hby at_141) (fun _ _ => ⟨rfl, rfl, (by decide : 4 + 0 ≤ _), (by decide : 27 + 0 ≤ _)⟩)
        dsimp only [Pt.U, Pt.locs, Pt.cells, Pt.slots] at X44 l44 y44 z44 st44 hQ44
        subst l44 y44 z44
        obtain ⟨rfl, N44q, e44q⟩ := hQ44
        have N44 := Fr.app N43 N44q
        obtain ⟨lc44, X44, N44⟩ : ∃ lc, Stand p l e room_1 s m #[(.long i0), (.long i1), (.int i2)] below meth c T44 lc 4 27 ∧ Fr n0 lc := ⟨_, X44, N44⟩
        refine Go.tr st44 ?_
        show Go p e below Φ T44 (mkF m 144 #[.val (.long i0), .second, .val (.long i1), .second, .val (.int i2), .val (.long v13), .second, .val (.ref b2), .val (.ref b4), .val (.ref b6), .val (.int (1 : Int32)), .val (.int (2 : Int32)), .val (.int (1 : Int32)), .val (.ref b6), .val (.ref b4), .unset] [(.int (0 : Int32))])
        refine Go.of (fun t k => XS.iload X44.here hx rfl (hb hby at_144) rfl  k) ?_
        show Go p e below Φ T44 (mkF m 146 #[.val (.long i0), .second, .val (.long i1), .second, .val (.int i2), .val (.long v13), .second, .val (.ref b2), .val (.ref b4), .val (.ref b6), .val (.int (1 : Int32)), .val (.int (2 : Int32)), .val (.int (1 : Int32)), .val (.ref b6), .val (.ref b4), .unset] [(.int (2 : Int32)), (.int (0 : Int32))])
        refine Go.of (fun t k => XS.ifYes X44.here hx rfl (pc0 := 146) (pc' := 153) rfl (hb hby at_146) rfl (XT.i0_ne_t (by decide)) (by decide) (by decide) k) ?_
        show Go p e below Φ T44 (mkF m 153 #[.val (.long i0), .second, .val (.long i1), .second, .val (.int i2), .val (.long v13), .second, .val (.ref b2), .val (.ref b4), .val (.ref b6), .val (.int (1 : Int32)), .val (.int (2 : Int32)), .val (.int (1 : Int32)), .val (.ref b6), .val (.ref b4), .unset] [(.int (0 : Int32))])
        refine Go.of (fun t k => XS.iconst X44.here hx rfl (hb hby at_153) k) ?_
        show Go p e below Φ T44 (mkF m 154 #[.val (.long i0), .second, .val (.long i1), .second, .val (.int i2), .val (.long v13), .second, .val (.ref b2), .val (.ref b4), .val (.ref b6), .val (.int (1 : Int32)), .val (.int (2 : Int32)), .val (.int (1 : Int32)), .val (.ref b6), .val (.ref b4), .unset] [(.int (0 : Int32)), (.int (0 : Int32))])
        refine Go.of (fun t k => XS.icmpNo X44.here hx rfl (hb hby at_154) rfl (XT.ii_ne_f rfl) k) ?_
        show Go p e below Φ T44 (mkF m 157 #[.val (.long i0), .second, .val (.long i1), .second, .val (.int i2), .val (.long v13), .second, .val (.ref b2), .val (.ref b4), .val (.ref b6), .val (.int (1 : Int32)), .val (.int (2 : Int32)), .val (.int (1 : Int32)), .val (.ref b6), .val (.ref b4), .unset] [])
        refine Go.of (fun t k => XS.iconst X44.here hx rfl (hb hby at_157) k) ?_
        show Go p e below Φ T44 (mkF m 158 #[.val (.long i0), .second, .val (.long i1), .second, .val (.int i2), .val (.long v13), .second, .val (.ref b2), .val (.ref b4), .val (.ref b6), .val (.int (1 : Int32)), .val (.int (2 : Int32)), .val (.int (1 : Int32)), .val (.ref b6), .val (.ref b4), .unset] [(.int (1 : Int32))])
        refine Go.of (fun t k => XS.goto X44.here hx rfl (pc0 := 158) (pc' := 162) rfl (hb hby at_158) (by decide) (by decide) k) ?_
        show Go p e below Φ T44 (mkF m 162 #[.val (.long i0), .second, .val (.long i1), .second, .val (.int i2), .val (.long v13), .second, .val (.ref b2), .val (.ref b4), .val (.ref b6), .val (.int (1 : Int32)), .val (.int (2 : Int32)), .val (.int (1 : Int32)), .val (.ref b6), .val (.ref b4), .unset] [(.int (1 : Int32))])
        refine Go.of (fun t k => XS.istore X44.here hx rfl (hb hby at_162) rfl (l' := #[.val (.long i0), .second, .val (.long i1), .second, .val (.int i2), .val (.long v13), .second, .val (.ref b2), .val (.ref b4), .val (.ref b6), .val (.int (1 : Int32)), .val (.int (2 : Int32)), .val (.int (1 : Int32)), .val (.ref b6), .val (.ref b4), .unset]) rfl k) ?_
        show Go p e below Φ T44 (mkF m 164 #[.val (.long i0), .second, .val (.long i1), .second, .val (.int i2), .val (.long v13), .second, .val (.ref b2), .val (.ref b4), .val (.ref b6), .val (.int (1 : Int32)), .val (.int (2 : Int32)), .val (.int (1 : Int32)), .val (.ref b6), .val (.ref b4), .unset] [])
        refine Go.of (fun t k => XS.iconst X44.here hx rfl (hb hby at_164) k) ?_
        show Go p e below Φ T44 (mkF m 165 #[.val (.long i0), .second, .val (.long i1), .second, .val (.int i2), .val (.long v13), .second, .val (.ref b2), .val (.ref b4), .val (.ref b6), .val (.int (1 : Int32)), .val (.int (2 : Int32)), .val (.int (1 : Int32)), .val (.ref b6), .val (.ref b4), .unset] [(.int (0 : Int32))])
        refine Go.of (fun t k => XS.istore X44.here hx rfl (hb hby at_165) rfl (l' := #[.val (.long i0), .second, .val (.long i1), .second, .val (.int i2), .val (.long v13), .second, .val (.ref b2), .val (.ref b4), .val (.ref b6), .val (.int (1 : Int32)), .val (.int (2 : Int32)), .val (.int (1 : Int32)), .val (.ref b6), .val (.ref b4), .val (.int (0 : Int32))]) rfl k) ?_
        show Go p e below Φ T44 (mkF m 167 #[.val (.long i0), .second, .val (.long i1), .second, .val (.int i2), .val (.long v13), .second, .val (.ref b2), .val (.ref b4), .val (.ref b6), .val (.int (1 : Int32)), .val (.int (2 : Int32)), .val (.int (1 : Int32)), .val (.ref b6), .val (.ref b4), .val (.int (0 : Int32))] [])
        refine Go.of (fun t k => XS.iload X44.here hx rfl (hb hby at_167) rfl  k) ?_
        show Go p e below Φ T44 (mkF m 169 #[.val (.long i0), .second, .val (.long i1), .second, .val (.int i2), .val (.long v13), .second, .val (.ref b2), .val (.ref b4), .val (.ref b6), .val (.int (1 : Int32)), .val (.int (2 : Int32)), .val (.int (1 : Int32)), .val (.ref b6), .val (.ref b4), .val (.int (0 : Int32))] [(.int (2 : Int32))])
        refine Go.of (fun t k => XS.iconst X44.here hx rfl (hb hby at_169) k) ?_
        show Go p e below Φ T44 (mkF m 170 #[.val (.long i0), .second, .val (.long i1), .second, .val (.int i2), .val (.long v13), .second, .val (.ref b2), .val (.ref b4), .val (.ref b6), .val (.int (1 : Int32)), .val (.int (2 : Int32)), .val (.int (1 : Int32)), .val (.ref b6), .val (.ref b4), .val (.int (0 : Int32))] [(.int (1 : Int32)), (.int (2 : Int32))])
        refine Go.of (fun t k => XS.icmpNo X44.here hx rfl (hb hby at_170) rfl (XT.ii_lt_f (by decide)) k) ?_
        show Go p e below Φ T44 (mkF m 173 #[.val (.long i0), .second, .val (.long i1), .second, .val (.int i2), .val (.long v13), .second, .val (.ref b2), .val (.ref b4), .val (.ref b6), .val (.int (1 : Int32)), .val (.int (2 : Int32)), .val (.int (1 : Int32)), .val (.ref b6), .val (.ref b4), .val (.int (0 : Int32))] [])
        refine Go.of (fun t k => XS.iload X44.here hx rfl (hb hby at_173) rfl  k) ?_
        show Go p e below Φ T44 (mkF m 175 #[.val (.long i0), .second, .val (.long i1), .second, .val (.int i2), .val (.long v13), .second, .val (.ref b2), .val (.ref b4), .val (.ref b6), .val (.int (1 : Int32)), .val (.int (2 : Int32)), .val (.int (1 : Int32)), .val (.ref b6), .val (.ref b4), .val (.int (0 : Int32))] [(.int i2)])
        refine Go.of (fun t k => XS.iconst X44.here hx rfl (hb hby at_175) k) ?_
        show Go p e below Φ T44 (mkF m 176 #[.val (.long i0), .second, .val (.long i1), .second, .val (.int i2), .val (.long v13), .second, .val (.ref b2), .val (.ref b4), .val (.ref b6), .val (.int (1 : Int32)), .val (.int (2 : Int32)), .val (.int (1 : Int32)), .val (.ref b6), .val (.ref b4), .val (.int (0 : Int32))] [(.int (2 : Int32)), (.int i2)])
        refine Go.of (fun t k => XS.iushr X44.here hx rfl (hb hby at_176) rfl k) ?_
        show Go p e below Φ T44 (mkF m 177 #[.val (.long i0), .second, .val (.long i1), .second, .val (.int i2), .val (.long v13), .second, .val (.ref b2), .val (.ref b4), .val (.ref b6), .val (.int (1 : Int32)), .val (.int (2 : Int32)), .val (.int (1 : Int32)), .val (.ref b6), .val (.ref b4), .val (.int (0 : Int32))] [(.int (own_ushr i2 (2 : Int32)))])
        refine Go.of (fun t k => XS.iconst X44.here hx rfl (hb hby at_177) k) ?_
        show Go p e below Φ T44 (mkF m 178 #[.val (.long i0), .second, .val (.long i1), .second, .val (.int i2), .val (.long v13), .second, .val (.ref b2), .val (.ref b4), .val (.ref b6), .val (.int (1 : Int32)), .val (.int (2 : Int32)), .val (.int (1 : Int32)), .val (.ref b6), .val (.ref b4), .val (.int (0 : Int32))] [(.int (1 : Int32)), (.int (own_ushr i2 (2 : Int32)))])
        refine Go.of (fun t k => XS.iand X44.here hx rfl (hb hby at_178) rfl k) ?_
        show Go p e below Φ T44 (mkF m 179 #[.val (.long i0), .second, .val (.long i1), .second, .val (.int i2), .val (.long v13), .second, .val (.ref b2), .val (.ref b4), .val (.ref b6), .val (.int (1 : Int32)), .val (.int (2 : Int32)), .val (.int (1 : Int32)), .val (.ref b6), .val (.ref b4), .val (.int (0 : Int32))] [(.int ((own_ushr i2 (2 : Int32)) &&& (1 : Int32)))])
        by_cases hc179 : ((own_ushr i2 (2 : Int32)) &&& (1 : Int32)) = (0 : Int32)
        · refine Go.of (fun t k => XS.ifYes X44.here hx rfl (pc0 := 179) (pc' := 192) rfl (hb hby at_179) rfl (XT.i0_eq_t hc179) (by decide) (by decide) k) ?_
          show Go p e below Φ T44 (mkF m 192 #[.val (.long i0), .second, .val (.long i1), .second, .val (.int i2), .val (.long v13), .second, .val (.ref b2), .val (.ref b4), .val (.ref b6), .val (.int (1 : Int32)), .val (.int (2 : Int32)), .val (.int (1 : Int32)), .val (.ref b6), .val (.ref b4), .val (.int (0 : Int32))] [])
          refine Go.of (fun t k => XS.iload X44.here hx rfl (hb hby at_192) rfl  k) ?_
          show Go p e below Φ T44 (mkF m 194 #[.val (.long i0), .second, .val (.long i1), .second, .val (.int i2), .val (.long v13), .second, .val (.ref b2), .val (.ref b4), .val (.ref b6), .val (.int (1 : Int32)), .val (.int (2 : Int32)), .val (.int (1 : Int32)), .val (.ref b6), .val (.ref b4), .val (.int (0 : Int32))] [(.int (2 : Int32))])
          refine Go.of (fun t k => XS.iconst X44.here hx rfl (hb hby at_194) k) ?_
          show Go p e below Φ T44 (mkF m 195 #[.val (.long i0), .second, .val (.long i1), .second, .val (.int i2), .val (.long v13), .second, .val (.ref b2), .val (.ref b4), .val (.ref b6), .val (.int (1 : Int32)), .val (.int (2 : Int32)), .val (.int (1 : Int32)), .val (.ref b6), .val (.ref b4), .val (.int (0 : Int32))] [(.int (2 : Int32)), (.int (2 : Int32))])
          refine Go.of (fun t k => XS.icmpNo X44.here hx rfl (hb hby at_195) rfl (XT.ii_lt_f (by decide)) k) ?_
          show Go p e below Φ T44 (mkF m 198 #[.val (.long i0), .second, .val (.long i1), .second, .val (.int i2), .val (.long v13), .second, .val (.ref b2), .val (.ref b4), .val (.ref b6), .val (.int (1 : Int32)), .val (.int (2 : Int32)), .val (.int (1 : Int32)), .val (.ref b6), .val (.ref b4), .val (.int (0 : Int32))] [])
          refine Go.of (fun t k => XS.iload X44.here hx rfl (hb hby at_198) rfl  k) ?_
          show Go p e below Φ T44 (mkF m 200 #[.val (.long i0), .second, .val (.long i1), .second, .val (.int i2), .val (.long v13), .second, .val (.ref b2), .val (.ref b4), .val (.ref b6), .val (.int (1 : Int32)), .val (.int (2 : Int32)), .val (.int (1 : Int32)), .val (.ref b6), .val (.ref b4), .val (.int (0 : Int32))] [(.int i2)])
          refine Go.of (fun t k => XS.iconst X44.here hx rfl (hb hby at_200) k) ?_
          show Go p e below Φ T44 (mkF m 201 #[.val (.long i0), .second, .val (.long i1), .second, .val (.int i2), .val (.long v13), .second, .val (.ref b2), .val (.ref b4), .val (.ref b6), .val (.int (1 : Int32)), .val (.int (2 : Int32)), .val (.int (1 : Int32)), .val (.ref b6), .val (.ref b4), .val (.int (0 : Int32))] [(.int (3 : Int32)), (.int i2)])
          refine Go.of (fun t k => XS.iushr X44.here hx rfl (hb hby at_201) rfl k) ?_
          show Go p e below Φ T44 (mkF m 202 #[.val (.long i0), .second, .val (.long i1), .second, .val (.int i2), .val (.long v13), .second, .val (.ref b2), .val (.ref b4), .val (.ref b6), .val (.int (1 : Int32)), .val (.int (2 : Int32)), .val (.int (1 : Int32)), .val (.ref b6), .val (.ref b4), .val (.int (0 : Int32))] [(.int (own_ushr i2 (3 : Int32)))])
          refine Go.of (fun t k => XS.iconst X44.here hx rfl (hb hby at_202) k) ?_
          show Go p e below Φ T44 (mkF m 203 #[.val (.long i0), .second, .val (.long i1), .second, .val (.int i2), .val (.long v13), .second, .val (.ref b2), .val (.ref b4), .val (.ref b6), .val (.int (1 : Int32)), .val (.int (2 : Int32)), .val (.int (1 : Int32)), .val (.ref b6), .val (.ref b4), .val (.int (0 : Int32))] [(.int (1 : Int32)), (.int (own_ushr i2 (3 : Int32)))])
          refine Go.of (fun t k => XS.iand X44.here hx rfl (hb hby at_203) rfl k) ?_
          show Go p e below Φ T44 (mkF m 204 #[.val (.long i0), .second, .val (.long i1), .second, .val (.int i2), .val (.long v13), .second, .val (.ref b2), .val (.ref b4), .val (.ref b6), .val (.int (1 : Int32)), .val (.int (2 : Int32)), .val (.int (1 : Int32)), .val (.ref b6), .val (.ref b4), .val (.int (0 : Int32))] [(.int ((own_ushr i2 (3 : Int32)) &&& (1 : Int32)))])
          by_cases hc204 : ((own_ushr i2 (3 : Int32)) &&& (1 : Int32)) = (0 : Int32)
          · refine Go.of (fun t k => XS.ifYes X44.here hx rfl (pc0 := 204) (pc' := 217) rfl (hb hby at_204) rfl (XT.i0_eq_t hc204) (by decide) (by decide) k) ?_
            show Go p e below Φ T44 (mkF m 217 #[.val (.long i0), .second, .val (.long i1), .second, .val (.int i2), .val (.long v13), .second, .val (.ref b2), .val (.ref b4), .val (.ref b6), .val (.int (1 : Int32)), .val (.int (2 : Int32)), .val (.int (1 : Int32)), .val (.ref b6), .val (.ref b4), .val (.int (0 : Int32))] [])
            refine Go.of (fun t k => XS.iload X44.here hx rfl (hb hby at_217) rfl  k) ?_
            show Go p e below Φ T44 (mkF m 219 #[.val (.long i0), .second, .val (.long i1), .second, .val (.int i2), .val (.long v13), .second, .val (.ref b2), .val (.ref b4), .val (.ref b6), .val (.int (1 : Int32)), .val (.int (2 : Int32)), .val (.int (1 : Int32)), .val (.ref b6), .val (.ref b4), .val (.int (0 : Int32))] [(.int (1 : Int32))])
            refine Go.of (fun t k => XS.ifNo X44.here hx rfl (hb hby at_219) rfl (XT.i0_eq_f (by decide)) k) ?_
            show Go p e below Φ T44 (mkF m 222 #[.val (.long i0), .second, .val (.long i1), .second, .val (.int i2), .val (.long v13), .second, .val (.ref b2), .val (.ref b4), .val (.ref b6), .val (.int (1 : Int32)), .val (.int (2 : Int32)), .val (.int (1 : Int32)), .val (.ref b6), .val (.ref b4), .val (.int (0 : Int32))] [])
            refine Go.of (fun t k => XS.aload X44.here hx rfl (hb hby at_222) rfl rfl  k) ?_
            show Go p e below Φ T44 (mkF m 224 #[.val (.long i0), .second, .val (.long i1), .second, .val (.int i2), .val (.long v13), .second, .val (.ref b2), .val (.ref b4), .val (.ref b6), .val (.int (1 : Int32)), .val (.int (2 : Int32)), .val (.int (1 : Int32)), .val (.ref b6), .val (.ref b4), .val (.int (0 : Int32))] [(.ref b2)])
            obtain ⟨cq45, kq45, q45a, q45b, q45c⟩ := isOf hZ (e44q) E_b2
            obtain ⟨_, _, ⟨T45, L45, k45, n45⟩, -, X45, ⟨Lc45, hQ45, l45, y45, z45⟩, st45⟩ := X44.virtualBack hx (y := (⟨"com/example/demarq/demarq/broker/SortedMessages", "isEmpty", "()Z"⟩ : MethodName)) (z := (⟨"com/example/demarq/demarq/broker/SortedMessages", "isEmpty", "()Z"⟩ : MethodName)) hown (mvT hZ (hw _ (List.mem_of_getElem? (i := 26) rfl))) (mvT hZ (hw _ (List.mem_of_getElem? (i := 27) rfl))) (notFace_of_selects (args := #[]) (mvT hZ (hw _ (List.mem_of_getElem? (i := 29) rfl)))) (mvT hZ (hw _ (List.mem_of_getElem? (i := 29) rfl))) (mvT hZ (hw _ (List.mem_of_getElem? (i := 28) rfl))) (by decide) (backOf (W := 0) (rm4n l Z a0 hw [] b2 (2 : Int32) T43.heap n0 Z43 F_b2_size (by decide)) hZ (hw _ (List.mem_of_getElem? (i := 30) rfl)) (hw _ (List.mem_of_getElem? (i := 2) rfl)) (by decide) (by decide)) q45a q45c (g := (mkF m 224 #[.val (.long i0), .second, .val (.long i1), .second, .val (.int i2), .val (.long v13), .second, .val (.ref b2), .val (.ref b4), .val (.ref b6), .val (.int (1 : Int32)), .val (.int (2 : Int32)), .val (.int (1 : Int32)), .val (.ref b6), .val (.ref b4), .val (.int (0 : Int32))] [(.ref b2)])) rfl (by rw [hml]; rfl) (Steps.refl _) (argsL := []) (rest := []) (lenOf own_pd9 rfl) rfl (by show 2 * 0 + _ ≤ _; exact Nat.le_of_eq rfl) (hb hby at_224) (fun _ _ => ⟨rfl, (e44q), (by decide : 4 + 0 ≤ _), (by decide : 27 + 0 ≤ _)⟩)
            dsimp only [Pt.U, Pt.locs, Pt.cells, Pt.slots] at X45 l45 y45 z45 st45 hQ45
            subst l45 y45 z45
            obtain ⟨rfl, N45q, e45q⟩ := hQ45
            have N45 := Fr.app N44 N45q
            obtain ⟨lc45, X45, N45⟩ : ∃ lc, Stand p l e room_1 s m #[(.long i0), (.long i1), (.int i2)] below meth c T45 lc 4 27 ∧ Fr n0 lc := ⟨_, X45, N45⟩
            refine Go.tr st45 ?_
            show Go p e below Φ T45 (mkF m 227 #[.val (.long i0), .second, .val (.long i1), .second, .val (.int i2), .val (.long v13), .second, .val (.ref b2), .val (.ref b4), .val (.ref b6), .val (.int (1 : Int32)), .val (.int (2 : Int32)), .val (.int (1 : Int32)), .val (.ref b6), .val (.ref b4), .val (.int (0 : Int32))] [(.int (0 : Int32))])
            refine Go.of (fun t k => XS.iload X45.here hx rfl (hb hby at_227) rfl  k) ?_
            show Go p e below Φ T45 (mkF m 229 #[.val (.long i0), .second, .val (.long i1), .second, .val (.int i2), .val (.long v13), .second, .val (.ref b2), .val (.ref b4), .val (.ref b6), .val (.int (1 : Int32)), .val (.int (2 : Int32)), .val (.int (1 : Int32)), .val (.ref b6), .val (.ref b4), .val (.int (0 : Int32))] [(.int (2 : Int32)), (.int (0 : Int32))])
            refine Go.of (fun t k => XS.iload X45.here hx rfl (hb hby at_229) rfl  k) ?_
            show Go p e below Φ T45 (mkF m 231 #[.val (.long i0), .second, .val (.long i1), .second, .val (.int i2), .val (.long v13), .second, .val (.ref b2), .val (.ref b4), .val (.ref b6), .val (.int (1 : Int32)), .val (.int (2 : Int32)), .val (.int (1 : Int32)), .val (.ref b6), .val (.ref b4), .val (.int (0 : Int32))] [(.int (0 : Int32)), (.int (2 : Int32)), (.int (0 : Int32))])
            refine Go.of (fun t k => XS.isub X45.here hx rfl (hb hby at_231) rfl k) ?_
            show Go p e below Φ T45 (mkF m 232 #[.val (.long i0), .second, .val (.long i1), .second, .val (.int i2), .val (.long v13), .second, .val (.ref b2), .val (.ref b4), .val (.ref b6), .val (.int (1 : Int32)), .val (.int (2 : Int32)), .val (.int (1 : Int32)), .val (.ref b6), .val (.ref b4), .val (.int (0 : Int32))] [(.int (2 : Int32)), (.int (0 : Int32))])
            refine Go.of (fun t k => XS.ifYes X45.here hx rfl (pc0 := 232) (pc' := 239) rfl (hb hby at_232) rfl (XT.i0_ne_t (by decide)) (by decide) (by decide) k) ?_
            show Go p e below Φ T45 (mkF m 239 #[.val (.long i0), .second, .val (.long i1), .second, .val (.int i2), .val (.long v13), .second, .val (.ref b2), .val (.ref b4), .val (.ref b6), .val (.int (1 : Int32)), .val (.int (2 : Int32)), .val (.int (1 : Int32)), .val (.ref b6), .val (.ref b4), .val (.int (0 : Int32))] [(.int (0 : Int32))])
            refine Go.of (fun t k => XS.iconst X45.here hx rfl (hb hby at_239) k) ?_
            show Go p e below Φ T45 (mkF m 240 #[.val (.long i0), .second, .val (.long i1), .second, .val (.int i2), .val (.long v13), .second, .val (.ref b2), .val (.ref b4), .val (.ref b6), .val (.int (1 : Int32)), .val (.int (2 : Int32)), .val (.int (1 : Int32)), .val (.ref b6), .val (.ref b4), .val (.int (0 : Int32))] [(.int (0 : Int32)), (.int (0 : Int32))])
            refine Go.of (fun t k => XS.icmpNo X45.here hx rfl (hb hby at_240) rfl (XT.ii_ne_f rfl) k) ?_
            show Go p e below Φ T45 (mkF m 243 #[.val (.long i0), .second, .val (.long i1), .second, .val (.int i2), .val (.long v13), .second, .val (.ref b2), .val (.ref b4), .val (.ref b6), .val (.int (1 : Int32)), .val (.int (2 : Int32)), .val (.int (1 : Int32)), .val (.ref b6), .val (.ref b4), .val (.int (0 : Int32))] [])
            refine Go.of (fun t k => XS.iconst X45.here hx rfl (hb hby at_243) k) ?_
            show Go p e below Φ T45 (mkF m 244 #[.val (.long i0), .second, .val (.long i1), .second, .val (.int i2), .val (.long v13), .second, .val (.ref b2), .val (.ref b4), .val (.ref b6), .val (.int (1 : Int32)), .val (.int (2 : Int32)), .val (.int (1 : Int32)), .val (.ref b6), .val (.ref b4), .val (.int (0 : Int32))] [(.int (1 : Int32))])
            refine Go.of (fun t k => XS.goto X45.here hx rfl (pc0 := 244) (pc' := 248) rfl (hb hby at_244) (by decide) (by decide) k) ?_
            show Go p e below Φ T45 (mkF m 248 #[.val (.long i0), .second, .val (.long i1), .second, .val (.int i2), .val (.long v13), .second, .val (.ref b2), .val (.ref b4), .val (.ref b6), .val (.int (1 : Int32)), .val (.int (2 : Int32)), .val (.int (1 : Int32)), .val (.ref b6), .val (.ref b4), .val (.int (0 : Int32))] [(.int (1 : Int32))])
            refine Go.of (fun t k => XS.istore X45.here hx rfl (hb hby at_248) rfl (l' := #[.val (.long i0), .second, .val (.long i1), .second, .val (.int i2), .val (.long v13), .second, .val (.ref b2), .val (.ref b4), .val (.ref b6), .val (.int (1 : Int32)), .val (.int (2 : Int32)), .val (.int (1 : Int32)), .val (.ref b6), .val (.ref b4), .val (.int (0 : Int32))]) rfl k) ?_
            show Go p e below Φ T45 (mkF m 250 #[.val (.long i0), .second, .val (.long i1), .second, .val (.int i2), .val (.long v13), .second, .val (.ref b2), .val (.ref b4), .val (.ref b6), .val (.int (1 : Int32)), .val (.int (2 : Int32)), .val (.int (1 : Int32)), .val (.ref b6), .val (.ref b4), .val (.int (0 : Int32))] [])
            refine Go.of (fun t k => XS.iload X45.here hx rfl (hb hby at_250) rfl  k) ?_
            show Go p e below Φ T45 (mkF m 252 #[.val (.long i0), .second, .val (.long i1), .second, .val (.int i2), .val (.long v13), .second, .val (.ref b2), .val (.ref b4), .val (.ref b6), .val (.int (1 : Int32)), .val (.int (2 : Int32)), .val (.int (1 : Int32)), .val (.ref b6), .val (.ref b4), .val (.int (0 : Int32))] [(.int (1 : Int32))])
            rw [hΦ]
            refine Go.ret X45 hx Bd.notSynchronized Bd.returns rfl (Or.inl ⟨rfl, Or.inr (Or.inl rfl), _, rfl⟩) (hb hby at_252) (by decide) (by decide) ?_
            rw [(e45q)]
            exact ⟨rfl, N45⟩
          · refine Go.of (fun t k => XS.ifNo X44.here hx rfl (hb hby at_204) rfl (XT.i0_eq_f hc204) k) ?_
            show Go p e below Φ T44 (mkF m 207 #[.val (.long i0), .second, .val (.long i1), .second, .val (.int i2), .val (.long v13), .second, .val (.ref b2), .val (.ref b4), .val (.ref b6), .val (.int (1 : Int32)), .val (.int (2 : Int32)), .val (.int (1 : Int32)), .val (.ref b6), .val (.ref b4), .val (.int (0 : Int32))] [])
            refine Go.of (fun t k => XS.aload X44.here hx rfl (hb hby at_207) rfl rfl  k) ?_
            show Go p e below Φ T44 (mkF m 209 #[.val (.long i0), .second, .val (.long i1), .second, .val (.int i2), .val (.long v13), .second, .val (.ref b2), .val (.ref b4), .val (.ref b6), .val (.int (1 : Int32)), .val (.int (2 : Int32)), .val (.int (1 : Int32)), .val (.ref b6), .val (.ref b4), .val (.int (0 : Int32))] [(.ref b2)])
            refine Go.of (fun t k => XS.aload X44.here hx rfl (hb hby at_209) rfl rfl  k) ?_
            show Go p e below Φ T44 (mkF m 211 #[.val (.long i0), .second, .val (.long i1), .second, .val (.int i2), .val (.long v13), .second, .val (.ref b2), .val (.ref b4), .val (.ref b6), .val (.int (1 : Int32)), .val (.int (2 : Int32)), .val (.int (1 : Int32)), .val (.ref b6), .val (.ref b4), .val (.int (0 : Int32))] [(.ref b4), (.ref b2)])
            obtain ⟨cq46, kq46, q46a, q46b, q46c⟩ := isOf hZ (e44q) E_b2
            obtain ⟨_, _, ⟨T46, L46, k46, n46⟩, -, X46, ⟨Lc46, hQ46, l46, y46, z46⟩, st46⟩ := X44.virtualBack hx (y := (⟨"com/example/demarq/demarq/broker/SortedMessages", "remove", "(Lcom/example/demarq/demarq/broker/Message;)V"⟩ : MethodName)) (z := (⟨"com/example/demarq/demarq/broker/SortedMessages", "remove", "(Lcom/example/demarq/demarq/broker/Message;)V"⟩ : MethodName)) hown (mvT hZ (hw _ (List.mem_of_getElem? (i := 49) rfl))) (mvT hZ (hw _ (List.mem_of_getElem? (i := 50) rfl))) (notFace_of_selects (args := #[]) (mvT hZ (hw _ (List.mem_of_getElem? (i := 52) rfl)))) (mvT hZ (hw _ (List.mem_of_getElem? (i := 52) rfl))) (mvT hZ (hw _ (List.mem_of_getElem? (i := 51) rfl))) (by decide) (backOf (W := 0) (rm8y l Z a0 hw [] b2 b4 b3 k3 (((1 : Int32), (.ref b4)) :: (((0 : Int32), (.ref b6)) :: [])) b6 (0 : Int32) v13 i0 T43.heap n0 Z43 F_b2_head F_b2_ring V_b3 E_b2 g_b2 g_b3 ne_b2_b3 F_b2_size ⟨by decide, by decide⟩ (getH_miss (by decide) (by decide) (getH_hit (by decide) (by decide))) E_b6 F_b6_position ⟨by decide, by decide⟩ (getH_hit (by decide) (by decide)) E_b4 F_b4_position hlt (Ne.symm ne_b2_b6) (Ne.symm ne_b3_b6) (Ne.symm ne_b2_b4) (Ne.symm ne_b3_b4)) hZ (hw _ (List.mem_of_getElem? (i := 53) rfl)) (hw _ (List.mem_of_getElem? (i := 2) rfl)) (by decide) (by decide)) q46a q46c (g := (mkF m 211 #[.val (.long i0), .second, .val (.long i1), .second, .val (.int i2), .val (.long v13), .second, .val (.ref b2), .val (.ref b4), .val (.ref b6), .val (.int (1 : Int32)), .val (.int (2 : Int32)), .val (.int (1 : Int32)), .val (.ref b6), .val (.ref b4), .val (.int (0 : Int32))] [(.ref b4), (.ref b2)])) rfl (by rw [hml]; rfl) (Steps.refl _) (argsL := [(.ref b4)]) (rest := []) (lenOf own_pd10 rfl) rfl (by show 2 * 0 + _ ≤ _; exact Nat.le_of_eq rfl) (hb hby at_211) (fun _ _ => ⟨rfl, (e44q), (by decide : 4 + 1 ≤ _), (by decide : 27 + 2 ≤ _)⟩)
            dsimp only [Pt.U, Pt.locs, Pt.cells, Pt.slots] at X46 l46 y46 z46 st46 hQ46
            subst l46 y46 z46
            obtain ⟨rfl, N46q, K46q, c46_0, c46_1, c46_2, c46_3⟩ := hQ46
            have N46 := Fr.app N44 N46q
            obtain ⟨lc46, X46, N46⟩ : ∃ lc, Stand p l e room_1 s m #[(.long i0), (.long i1), (.int i2)] below meth c T46 lc 5 29 ∧ Fr n0 lc := ⟨_, X46, N46⟩
            have E_b2 := E_b2.keep K46q
            have E_b4 := E_b4.keep K46q
            have F_b4_position := F_b4_position.keep K46q (ninS (Ne.symm ne_b2_b4) (ninS (Ne.symm ne_b3_b4) nin0))
            have E_b6 := E_b6.keep K46q
            have F_b6_position := F_b6_position.keep K46q (ninS (Ne.symm ne_b2_b6) (ninS (Ne.symm ne_b3_b6) nin0))
            have F_b2_size := c46_0
            have F_b2_head := c46_1
            have F_b2_ring := c46_2
            have V_b3 : Arh Z T46.heap b3 k3 (.object "com/example/demarq/demarq/broker/Message") (16 : Int32) (((1 : Int32), .null) :: (((1 : Int32), (.ref b4)) :: (((0 : Int32), (.ref b6)) :: []))) [] .null := c46_3
            have Z46 := Nat.le_trans Z43 K46q.1
            refine Go.tr st46 ?_
            show Go p e below Φ T46 (mkF m 214 #[.val (.long i0), .second, .val (.long i1), .second, .val (.int i2), .val (.long v13), .second, .val (.ref b2), .val (.ref b4), .val (.ref b6), .val (.int (1 : Int32)), .val (.int (2 : Int32)), .val (.int (1 : Int32)), .val (.ref b6), .val (.ref b4), .val (.int (0 : Int32))] [])
            refine Go.of (fun t k => XS.iinc X46.here hx rfl (hb hby at_214) rfl (l' := #[.val (.long i0), .second, .val (.long i1), .second, .val (.int i2), .val (.long v13), .second, .val (.ref b2), .val (.ref b4), .val (.ref b6), .val (.int (1 : Int32)), .val (.int (2 : Int32)), .val (.int (1 : Int32)), .val (.ref b6), .val (.ref b4), .val (.int (1 : Int32))]) rfl k) ?_
            show Go p e below Φ T46 (mkF m 217 #[.val (.long i0), .second, .val (.long i1), .second, .val (.int i2), .val (.long v13), .second, .val (.ref b2), .val (.ref b4), .val (.ref b6), .val (.int (1 : Int32)), .val (.int (2 : Int32)), .val (.int (1 : Int32)), .val (.ref b6), .val (.ref b4), .val (.int (1 : Int32))] [])
            refine Go.of (fun t k => XS.iload X46.here hx rfl (hb hby at_217) rfl  k) ?_
            show Go p e below Φ T46 (mkF m 219 #[.val (.long i0), .second, .val (.long i1), .second, .val (.int i2), .val (.long v13), .second, .val (.ref b2), .val (.ref b4), .val (.ref b6), .val (.int (1 : Int32)), .val (.int (2 : Int32)), .val (.int (1 : Int32)), .val (.ref b6), .val (.ref b4), .val (.int (1 : Int32))] [(.int (1 : Int32))])
            refine Go.of (fun t k => XS.ifNo X46.here hx rfl (hb hby at_219) rfl (XT.i0_eq_f (by decide)) k) ?_
            show Go p e below Φ T46 (mkF m 222 #[.val (.long i0), .second, .val (.long i1), .second, .val (.int i2), .val (.long v13), .second, .val (.ref b2), .val (.ref b4), .val (.ref b6), .val (.int (1 : Int32)), .val (.int (2 : Int32)), .val (.int (1 : Int32)), .val (.ref b6), .val (.ref b4), .val (.int (1 : Int32))] [])
            refine Go.of (fun t k => XS.aload X46.here hx rfl (hb hby at_222) rfl rfl  k) ?_
            show Go p e below Φ T46 (mkF m 224 #[.val (.long i0), .second, .val (.long i1), .second, .val (.int i2), .val (.long v13), .second, .val (.ref b2), .val (.ref b4), .val (.ref b6), .val (.int (1 : Int32)), .val (.int (2 : Int32)), .val (.int (1 : Int32)), .val (.ref b6), .val (.ref b4), .val (.int (1 : Int32))] [(.ref b2)])
            obtain ⟨cq47, kq47, q47a, q47b, q47c⟩ := isOf hZ rfl E_b2
            obtain ⟨_, _, ⟨T47, L47, k47, n47⟩, -, X47, ⟨Lc47, hQ47, l47, y47, z47⟩, st47⟩ := X46.virtualBack hx (y := (⟨"com/example/demarq/demarq/broker/SortedMessages", "isEmpty", "()Z"⟩ : MethodName)) (z := (⟨"com/example/demarq/demarq/broker/SortedMessages", "isEmpty", "()Z"⟩ : MethodName)) hown (mvT hZ (hw _ (List.mem_of_getElem? (i := 26) rfl))) (mvT hZ (hw _ (List.mem_of_getElem? (i := 27) rfl))) (notFace_of_selects (args := #[]) (mvT hZ (hw _ (List.mem_of_getElem? (i := 29) rfl)))) (mvT hZ (hw _ (List.mem_of_getElem? (i := 29) rfl))) (mvT hZ (hw _ (List.mem_of_getElem? (i := 28) rfl))) (by decide) (backOf (W := 0) (rm4n l Z a0 hw [] b2 (1 : Int32) T46.heap n0 Z46 F_b2_size (by decide)) hZ (hw _ (List.mem_of_getElem? (i := 30) rfl)) (hw _ (List.mem_of_getElem? (i := 2) rfl)) (by decide) (by decide)) q47a q47c (g := (mkF m 224 #[.val (.long i0), .second, .val (.long i1), .second, .val (.int i2), .val (.long v13), .second, .val (.ref b2), .val (.ref b4), .val (.ref b6), .val (.int (1 : Int32)), .val (.int (2 : Int32)), .val (.int (1 : Int32)), .val (.ref b6), .val (.ref b4), .val (.int (1 : Int32))] [(.ref b2)])) rfl (by rw [hml]; rfl) (Steps.refl _) (argsL := []) (rest := []) (lenOf own_pd9 rfl) rfl (by show 2 * 0 + _ ≤ _; exact Nat.le_of_eq rfl) (hb hby at_224) (fun _ _ => ⟨rfl, rfl, (by decide : 5 + 0 ≤ _), (by decide : 29 + 0 ≤ _)⟩)
            dsimp only [Pt.U, Pt.locs, Pt.cells, Pt.slots] at X47 l47 y47 z47 st47 hQ47
            subst l47 y47 z47
            obtain ⟨rfl, N47q, e47q⟩ := hQ47
            have N47 := Fr.app N46 N47q
            obtain ⟨lc47, X47, N47⟩ : ∃ lc, Stand p l e room_1 s m #[(.long i0), (.long i1), (.int i2)] below meth c T47 lc 5 29 ∧ Fr n0 lc := ⟨_, X47, N47⟩
            refine Go.tr st47 ?_
            show Go p e below Φ T47 (mkF m 227 #[.val (.long i0), .second, .val (.long i1), .second, .val (.int i2), .val (.long v13), .second, .val (.ref b2), .val (.ref b4), .val (.ref b6), .val (.int (1 : Int32)), .val (.int (2 : Int32)), .val (.int (1 : Int32)), .val (.ref b6), .val (.ref b4), .val (.int (1 : Int32))] [(.int (0 : Int32))])
            refine Go.of (fun t k => XS.iload X47.here hx rfl (hb hby at_227) rfl  k) ?_
            show Go p e below Φ T47 (mkF m 229 #[.val (.long i0), .second, .val (.long i1), .second, .val (.int i2), .val (.long v13), .second, .val (.ref b2), .val (.ref b4), .val (.ref b6), .val (.int (1 : Int32)), .val (.int (2 : Int32)), .val (.int (1 : Int32)), .val (.ref b6), .val (.ref b4), .val (.int (1 : Int32))] [(.int (2 : Int32)), (.int (0 : Int32))])
            refine Go.of (fun t k => XS.iload X47.here hx rfl (hb hby at_229) rfl  k) ?_
            show Go p e below Φ T47 (mkF m 231 #[.val (.long i0), .second, .val (.long i1), .second, .val (.int i2), .val (.long v13), .second, .val (.ref b2), .val (.ref b4), .val (.ref b6), .val (.int (1 : Int32)), .val (.int (2 : Int32)), .val (.int (1 : Int32)), .val (.ref b6), .val (.ref b4), .val (.int (1 : Int32))] [(.int (1 : Int32)), (.int (2 : Int32)), (.int (0 : Int32))])
            refine Go.of (fun t k => XS.isub X47.here hx rfl (hb hby at_231) rfl k) ?_
            show Go p e below Φ T47 (mkF m 232 #[.val (.long i0), .second, .val (.long i1), .second, .val (.int i2), .val (.long v13), .second, .val (.ref b2), .val (.ref b4), .val (.ref b6), .val (.int (1 : Int32)), .val (.int (2 : Int32)), .val (.int (1 : Int32)), .val (.ref b6), .val (.ref b4), .val (.int (1 : Int32))] [(.int (1 : Int32)), (.int (0 : Int32))])
            refine Go.of (fun t k => XS.ifYes X47.here hx rfl (pc0 := 232) (pc' := 239) rfl (hb hby at_232) rfl (XT.i0_ne_t (by decide)) (by decide) (by decide) k) ?_
            show Go p e below Φ T47 (mkF m 239 #[.val (.long i0), .second, .val (.long i1), .second, .val (.int i2), .val (.long v13), .second, .val (.ref b2), .val (.ref b4), .val (.ref b6), .val (.int (1 : Int32)), .val (.int (2 : Int32)), .val (.int (1 : Int32)), .val (.ref b6), .val (.ref b4), .val (.int (1 : Int32))] [(.int (0 : Int32))])
            refine Go.of (fun t k => XS.iconst X47.here hx rfl (hb hby at_239) k) ?_
            show Go p e below Φ T47 (mkF m 240 #[.val (.long i0), .second, .val (.long i1), .second, .val (.int i2), .val (.long v13), .second, .val (.ref b2), .val (.ref b4), .val (.ref b6), .val (.int (1 : Int32)), .val (.int (2 : Int32)), .val (.int (1 : Int32)), .val (.ref b6), .val (.ref b4), .val (.int (1 : Int32))] [(.int (0 : Int32)), (.int (0 : Int32))])
            refine Go.of (fun t k => XS.icmpNo X47.here hx rfl (hb hby at_240) rfl (XT.ii_ne_f rfl) k) ?_
            show Go p e below Φ T47 (mkF m 243 #[.val (.long i0), .second, .val (.long i1), .second, .val (.int i2), .val (.long v13), .second, .val (.ref b2), .val (.ref b4), .val (.ref b6), .val (.int (1 : Int32)), .val (.int (2 : Int32)), .val (.int (1 : Int32)), .val (.ref b6), .val (.ref b4), .val (.int (1 : Int32))] [])
            refine Go.of (fun t k => XS.iconst X47.here hx rfl (hb hby at_243) k) ?_
            show Go p e below Φ T47 (mkF m 244 #[.val (.long i0), .second, .val (.long i1), .second, .val (.int i2), .val (.long v13), .second, .val (.ref b2), .val (.ref b4), .val (.ref b6), .val (.int (1 : Int32)), .val (.int (2 : Int32)), .val (.int (1 : Int32)), .val (.ref b6), .val (.ref b4), .val (.int (1 : Int32))] [(.int (1 : Int32))])
            refine Go.of (fun t k => XS.goto X47.here hx rfl (pc0 := 244) (pc' := 248) rfl (hb hby at_244) (by decide) (by decide) k) ?_
            show Go p e below Φ T47 (mkF m 248 #[.val (.long i0), .second, .val (.long i1), .second, .val (.int i2), .val (.long v13), .second, .val (.ref b2), .val (.ref b4), .val (.ref b6), .val (.int (1 : Int32)), .val (.int (2 : Int32)), .val (.int (1 : Int32)), .val (.ref b6), .val (.ref b4), .val (.int (1 : Int32))] [(.int (1 : Int32))])
            refine Go.of (fun t k => XS.istore X47.here hx rfl (hb hby at_248) rfl (l' := #[.val (.long i0), .second, .val (.long i1), .second, .val (.int i2), .val (.long v13), .second, .val (.ref b2), .val (.ref b4), .val (.ref b6), .val (.int (1 : Int32)), .val (.int (2 : Int32)), .val (.int (1 : Int32)), .val (.ref b6), .val (.ref b4), .val (.int (1 : Int32))]) rfl k) ?_
            show Go p e below Φ T47 (mkF m 250 #[.val (.long i0), .second, .val (.long i1), .second, .val (.int i2), .val (.long v13), .second, .val (.ref b2), .val (.ref b4), .val (.ref b6), .val (.int (1 : Int32)), .val (.int (2 : Int32)), .val (.int (1 : Int32)), .val (.ref b6), .val (.ref b4), .val (.int (1 : Int32))] [])
            refine Go.of (fun t k => XS.iload X47.here hx rfl (hb hby at_250) rfl  k) ?_
            show Go p e below Φ T47 (mkF m 252 #[.val (.long i0), .second, .val (.long i1), .second, .val (.int i2), .val (.long v13), .second, .val (.ref b2), .val (.ref b4), .val (.ref b6), .val (.int (1 : Int32)), .val (.int (2 : Int32)), .val (.int (1 : Int32)), .val (.ref b6), .val (.ref b4), .val (.int (1 : Int32))] [(.int (1 : Int32))])
            rw [hΦ]
            refine Go.ret X47 hx Bd.notSynchronized Bd.returns rfl (Or.inl ⟨rfl, Or.inr (Or.inl rfl), _, rfl⟩) (hb hby at_252) (by decide) (by decide) ?_
            rw [(e47q)]
            exact ⟨rfl, N47⟩
        · refine Go.of (fun t k => XS.ifNo X44.here hx rfl (hb hby at_179) rfl (XT.i0_eq_f hc179) k) ?_
          show Go p e below Φ T44 (mkF m 182 #[.val (.long i0), .second, .val (.long i1), .second, .val (.int i2), .val (.long v13), .second, .val (.ref b2), .val (.ref b4), .val (.ref b6), .val (.int (1 : Int32)), .val (.int (2 : Int32)), .val (.int (1 : Int32)), .val (.ref b6), .val (.ref b4), .val (.int (0 : Int32))] [])
          refine Go.of (fun t k => XS.aload X44.here hx rfl (hb hby at_182) rfl rfl  k) ?_
          show Go p e below Φ T44 (mkF m 184 #[.val (.long i0), .second, .val (.long i1), .second, .val (.int i2), .val (.long v13), .second, .val (.ref b2), .val (.ref b4), .val (.ref b6), .val (.int (1 : Int32)), .val (.int (2 : Int32)), .val (.int (1 : Int32)), .val (.ref b6), .val (.ref b4), .val (.int (0 : Int32))] [(.ref b2)])
          refine Go.of (fun t k => XS.aload X44.here hx rfl (hb hby at_184) rfl rfl  k) ?_
          show Go p e below Φ T44 (mkF m 186 #[.val (.long i0), .second, .val (.long i1), .second, .val (.int i2), .val (.long v13), .second, .val (.ref b2), .val (.ref b4), .val (.ref b6), .val (.int (1 : Int32)), .val (.int (2 : Int32)), .val (.int (1 : Int32)), .val (.ref b6), .val (.ref b4), .val (.int (0 : Int32))] [(.ref b6), (.ref b2)])
          obtain ⟨cq48, kq48, q48a, q48b, q48c⟩ := isOf hZ (e44q) E_b2
          obtain ⟨_, _, ⟨T48, L48, k48, n48⟩, -, X48, ⟨Lc48, hQ48, l48, y48, z48⟩, st48⟩ := X44.virtualBack hx (y := (⟨"com/example/demarq/demarq/broker/SortedMessages", "remove", "(Lcom/example/demarq/demarq/broker/Message;)V"⟩ : MethodName)) (z := (⟨"com/example/demarq/demarq/broker/SortedMessages", "remove", "(Lcom/example/demarq/demarq/broker/Message;)V"⟩ : MethodName)) hown (mvT hZ (hw _ (List.mem_of_getElem? (i := 49) rfl))) (mvT hZ (hw _ (List.mem_of_getElem? (i := 50) rfl))) (notFace_of_selects (args := #[]) (mvT hZ (hw _ (List.mem_of_getElem? (i := 52) rfl)))) (mvT hZ (hw _ (List.mem_of_getElem? (i := 52) rfl))) (mvT hZ (hw _ (List.mem_of_getElem? (i := 51) rfl))) (by decide) (backOf (W := 0) (rm8x l Z a0 hw [] b2 b6 b3 k3 (((1 : Int32), (.ref b4)) :: (((0 : Int32), (.ref b6)) :: [])) (0 : Int32) v13 T43.heap n0 Z43 F_b2_head F_b2_ring V_b3 E_b2 g_b2 g_b3 ne_b2_b3 F_b2_size ⟨by decide, by decide⟩ (getH_miss (by decide) (by decide) (getH_hit (by decide) (by decide))) E_b6 F_b6_position ⟨by decide, by decide⟩ (Ne.symm ne_b2_b6) (Ne.symm ne_b3_b6)) hZ (hw _ (List.mem_of_getElem? (i := 53) rfl)) (hw _ (List.mem_of_getElem? (i := 2) rfl)) (by decide) (by decide)) q48a q48c (g := (mkF m 186 #[.val (.long i0), .second, .val (.long i1), .second, .val (.int i2), .val (.long v13), .second, .val (.ref b2), .val (.ref b4), .val (.ref b6), .val (.int (1 : Int32)), .val (.int (2 : Int32)), .val (.int (1 : Int32)), .val (.ref b6), .val (.ref b4), .val (.int (0 : Int32))] [(.ref b6), (.ref b2)])) rfl (by rw [hml]; rfl) (Steps.refl _) (argsL := [(.ref b6)]) (rest := []) (lenOf own_pd10 rfl) rfl (by show 2 * 0 + _ ≤ _; exact Nat.le_of_eq rfl) (hb hby at_186) (fun _ _ => ⟨rfl, (e44q), (by decide : 4 + 1 ≤ _), (by decide : 27 + 2 ≤ _)⟩)
          dsimp only [Pt.U, Pt.locs, Pt.cells, Pt.slots] at X48 l48 y48 z48 st48 hQ48
          subst l48 y48 z48
          obtain ⟨rfl, N48q, K48q, c48_0, c48_1, c48_2, c48_3⟩ := hQ48
          have N48 := Fr.app N44 N48q
          obtain ⟨lc48, X48, N48⟩ : ∃ lc, Stand p l e room_1 s m #[(.long i0), (.long i1), (.int i2)] below meth c T48 lc 5 29 ∧ Fr n0 lc := ⟨_, X48, N48⟩
          have E_b2 := E_b2.keep K48q
          have E_b4 := E_b4.keep K48q
          have F_b4_position := F_b4_position.keep K48q (ninS (Ne.symm ne_b2_b4) (ninS (Ne.symm ne_b3_b4) nin0))
          have E_b6 := E_b6.keep K48q
          have F_b6_position := F_b6_position.keep K48q (ninS (Ne.symm ne_b2_b6) (ninS (Ne.symm ne_b3_b6) nin0))
          have F_b2_size := c48_0
          have F_b2_head := c48_1
          have F_b2_ring := c48_2
          have V_b3 : Arh Z T48.heap b3 k3 (.object "com/example/demarq/demarq/broker/Message") (16 : Int32) (((0 : Int32), .null) :: (((1 : Int32), (.ref b4)) :: (((0 : Int32), (.ref b6)) :: []))) [] .null := c48_3
          have Z48 := Nat.le_trans Z43 K48q.1
          refine Go.tr st48 ?_
          show Go p e below Φ T48 (mkF m 189 #[.val (.long i0), .second, .val (.long i1), .second, .val (.int i2), .val (.long v13), .second, .val (.ref b2), .val (.ref b4), .val (.ref b6), .val (.int (1 : Int32)), .val (.int (2 : Int32)), .val (.int (1 : Int32)), .val (.ref b6), .val (.ref b4), .val (.int (0 : Int32))] [])
          refine Go.of (fun t k => XS.iinc X48.here hx rfl (hb hby at_189) rfl (l' := #[.val (.long i0), .second, .val (.long i1), .second, .val (.int i2), .val (.long v13), .second, .val (.ref b2), .val (.ref b4), .val (.ref b6), .val (.int (1 : Int32)), .val (.int (2 : Int32)), .val (.int (1 : Int32)), .val (.ref b6), .val (.ref b4), .val (.int (1 : Int32))]) rfl k) ?_
          show Go p e below Φ T48 (mkF m 192 #[.val (.long i0), .second, .val (.long i1), .second, .val (.int i2), .val (.long v13), .second, .val (.ref b2), .val (.ref b4), .val (.ref b6), .val (.int (1 : Int32)), .val (.int (2 : Int32)), .val (.int (1 : Int32)), .val (.ref b6), .val (.ref b4), .val (.int (1 : Int32))] [])
          refine Go.of (fun t k => XS.iload X48.here hx rfl (hb hby at_192) rfl  k) ?_
          show Go p e below Φ T48 (mkF m 194 #[.val (.long i0), .second, .val (.long i1), .second, .val (.int i2), .val (.long v13), .second, .val (.ref b2), .val (.ref b4), .val (.ref b6), .val (.int (1 : Int32)), .val (.int (2 : Int32)), .val (.int (1 : Int32)), .val (.ref b6), .val (.ref b4), .val (.int (1 : Int32))] [(.int (2 : Int32))])
          refine Go.of (fun t k => XS.iconst X48.here hx rfl (hb hby at_194) k) ?_
          show Go p e below Φ T48 (mkF m 195 #[.val (.long i0), .second, .val (.long i1), .second, .val (.int i2), .val (.long v13), .second, .val (.ref b2), .val (.ref b4), .val (.ref b6), .val (.int (1 : Int32)), .val (.int (2 : Int32)), .val (.int (1 : Int32)), .val (.ref b6), .val (.ref b4), .val (.int (1 : Int32))] [(.int (2 : Int32)), (.int (2 : Int32))])
          refine Go.of (fun t k => XS.icmpNo X48.here hx rfl (hb hby at_195) rfl (XT.ii_lt_f (by decide)) k) ?_
          show Go p e below Φ T48 (mkF m 198 #[.val (.long i0), .second, .val (.long i1), .second, .val (.int i2), .val (.long v13), .second, .val (.ref b2), .val (.ref b4), .val (.ref b6), .val (.int (1 : Int32)), .val (.int (2 : Int32)), .val (.int (1 : Int32)), .val (.ref b6), .val (.ref b4), .val (.int (1 : Int32))] [])
          refine Go.of (fun t k => XS.iload X48.here hx rfl (hb hby at_198) rfl  k) ?_
          show Go p e below Φ T48 (mkF m 200 #[.val (.long i0), .second, .val (.long i1), .second, .val (.int i2), .val (.long v13), .second, .val (.ref b2), .val (.ref b4), .val (.ref b6), .val (.int (1 : Int32)), .val (.int (2 : Int32)), .val (.int (1 : Int32)), .val (.ref b6), .val (.ref b4), .val (.int (1 : Int32))] [(.int i2)])
          refine Go.of (fun t k => XS.iconst X48.here hx rfl (hb hby at_200) k) ?_
          show Go p e below Φ T48 (mkF m 201 #[.val (.long i0), .second, .val (.long i1), .second, .val (.int i2), .val (.long v13), .second, .val (.ref b2), .val (.ref b4), .val (.ref b6), .val (.int (1 : Int32)), .val (.int (2 : Int32)), .val (.int (1 : Int32)), .val (.ref b6), .val (.ref b4), .val (.int (1 : Int32))] [(.int (3 : Int32)), (.int i2)])
          refine Go.of (fun t k => XS.iushr X48.here hx rfl (hb hby at_201) rfl k) ?_
          show Go p e below Φ T48 (mkF m 202 #[.val (.long i0), .second, .val (.long i1), .second, .val (.int i2), .val (.long v13), .second, .val (.ref b2), .val (.ref b4), .val (.ref b6), .val (.int (1 : Int32)), .val (.int (2 : Int32)), .val (.int (1 : Int32)), .val (.ref b6), .val (.ref b4), .val (.int (1 : Int32))] [(.int (own_ushr i2 (3 : Int32)))])
          refine Go.of (fun t k => XS.iconst X48.here hx rfl (hb hby at_202) k) ?_
          show Go p e below Φ T48 (mkF m 203 #[.val (.long i0), .second, .val (.long i1), .second, .val (.int i2), .val (.long v13), .second, .val (.ref b2), .val (.ref b4), .val (.ref b6), .val (.int (1 : Int32)), .val (.int (2 : Int32)), .val (.int (1 : Int32)), .val (.ref b6), .val (.ref b4), .val (.int (1 : Int32))] [(.int (1 : Int32)), (.int (own_ushr i2 (3 : Int32)))])
          refine Go.of (fun t k => XS.iand X48.here hx rfl (hb hby at_203) rfl k) ?_
          show Go p e below Φ T48 (mkF m 204 #[.val (.long i0), .second, .val (.long i1), .second, .val (.int i2), .val (.long v13), .second, .val (.ref b2), .val (.ref b4), .val (.ref b6), .val (.int (1 : Int32)), .val (.int (2 : Int32)), .val (.int (1 : Int32)), .val (.ref b6), .val (.ref b4), .val (.int (1 : Int32))] [(.int ((own_ushr i2 (3 : Int32)) &&& (1 : Int32)))])
          by_cases hc204 : ((own_ushr i2 (3 : Int32)) &&& (1 : Int32)) = (0 : Int32)
          · refine Go.of (fun t k => XS.ifYes X48.here hx rfl (pc0 := 204) (pc' := 217) rfl (hb hby at_204) rfl (XT.i0_eq_t hc204) (by decide) (by decide) k) ?_
            show Go p e below Φ T48 (mkF m 217 #[.val (.long i0), .second, .val (.long i1), .second, .val (.int i2), .val (.long v13), .second, .val (.ref b2), .val (.ref b4), .val (.ref b6), .val (.int (1 : Int32)), .val (.int (2 : Int32)), .val (.int (1 : Int32)), .val (.ref b6), .val (.ref b4), .val (.int (1 : Int32))] [])
            refine Go.of (fun t k => XS.iload X48.here hx rfl (hb hby at_217) rfl  k) ?_
            show Go p e below Φ T48 (mkF m 219 #[.val (.long i0), .second, .val (.long i1), .second, .val (.int i2), .val (.long v13), .second, .val (.ref b2), .val (.ref b4), .val (.ref b6), .val (.int (1 : Int32)), .val (.int (2 : Int32)), .val (.int (1 : Int32)), .val (.ref b6), .val (.ref b4), .val (.int (1 : Int32))] [(.int (1 : Int32))])
            refine Go.of (fun t k => XS.ifNo X48.here hx rfl (hb hby at_219) rfl (XT.i0_eq_f (by decide)) k) ?_
            show Go p e below Φ T48 (mkF m 222 #[.val (.long i0), .second, .val (.long i1), .second, .val (.int i2), .val (.long v13), .second, .val (.ref b2), .val (.ref b4), .val (.ref b6), .val (.int (1 : Int32)), .val (.int (2 : Int32)), .val (.int (1 : Int32)), .val (.ref b6), .val (.ref b4), .val (.int (1 : Int32))] [])
            refine Go.of (fun t k => XS.aload X48.here hx rfl (hb hby at_222) rfl rfl  k) ?_
            show Go p e below Φ T48 (mkF m 224 #[.val (.long i0), .second, .val (.long i1), .second, .val (.int i2), .val (.long v13), .second, .val (.ref b2), .val (.ref b4), .val (.ref b6), .val (.int (1 : Int32)), .val (.int (2 : Int32)), .val (.int (1 : Int32)), .val (.ref b6), .val (.ref b4), .val (.int (1 : Int32))] [(.ref b2)])
            obtain ⟨cq49, kq49, q49a, q49b, q49c⟩ := isOf hZ rfl E_b2
            obtain ⟨_, _, ⟨T49, L49, k49, n49⟩, -, X49, ⟨Lc49, hQ49, l49, y49, z49⟩, st49⟩ := X48.virtualBack hx (y := (⟨"com/example/demarq/demarq/broker/SortedMessages", "isEmpty", "()Z"⟩ : MethodName)) (z := (⟨"com/example/demarq/demarq/broker/SortedMessages", "isEmpty", "()Z"⟩ : MethodName)) hown (mvT hZ (hw _ (List.mem_of_getElem? (i := 26) rfl))) (mvT hZ (hw _ (List.mem_of_getElem? (i := 27) rfl))) (notFace_of_selects (args := #[]) (mvT hZ (hw _ (List.mem_of_getElem? (i := 29) rfl)))) (mvT hZ (hw _ (List.mem_of_getElem? (i := 29) rfl))) (mvT hZ (hw _ (List.mem_of_getElem? (i := 28) rfl))) (by decide) (backOf (W := 0) (rm4n l Z a0 hw [] b2 (1 : Int32) T48.heap n0 Z48 F_b2_size (by decide)) hZ (hw _ (List.mem_of_getElem? (i := 30) rfl)) (hw _ (List.mem_of_getElem? (i := 2) rfl)) (by decide) (by decide)) q49a q49c (g := (mkF m 224 #[.val (.long i0), .second, .val (.long i1), .second, .val (.int i2), .val (.long v13), .second, .val (.ref b2), .val (.ref b4), .val (.ref b6), .val (.int (1 : Int32)), .val (.int (2 : Int32)), .val (.int (1 : Int32)), .val (.ref b6), .val (.ref b4), .val (.int (1 : Int32))] [(.ref b2)])) rfl (by rw [hml]; rfl) (Steps.refl _) (argsL := []) (rest := []) (lenOf own_pd9 rfl) rfl (by show 2 * 0 + _ ≤ _; exact Nat.le_of_eq rfl) (hb hby at_224) (fun _ _ => ⟨rfl, rfl, (by decide : 5 + 0 ≤ _), (by decide : 29 + 0 ≤ _)⟩)
            dsimp only [Pt.U, Pt.locs, Pt.cells, Pt.slots] at X49 l49 y49 z49 st49 hQ49
            subst l49 y49 z49
            obtain ⟨rfl, N49q, e49q⟩ := hQ49
            have N49 := Fr.app N48 N49q
            obtain ⟨lc49, X49, N49⟩ : ∃ lc, Stand p l e room_1 s m #[(.long i0), (.long i1), (.int i2)] below meth c T49 lc 5 29 ∧ Fr n0 lc := ⟨_, X49, N49⟩
            refine Go.tr st49 ?_
            show Go p e below Φ T49 (mkF m 227 #[.val (.long i0), .second, .val (.long i1), .second, .val (.int i2), .val (.long v13), .second, .val (.ref b2), .val (.ref b4), .val (.ref b6), .val (.int (1 : Int32)), .val (.int (2 : Int32)), .val (.int (1 : Int32)), .val (.ref b6), .val (.ref b4), .val (.int (1 : Int32))] [(.int (0 : Int32))])
            refine Go.of (fun t k => XS.iload X49.here hx rfl (hb hby at_227) rfl  k) ?_
            show Go p e below Φ T49 (mkF m 229 #[.val (.long i0), .second, .val (.long i1), .second, .val (.int i2), .val (.long v13), .second, .val (.ref b2), .val (.ref b4), .val (.ref b6), .val (.int (1 : Int32)), .val (.int (2 : Int32)), .val (.int (1 : Int32)), .val (.ref b6), .val (.ref b4), .val (.int (1 : Int32))] [(.int (2 : Int32)), (.int (0 : Int32))])
            refine Go.of (fun t k => XS.iload X49.here hx rfl (hb hby at_229) rfl  k) ?_
            show Go p e below Φ T49 (mkF m 231 #[.val (.long i0), .second, .val (.long i1), .second, .val (.int i2), .val (.long v13), .second, .val (.ref b2), .val (.ref b4), .val (.ref b6), .val (.int (1 : Int32)), .val (.int (2 : Int32)), .val (.int (1 : Int32)), .val (.ref b6), .val (.ref b4), .val (.int (1 : Int32))] [(.int (1 : Int32)), (.int (2 : Int32)), (.int (0 : Int32))])
            refine Go.of (fun t k => XS.isub X49.here hx rfl (hb hby at_231) rfl k) ?_
            show Go p e below Φ T49 (mkF m 232 #[.val (.long i0), .second, .val (.long i1), .second, .val (.int i2), .val (.long v13), .second, .val (.ref b2), .val (.ref b4), .val (.ref b6), .val (.int (1 : Int32)), .val (.int (2 : Int32)), .val (.int (1 : Int32)), .val (.ref b6), .val (.ref b4), .val (.int (1 : Int32))] [(.int (1 : Int32)), (.int (0 : Int32))])
            refine Go.of (fun t k => XS.ifYes X49.here hx rfl (pc0 := 232) (pc' := 239) rfl (hb hby at_232) rfl (XT.i0_ne_t (by decide)) (by decide) (by decide) k) ?_
            show Go p e below Φ T49 (mkF m 239 #[.val (.long i0), .second, .val (.long i1), .second, .val (.int i2), .val (.long v13), .second, .val (.ref b2), .val (.ref b4), .val (.ref b6), .val (.int (1 : Int32)), .val (.int (2 : Int32)), .val (.int (1 : Int32)), .val (.ref b6), .val (.ref b4), .val (.int (1 : Int32))] [(.int (0 : Int32))])
            refine Go.of (fun t k => XS.iconst X49.here hx rfl (hb hby at_239) k) ?_
            show Go p e below Φ T49 (mkF m 240 #[.val (.long i0), .second, .val (.long i1), .second, .val (.int i2), .val (.long v13), .second, .val (.ref b2), .val (.ref b4), .val (.ref b6), .val (.int (1 : Int32)), .val (.int (2 : Int32)), .val (.int (1 : Int32)), .val (.ref b6), .val (.ref b4), .val (.int (1 : Int32))] [(.int (0 : Int32)), (.int (0 : Int32))])
            refine Go.of (fun t k => XS.icmpNo X49.here hx rfl (hb hby at_240) rfl (XT.ii_ne_f rfl) k) ?_
            show Go p e below Φ T49 (mkF m 243 #[.val (.long i0), .second, .val (.long i1), .second, .val (.int i2), .val (.long v13), .second, .val (.ref b2), .val (.ref b4), .val (.ref b6), .val (.int (1 : Int32)), .val (.int (2 : Int32)), .val (.int (1 : Int32)), .val (.ref b6), .val (.ref b4), .val (.int (1 : Int32))] [])
            refine Go.of (fun t k => XS.iconst X49.here hx rfl (hb hby at_243) k) ?_
            show Go p e below Φ T49 (mkF m 244 #[.val (.long i0), .second, .val (.long i1), .second, .val (.int i2), .val (.long v13), .second, .val (.ref b2), .val (.ref b4), .val (.ref b6), .val (.int (1 : Int32)), .val (.int (2 : Int32)), .val (.int (1 : Int32)), .val (.ref b6), .val (.ref b4), .val (.int (1 : Int32))] [(.int (1 : Int32))])
            refine Go.of (fun t k => XS.goto X49.here hx rfl (pc0 := 244) (pc' := 248) rfl (hb hby at_244) (by decide) (by decide) k) ?_
            show Go p e below Φ T49 (mkF m 248 #[.val (.long i0), .second, .val (.long i1), .second, .val (.int i2), .val (.long v13), .second, .val (.ref b2), .val (.ref b4), .val (.ref b6), .val (.int (1 : Int32)), .val (.int (2 : Int32)), .val (.int (1 : Int32)), .val (.ref b6), .val (.ref b4), .val (.int (1 : Int32))] [(.int (1 : Int32))])
            refine Go.of (fun t k => XS.istore X49.here hx rfl (hb hby at_248) rfl (l' := #[.val (.long i0), .second, .val (.long i1), .second, .val (.int i2), .val (.long v13), .second, .val (.ref b2), .val (.ref b4), .val (.ref b6), .val (.int (1 : Int32)), .val (.int (2 : Int32)), .val (.int (1 : Int32)), .val (.ref b6), .val (.ref b4), .val (.int (1 : Int32))]) rfl k) ?_
            show Go p e below Φ T49 (mkF m 250 #[.val (.long i0), .second, .val (.long i1), .second, .val (.int i2), .val (.long v13), .second, .val (.ref b2), .val (.ref b4), .val (.ref b6), .val (.int (1 : Int32)), .val (.int (2 : Int32)), .val (.int (1 : Int32)), .val (.ref b6), .val (.ref b4), .val (.int (1 : Int32))] [])
            refine Go.of (fun t k => XS.iload X49.here hx rfl (hb hby at_250) rfl  k) ?_
            show Go p e below Φ T49 (mkF m 252 #[.val (.long i0), .second, .val (.long i1), .second, .val (.int i2), .val (.long v13), .second, .val (.ref b2), .val (.ref b4), .val (.ref b6), .val (.int (1 : Int32)), .val (.int (2 : Int32)), .val (.int (1 : Int32)), .val (.ref b6), .val (.ref b4), .val (.int (1 : Int32))] [(.int (1 : Int32))])
            rw [hΦ]
            refine Go.ret X49 hx Bd.notSynchronized Bd.returns rfl (Or.inl ⟨rfl, Or.inr (Or.inl rfl), _, rfl⟩) (hb hby at_252) (by decide) (by decide) ?_
            rw [(e49q)]
            exact ⟨rfl, N49⟩
          · refine Go.of (fun t k => XS.ifNo X48.here hx rfl (hb hby at_204) rfl (XT.i0_eq_f hc204) k) ?_
            show Go p e below Φ T48 (mkF m 207 #[.val (.long i0), .second, .val (.long i1), .second, .val (.int i2), .val (.long v13), .second, .val (.ref b2), .val (.ref b4), .val (.ref b6), .val (.int (1 : Int32)), .val (.int (2 : Int32)), .val (.int (1 : Int32)), .val (.ref b6), .val (.ref b4), .val (.int (1 : Int32))] [])
            refine Go.of (fun t k => XS.aload X48.here hx rfl (hb hby at_207) rfl rfl  k) ?_
            show Go p e below Φ T48 (mkF m 209 #[.val (.long i0), .second, .val (.long i1), .second, .val (.int i2), .val (.long v13), .second, .val (.ref b2), .val (.ref b4), .val (.ref b6), .val (.int (1 : Int32)), .val (.int (2 : Int32)), .val (.int (1 : Int32)), .val (.ref b6), .val (.ref b4), .val (.int (1 : Int32))] [(.ref b2)])
            refine Go.of (fun t k => XS.aload X48.here hx rfl (hb hby at_209) rfl rfl  k) ?_
            show Go p e below Φ T48 (mkF m 211 #[.val (.long i0), .second, .val (.long i1), .second, .val (.int i2), .val (.long v13), .second, .val (.ref b2), .val (.ref b4), .val (.ref b6), .val (.int (1 : Int32)), .val (.int (2 : Int32)), .val (.int (1 : Int32)), .val (.ref b6), .val (.ref b4), .val (.int (1 : Int32))] [(.ref b4), (.ref b2)])
            obtain ⟨cq50, kq50, q50a, q50b, q50c⟩ := isOf hZ rfl E_b2
            obtain ⟨_, _, ⟨T50, L50, k50, n50⟩, -, X50, ⟨Lc50, hQ50, l50, y50, z50⟩, st50⟩ := X48.virtualBack hx (y := (⟨"com/example/demarq/demarq/broker/SortedMessages", "remove", "(Lcom/example/demarq/demarq/broker/Message;)V"⟩ : MethodName)) (z := (⟨"com/example/demarq/demarq/broker/SortedMessages", "remove", "(Lcom/example/demarq/demarq/broker/Message;)V"⟩ : MethodName)) hown (mvT hZ (hw _ (List.mem_of_getElem? (i := 49) rfl))) (mvT hZ (hw _ (List.mem_of_getElem? (i := 50) rfl))) (notFace_of_selects (args := #[]) (mvT hZ (hw _ (List.mem_of_getElem? (i := 52) rfl)))) (mvT hZ (hw _ (List.mem_of_getElem? (i := 52) rfl))) (mvT hZ (hw _ (List.mem_of_getElem? (i := 51) rfl))) (by decide) (backOf (W := 0) (rm8a l Z a0 hw [] b2 b4 b3 k3 (((0 : Int32), .null) :: (((1 : Int32), (.ref b4)) :: (((0 : Int32), (.ref b6)) :: []))) (1 : Int32) i0 T48.heap n0 Z48 F_b2_head F_b2_ring V_b3 E_b2 g_b2 g_b3 ne_b2_b3 F_b2_size ⟨by decide, by decide⟩ (getH_miss (by decide) (by decide) (getH_hit (by decide) (by decide))) E_b4 F_b4_position (Ne.symm ne_b2_b4) (Ne.symm ne_b3_b4)) hZ (hw _ (List.mem_of_getElem? (i := 53) rfl)) (hw _ (List.mem_of_getElem? (i := 2) rfl)) (by decide) (by decide)) q50a q50c (g := (mkF m 211 #[.val (.long i0), .second, .val (.long i1), .second, .val (.int i2), .val (.long v13), .second, .val (.ref b2), .val (.ref b4), .val (.ref b6), .val (.int (1 : Int32)), .val (.int (2 : Int32)), .val (.int (1 : Int32)), .val (.ref b6), .val (.ref b4), .val (.int (1 : Int32))] [(.ref b4), (.ref b2)])) rfl (by rw [hml]; rfl) (Steps.refl _) (argsL := [(.ref b4)]) (rest := []) (lenOf own_pd10 rfl) rfl (by show 2 * 0 + _ ≤ _; exact Nat.le_of_eq rfl) (hb hby at_211) (fun _ _ => ⟨rfl, rfl, (by decide : 5 + 1 ≤ _), (by decide : 29 + 2 ≤ _)⟩)
            dsimp only [Pt.U, Pt.locs, Pt.cells, Pt.slots] at X50 l50 y50 z50 st50 hQ50
            subst l50 y50 z50
            obtain ⟨rfl, N50q, K50q, c50_0⟩ := hQ50
            have N50 := Fr.app N48 N50q
            obtain ⟨lc50, X50, N50⟩ : ∃ lc, Stand p l e room_1 s m #[(.long i0), (.long i1), (.int i2)] below meth c T50 lc 6 31 ∧ Fr n0 lc := ⟨_, X50, N50⟩
            have E_b2 := E_b2.keep K50q
            have E_b4 := E_b4.keep K50q
            have F_b4_position := F_b4_position.keep K50q (ninS (Ne.symm ne_b2_b4) (ninS (Ne.symm ne_b3_b4) nin0))
            have E_b6 := E_b6.keep K50q
            have F_b6_position := F_b6_position.keep K50q (ninS (Ne.symm ne_b2_b6) (ninS (Ne.symm ne_b3_b6) nin0))
            have F_b2_size := c50_0
            have Z50 := Nat.le_trans Z48 K50q.1
            refine Go.tr st50 ?_
            show Go p e below Φ T50 (mkF m 214 #[.val (.long i0), .second, .val (.long i1), .second, .val (.int i2), .val (.long v13), .second, .val (.ref b2), .val (.ref b4), .val (.ref b6), .val (.int (1 : Int32)), .val (.int (2 : Int32)), .val (.int (1 : Int32)), .val (.ref b6), .val (.ref b4), .val (.int (1 : Int32))] [])
            refine Go.of (fun t k => XS.iinc X50.here hx rfl (hb hby at_214) rfl (l' := #[.val (.long i0), .second, .val (.long i1), .second, .val (.int i2), .val (.long v13), .second, .val (.ref b2), .val (.ref b4), .val (.ref b6), .val (.int (1 : Int32)), .val (.int (2 : Int32)), .val (.int (1 : Int32)), .val (.ref b6), .val (.ref b4), .val (.int (2 : Int32))]) rfl k) ?_
            show Go p e below Φ T50 (mkF m 217 #[.val (.long i0), .second, .val (.long i1), .second, .val (.int i2), .val (.long v13), .second, .val (.ref b2), .val (.ref b4), .val (.ref b6), .val (.int (1 : Int32)), .val (.int (2 : Int32)), .val (.int (1 : Int32)), .val (.ref b6), .val (.ref b4), .val (.int (2 : Int32))] [])
            refine Go.of (fun t k => XS.iload X50.here hx rfl (hb hby at_217) rfl  k) ?_
            show Go p e below Φ T50 (mkF m 219 #[.val (.long i0), .second, .val (.long i1), .second, .val (.int i2), .val (.long v13), .second, .val (.ref b2), .val (.ref b4), .val (.ref b6), .val (.int (1 : Int32)), .val (.int (2 : Int32)), .val (.int (1 : Int32)), .val (.ref b6), .val (.ref b4), .val (.int (2 : Int32))] [(.int (1 : Int32))])
            refine Go.of (fun t k => XS.ifNo X50.here hx rfl (hb hby at_219) rfl (XT.i0_eq_f (by decide)) k) ?_
            show Go p e below Φ T50 (mkF m 222 #[.val (.long i0), .second, .val (.long i1), .second, .val (.int i2), .val (.long v13), .second, .val (.ref b2), .val (.ref b4), .val (.ref b6), .val (.int (1 : Int32)), .val (.int (2 : Int32)), .val (.int (1 : Int32)), .val (.ref b6), .val (.ref b4), .val (.int (2 : Int32))] [])
            refine Go.of (fun t k => XS.aload X50.here hx rfl (hb hby at_222) rfl rfl  k) ?_
            show Go p e below Φ T50 (mkF m 224 #[.val (.long i0), .second, .val (.long i1), .second, .val (.int i2), .val (.long v13), .second, .val (.ref b2), .val (.ref b4), .val (.ref b6), .val (.int (1 : Int32)), .val (.int (2 : Int32)), .val (.int (1 : Int32)), .val (.ref b6), .val (.ref b4), .val (.int (2 : Int32))] [(.ref b2)])
            obtain ⟨cq51, kq51, q51a, q51b, q51c⟩ := isOf hZ rfl E_b2
            obtain ⟨_, _, ⟨T51, L51, k51, n51⟩, -, X51, ⟨Lc51, hQ51, l51, y51, z51⟩, st51⟩ := X50.virtualBack hx (y := (⟨"com/example/demarq/demarq/broker/SortedMessages", "isEmpty", "()Z"⟩ : MethodName)) (z := (⟨"com/example/demarq/demarq/broker/SortedMessages", "isEmpty", "()Z"⟩ : MethodName)) hown (mvT hZ (hw _ (List.mem_of_getElem? (i := 26) rfl))) (mvT hZ (hw _ (List.mem_of_getElem? (i := 27) rfl))) (notFace_of_selects (args := #[]) (mvT hZ (hw _ (List.mem_of_getElem? (i := 29) rfl)))) (mvT hZ (hw _ (List.mem_of_getElem? (i := 29) rfl))) (mvT hZ (hw _ (List.mem_of_getElem? (i := 28) rfl))) (by decide) (backOf (W := 0) (rm4z l Z a0 hw [] b2 T50.heap n0 Z50 F_b2_size) hZ (hw _ (List.mem_of_getElem? (i := 30) rfl)) (hw _ (List.mem_of_getElem? (i := 2) rfl)) (by decide) (by decide)) q51a q51c (g := (mkF m 224 #[.val (.long i0), .second, .val (.long i1), .second, .val (.int i2), .val (.long v13), .second, .val (.ref b2), .val (.ref b4), .val (.ref b6), .val (.int (1 : Int32)), .val (.int (2 : Int32)), .val (.int (1 : Int32)), .val (.ref b6), .val (.ref b4), .val (.int (2 : Int32))] [(.ref b2)])) rfl (by rw [hml]; rfl) (Steps.refl _) (argsL := []) (rest := []) (lenOf own_pd9 rfl) rfl (by show 2 * 0 + _ ≤ _; exact Nat.le_of_eq rfl) (hb hby at_224) (fun _ _ => ⟨rfl, rfl, (by decide : 6 + 0 ≤ _), (by decide : 31 + 0 ≤ _)⟩)
            dsimp only [Pt.U, Pt.locs, Pt.cells, Pt.slots] at X51 l51 y51 z51 st51 hQ51
            subst l51 y51 z51
            obtain ⟨rfl, N51q, e51q⟩ := hQ51
            have N51 := Fr.app N50 N51q
            obtain ⟨lc51, X51, N51⟩ : ∃ lc, Stand p l e room_1 s m #[(.long i0), (.long i1), (.int i2)] below meth c T51 lc 6 31 ∧ Fr n0 lc := ⟨_, X51, N51⟩
            refine Go.tr st51 ?_
            show Go p e below Φ T51 (mkF m 227 #[.val (.long i0), .second, .val (.long i1), .second, .val (.int i2), .val (.long v13), .second, .val (.ref b2), .val (.ref b4), .val (.ref b6), .val (.int (1 : Int32)), .val (.int (2 : Int32)), .val (.int (1 : Int32)), .val (.ref b6), .val (.ref b4), .val (.int (2 : Int32))] [(.int (1 : Int32))])
            refine Go.of (fun t k => XS.iload X51.here hx rfl (hb hby at_227) rfl  k) ?_
            show Go p e below Φ T51 (mkF m 229 #[.val (.long i0), .second, .val (.long i1), .second, .val (.int i2), .val (.long v13), .second, .val (.ref b2), .val (.ref b4), .val (.ref b6), .val (.int (1 : Int32)), .val (.int (2 : Int32)), .val (.int (1 : Int32)), .val (.ref b6), .val (.ref b4), .val (.int (2 : Int32))] [(.int (2 : Int32)), (.int (1 : Int32))])
            refine Go.of (fun t k => XS.iload X51.here hx rfl (hb hby at_229) rfl  k) ?_
            show Go p e below Φ T51 (mkF m 231 #[.val (.long i0), .second, .val (.long i1), .second, .val (.int i2), .val (.long v13), .second, .val (.ref b2), .val (.ref b4), .val (.ref b6), .val (.int (1 : Int32)), .val (.int (2 : Int32)), .val (.int (1 : Int32)), .val (.ref b6), .val (.ref b4), .val (.int (2 : Int32))] [(.int (2 : Int32)), (.int (2 : Int32)), (.int (1 : Int32))])
            refine Go.of (fun t k => XS.isub X51.here hx rfl (hb hby at_231) rfl k) ?_
            show Go p e below Φ T51 (mkF m 232 #[.val (.long i0), .second, .val (.long i1), .second, .val (.int i2), .val (.long v13), .second, .val (.ref b2), .val (.ref b4), .val (.ref b6), .val (.int (1 : Int32)), .val (.int (2 : Int32)), .val (.int (1 : Int32)), .val (.ref b6), .val (.ref b4), .val (.int (2 : Int32))] [(.int (0 : Int32)), (.int (1 : Int32))])
            refine Go.of (fun t k => XS.ifNo X51.here hx rfl (hb hby at_232) rfl (XT.i0_ne_f rfl) k) ?_
            show Go p e below Φ T51 (mkF m 235 #[.val (.long i0), .second, .val (.long i1), .second, .val (.int i2), .val (.long v13), .second, .val (.ref b2), .val (.ref b4), .val (.ref b6), .val (.int (1 : Int32)), .val (.int (2 : Int32)), .val (.int (1 : Int32)), .val (.ref b6), .val (.ref b4), .val (.int (2 : Int32))] [(.int (1 : Int32))])
            refine Go.of (fun t k => XS.iconst X51.here hx rfl (hb hby at_235) k) ?_
            show Go p e below Φ T51 (mkF m 236 #[.val (.long i0), .second, .val (.long i1), .second, .val (.int i2), .val (.long v13), .second, .val (.ref b2), .val (.ref b4), .val (.ref b6), .val (.int (1 : Int32)), .val (.int (2 : Int32)), .val (.int (1 : Int32)), .val (.ref b6), .val (.ref b4), .val (.int (2 : Int32))] [(.int (1 : Int32)), (.int (1 : Int32))])
            refine Go.of (fun t k => XS.goto X51.here hx rfl (pc0 := 236) (pc' := 240) rfl (hb hby at_236) (by decide) (by decide) k) ?_
            show Go p e below Φ T51 (mkF m 240 #[.val (.long i0), .second, .val (.long i1), .second, .val (.int i2), .val (.long v13), .second, .val (.ref b2), .val (.ref b4), .val (.ref b6), .val (.int (1 : Int32)), .val (.int (2 : Int32)), .val (.int (1 : Int32)), .val (.ref b6), .val (.ref b4), .val (.int (2 : Int32))] [(.int (1 : Int32)), (.int (1 : Int32))])
            refine Go.of (fun t k => XS.icmpNo X51.here hx rfl (hb hby at_240) rfl (XT.ii_ne_f rfl) k) ?_
            show Go p e below Φ T51 (mkF m 243 #[.val (.long i0), .second, .val (.long i1), .second, .val (.int i2), .val (.long v13), .second, .val (.ref b2), .val (.ref b4), .val (.ref b6), .val (.int (1 : Int32)), .val (.int (2 : Int32)), .val (.int (1 : Int32)), .val (.ref b6), .val (.ref b4), .val (.int (2 : Int32))] [])
            refine Go.of (fun t k => XS.iconst X51.here hx rfl (hb hby at_243) k) ?_
            show Go p e below Φ T51 (mkF m 244 #[.val (.long i0), .second, .val (.long i1), .second, .val (.int i2), .val (.long v13), .second, .val (.ref b2), .val (.ref b4), .val (.ref b6), .val (.int (1 : Int32)), .val (.int (2 : Int32)), .val (.int (1 : Int32)), .val (.ref b6), .val (.ref b4), .val (.int (2 : Int32))] [(.int (1 : Int32))])
            refine Go.of (fun t k => XS.goto X51.here hx rfl (pc0 := 244) (pc' := 248) rfl (hb hby at_244) (by decide) (by decide) k) ?_
            show Go p e below Φ T51 (mkF m 248 #[.val (.long i0), .second, .val (.long i1), .second, .val (.int i2), .val (.long v13), .second, .val (.ref b2), .val (.ref b4), .val (.ref b6), .val (.int (1 : Int32)), .val (.int (2 : Int32)), .val (.int (1 : Int32)), .val (.ref b6), .val (.ref b4), .val (.int (2 : Int32))] [(.int (1 : Int32))])
            refine Go.of (fun t k => XS.istore X51.here hx rfl (hb hby at_248) rfl (l' := #[.val (.long i0), .second, .val (.long i1), .second, .val (.int i2), .val (.long v13), .second, .val (.ref b2), .val (.ref b4), .val (.ref b6), .val (.int (1 : Int32)), .val (.int (2 : Int32)), .val (.int (1 : Int32)), .val (.ref b6), .val (.ref b4), .val (.int (2 : Int32))]) rfl k) ?_
            show Go p e below Φ T51 (mkF m 250 #[.val (.long i0), .second, .val (.long i1), .second, .val (.int i2), .val (.long v13), .second, .val (.ref b2), .val (.ref b4), .val (.ref b6), .val (.int (1 : Int32)), .val (.int (2 : Int32)), .val (.int (1 : Int32)), .val (.ref b6), .val (.ref b4), .val (.int (2 : Int32))] [])
            refine Go.of (fun t k => XS.iload X51.here hx rfl (hb hby at_250) rfl  k) ?_
            show Go p e below Φ T51 (mkF m 252 #[.val (.long i0), .second, .val (.long i1), .second, .val (.int i2), .val (.long v13), .second, .val (.ref b2), .val (.ref b4), .val (.ref b6), .val (.int (1 : Int32)), .val (.int (2 : Int32)), .val (.int (1 : Int32)), .val (.ref b6), .val (.ref b4), .val (.int (2 : Int32))] [(.int (1 : Int32))])
            rw [hΦ]
            refine Go.ret X51 hx Bd.notSynchronized Bd.returns rfl (Or.inl ⟨rfl, Or.inr (Or.inl rfl), _, rfl⟩) (hb hby at_252) (by decide) (by decide) ?_
            rw [(e51q)]
            exact ⟨rfl, N51⟩
      · obtain ⟨cq52, kq52, q52a, q52b, q52c⟩ := isOf hZ rfl E_b2
        obtain ⟨_, _, ⟨T52, L52, k52, n52⟩, -, X52, ⟨Lc52, hQ52, l52, y52, z52⟩, st52⟩ := X42.virtualBack hx (y := (⟨"com/example/demarq/demarq/broker/SortedMessages", "add", "(Lcom/example/demarq/demarq/broker/Message;)V"⟩ : MethodName)) (z := (⟨"com/example/demarq/demarq/broker/SortedMessages", "add", "(Lcom/example/demarq/demarq/broker/Message;)V"⟩ : MethodName)) hown (mvT hZ (hw _ (List.mem_of_getElem? (i := 33) rfl))) (mvT hZ (hw _ (List.mem_of_getElem? (i := 34) rfl))) (notFace_of_selects (args := #[]) (mvT hZ (hw _ (List.mem_of_getElem? (i := 36) rfl)))) (mvT hZ (hw _ (List.mem_of_getElem? (i := 36) rfl))) (mvT hZ (hw _ (List.mem_of_getElem? (i := 35) rfl))) (by decide) (backOf (W := 0) (rm5g l Z a0 hw [] b2 b4 b3 k3 (((0 : Int32), (.ref b6)) :: []) b6 i0 v13 T42.heap n0 Z42 F_b2_head F_b2_ring V_b3 F_b2_size E_b4 F_b4_position E_b6 F_b6_position (getH_hit (by decide) (by decide)) E_b2 g_b2 g_b3 ne_b2_b3 Ov3 (Ne.symm ne_b2_b6) (Ne.symm ne_b3_b6) (Ne.symm ne_b2_b4) (Ne.symm ne_b3_b4) hlt) hZ (hw _ (List.mem_of_getElem? (i := 37) rfl)) (hw _ (List.mem_of_getElem? (i := 2) rfl)) (by decide) (by decide)) q52a q52c (g := (mkF m 131 #[.val (.long i0), .second, .val (.long i1), .second, .val (.int i2), .val (.long v13), .second, .val (.ref b2), .val (.ref b4), .val (.ref b6), .val (.int (1 : Int32)), .val (.int (2 : Int32)), .val (.int (1 : Int32)), .val (.ref b6), .val (.ref b4), .unset] [(.ref b4), (.ref b2)])) rfl (by rw [hml]; rfl) (Steps.refl _) (argsL := [(.ref b4)]) (rest := []) (lenOf own_pd10 rfl) rfl (by show 2 * 0 + _ ≤ _; exact Nat.le_of_eq rfl) (hb hby at_131) (fun _ _ => ⟨rfl, rfl, (by decide : 4 + 1 ≤ _), (by decide : 27 + 2 ≤ _)⟩)
        dsimp only [Pt.U, Pt.locs, Pt.cells, Pt.slots] at X52 l52 y52 z52 st52 hQ52
        subst l52 y52 z52
        obtain ⟨rfl, N52q, K52q, c52_0, c52_1, c52_2, c52_3⟩ := hQ52
        have N52 := Fr.app N42 N52q
        obtain ⟨lc52, X52, N52⟩ : ∃ lc, Stand p l e room_1 s m #[(.long i0), (.long i1), (.int i2)] below meth c T52 lc 5 29 ∧ Fr n0 lc := ⟨_, X52, N52⟩
        have E_b2 := E_b2.keep K52q
        have E_b4 := E_b4.keep K52q
        have F_b4_position := F_b4_position.keep K52q (ninS (Ne.symm ne_b2_b4) (ninS (Ne.symm ne_b3_b4) nin0))
        have E_b6 := E_b6.keep K52q
        have F_b6_position := F_b6_position.keep K52q (ninS (Ne.symm ne_b2_b6) (ninS (Ne.symm ne_b3_b6) nin0))
        have F_b2_size := c52_0
        have F_b2_head := c52_1
        have F_b2_ring := c52_2
        have V_b3 : Arh Z T52.heap b3 k3 (.object "com/example/demarq/demarq/broker/Message") (16 : Int32) (((15 : Int32), (.ref b4)) :: (((0 : Int32), (.ref b6)) :: [])) [] .null := c52_3
        have Z52 := Nat.le_trans Z42 K52q.1
        refine Go.tr st52 ?_
        show Go p e below Φ T52 (mkF m 134 #[.val (.long i0), .second, .val (.long i1), .second, .val (.int i2), .val (.long v13), .second, .val (.ref b2), .val (.ref b4), .val (.ref b6), .val (.int (1 : Int32)), .val (.int (2 : Int32)), .val (.int (1 : Int32)), .val (.ref b6), .val (.ref b4), .unset] [])
        refine Go.of (fun t k => XS.iload X52.here hx rfl (hb hby at_134) rfl  k) ?_
        show Go p e below Φ T52 (mkF m 136 #[.val (.long i0), .second, .val (.long i1), .second, .val (.int i2), .val (.long v13), .second, .val (.ref b2), .val (.ref b4), .val (.ref b6), .val (.int (1 : Int32)), .val (.int (2 : Int32)), .val (.int (1 : Int32)), .val (.ref b6), .val (.ref b4), .unset] [(.int (1 : Int32))])
        refine Go.of (fun t k => XS.ifNo X52.here hx rfl (hb hby at_136) rfl (XT.i0_eq_f (by decide)) k) ?_
        show Go p e below Φ T52 (mkF m 139 #[.val (.long i0), .second, .val (.long i1), .second, .val (.int i2), .val (.long v13), .second, .val (.ref b2), .val (.ref b4), .val (.ref b6), .val (.int (1 : Int32)), .val (.int (2 : Int32)), .val (.int (1 : Int32)), .val (.ref b6), .val (.ref b4), .unset] [])
        refine Go.of (fun t k => XS.aload X52.here hx rfl (hb hby at_139) rfl rfl  k) ?_
        show Go p e below Φ T52 (mkF m 141 #[.val (.long i0), .second, .val (.long i1), .second, .val (.int i2), .val (.long v13), .second, .val (.ref b2), .val (.ref b4), .val (.ref b6), .val (.int (1 : Int32)), .val (.int (2 : Int32)), .val (.int (1 : Int32)), .val (.ref b6), .val (.ref b4), .unset] [(.ref b2)])
        obtain ⟨cq53, kq53, q53a, q53b, q53c⟩ := isOf hZ rfl E_b2
        obtain ⟨_, _, ⟨T53, L53, k53, n53⟩, -, X53, ⟨Lc53, hQ53, l53, y53, z53⟩, st53⟩ := X52.virtualBack hx (y := (⟨"com/example/demarq/demarq/broker/SortedMessages", "isEmpty", "()Z"⟩ : MethodName)) (z := (⟨"com/example/demarq/demarq/broker/SortedMessages", "isEmpty", "()Z"⟩ : MethodName)) hown (mvT hZ (hw _ (List.mem_of_getElem? (i := 26) rfl))) (mvT hZ (hw _ (List.mem_of_getElem? (i := 27) rfl))) (notFace_of_selects (args := #[]) (mvT hZ (hw _ (List.mem_of_getElem? (i := 29) rfl)))) (mvT hZ (hw _ (List.mem_of_getElem? (i := 29) rfl))) (mvT hZ (hw _ (List.mem_of_getElem? (i := 28) rfl))) (by decide) (backOf (W := 0) (rm4n l Z a0 hw [] b2 (2 : Int32) T52.heap n0 Z52 F_b2_size (by decide)) hZ (hw _ (List.mem_of_getElem? (i := 30) rfl)) (hw _ (List.mem_of_getElem? (i := 2) rfl)) (by decide) (by decide)) q53a q53c (g := (mkF m 141 #[.val (.long i0), .second, .val (.long i1), .second, .val (.int i2), .val (.long v13), .second, .val (.ref b2), .val (.ref b4), .val (.ref b6), .val (.int (1 : Int32)), .val (.int (2 : Int32)), .val (.int (1 : Int32)), .val (.ref b6), .val (.ref b4), .unset] [(.ref b2)])) rfl (by rw [hml]; rfl) (Steps.refl _) (argsL := []) (rest := []) (lenOf own_pd9 rfl) rfl (by show 2 * 0 + _ ≤ _; exact Nat.le_of_eq rfl) (hb hby at_141) (fun _ _ => ⟨rfl, rfl, (by decide : 5 + 0 ≤ _), (by decide : 29 + 0 ≤ _)⟩)
        dsimp only [Pt.U, Pt.locs, Pt.cells, Pt.slots] at X53 l53 y53 z53 st53 hQ53
        subst l53 y53 z53
        obtain ⟨rfl, N53q, e53q⟩ := hQ53
        have N53 := Fr.app N52 N53q
        obtain ⟨lc53, X53, N53⟩ : ∃ lc, Stand p l e room_1 s m #[(.long i0), (.long i1), (.int i2)] below meth c T53 lc 5 29 ∧ Fr n0 lc := ⟨_, X53, N53⟩
        refine Go.tr st53 ?_
        show Go p e below Φ T53 (mkF m 144 #[.val (.long i0), .second, .val (.long i1), .second, .val (.int i2), .val (.long v13), .second, .val (.ref b2), .val (.ref b4), .val (.ref b6), .val (.int (1 : Int32)), .val (.int (2 : Int32)), .val (.int (1 : Int32)), .val (.ref b6), .val (.ref b4), .unset] [(.int (0 : Int32))])
        refine Go.of (fun t k => XS.iload X53.here hx rfl (hb hby at_144) rfl  k) ?_
        show Go p e below Φ T53 (mkF m 146 #[.val (.long i0), .second, .val (.long i1), .second, .val (.int i2), .val (.long v13), .second, .val (.ref b2), .val (.ref b4), .val (.ref b6), .val (.int (1 : Int32)), .val (.int (2 : Int32)), .val (.int (1 : Int32)), .val (.ref b6), .val (.ref b4), .unset] [(.int (2 : Int32)), (.int (0 : Int32))])
        refine Go.of (fun t k => XS.ifYes X53.here hx rfl (pc0 := 146) (pc' := 153) rfl (hb hby at_146) rfl (XT.i0_ne_t (by decide)) (by decide) (by decide) k) ?_
        show Go p e below Φ T53 (mkF m 153 #[.val (.long i0), .second, .val (.long i1), .second, .val (.int i2), .val (.long v13), .second, .val (.ref b2), .val (.ref b4), .val (.ref b6), .val (.int (1 : Int32)), .val (.int (2 : Int32)), .val (.int (1 : Int32)), .val (.ref b6), .val (.ref b4), .unset] [(.int (0 : Int32))])
        refine Go.of (fun t k => XS.iconst X53.here hx rfl (hb hby at_153) k) ?_
        show Go p e below Φ T53 (mkF m 154 #[.val (.long i0), .second, .val (.long i1), .second, .val (.int i2), .val (.long v13), .second, .val (.ref b2), .val (.ref b4), .val (.ref b6), .val (.int (1 : Int32)), .val (.int (2 : Int32)), .val (.int (1 : Int32)), .val (.ref b6), .val (.ref b4), .unset] [(.int (0 : Int32)), (.int (0 : Int32))])
        refine Go.of (fun t k => XS.icmpNo X53.here hx rfl (hb hby at_154) rfl (XT.ii_ne_f rfl) k) ?_
        show Go p e below Φ T53 (mkF m 157 #[.val (.long i0), .second, .val (.long i1), .second, .val (.int i2), .val (.long v13), .second, .val (.ref b2), .val (.ref b4), .val (.ref b6), .val (.int (1 : Int32)), .val (.int (2 : Int32)), .val (.int (1 : Int32)), .val (.ref b6), .val (.ref b4), .unset] [])
        refine Go.of (fun t k => XS.iconst X53.here hx rfl (hb hby at_157) k) ?_
        show Go p e below Φ T53 (mkF m 158 #[.val (.long i0), .second, .val (.long i1), .second, .val (.int i2), .val (.long v13), .second, .val (.ref b2), .val (.ref b4), .val (.ref b6), .val (.int (1 : Int32)), .val (.int (2 : Int32)), .val (.int (1 : Int32)), .val (.ref b6), .val (.ref b4), .unset] [(.int (1 : Int32))])
        refine Go.of (fun t k => XS.goto X53.here hx rfl (pc0 := 158) (pc' := 162) rfl (hb hby at_158) (by decide) (by decide) k) ?_
        show Go p e below Φ T53 (mkF m 162 #[.val (.long i0), .second, .val (.long i1), .second, .val (.int i2), .val (.long v13), .second, .val (.ref b2), .val (.ref b4), .val (.ref b6), .val (.int (1 : Int32)), .val (.int (2 : Int32)), .val (.int (1 : Int32)), .val (.ref b6), .val (.ref b4), .unset] [(.int (1 : Int32))])
        refine Go.of (fun t k => XS.istore X53.here hx rfl (hb hby at_162) rfl (l' := #[.val (.long i0), .second, .val (.long i1), .second, .val (.int i2), .val (.long v13), .second, .val (.ref b2), .val (.ref b4), .val (.ref b6), .val (.int (1 : Int32)), .val (.int (2 : Int32)), .val (.int (1 : Int32)), .val (.ref b6), .val (.ref b4), .unset]) rfl k) ?_
        show Go p e below Φ T53 (mkF m 164 #[.val (.long i0), .second, .val (.long i1), .second, .val (.int i2), .val (.long v13), .second, .val (.ref b2), .val (.ref b4), .val (.ref b6), .val (.int (1 : Int32)), .val (.int (2 : Int32)), .val (.int (1 : Int32)), .val (.ref b6), .val (.ref b4), .unset] [])
        refine Go.of (fun t k => XS.iconst X53.here hx rfl (hb hby at_164) k) ?_
        show Go p e below Φ T53 (mkF m 165 #[.val (.long i0), .second, .val (.long i1), .second, .val (.int i2), .val (.long v13), .second, .val (.ref b2), .val (.ref b4), .val (.ref b6), .val (.int (1 : Int32)), .val (.int (2 : Int32)), .val (.int (1 : Int32)), .val (.ref b6), .val (.ref b4), .unset] [(.int (0 : Int32))])
        refine Go.of (fun t k => XS.istore X53.here hx rfl (hb hby at_165) rfl (l' := #[.val (.long i0), .second, .val (.long i1), .second, .val (.int i2), .val (.long v13), .second, .val (.ref b2), .val (.ref b4), .val (.ref b6), .val (.int (1 : Int32)), .val (.int (2 : Int32)), .val (.int (1 : Int32)), .val (.ref b6), .val (.ref b4), .val (.int (0 : Int32))]) rfl k) ?_
        show Go p e below Φ T53 (mkF m 167 #[.val (.long i0), .second, .val (.long i1), .second, .val (.int i2), .val (.long v13), .second, .val (.ref b2), .val (.ref b4), .val (.ref b6), .val (.int (1 : Int32)), .val (.int (2 : Int32)), .val (.int (1 : Int32)), .val (.ref b6), .val (.ref b4), .val (.int (0 : Int32))] [])
        refine Go.of (fun t k => XS.iload X53.here hx rfl (hb hby at_167) rfl  k) ?_
        show Go p e below Φ T53 (mkF m 169 #[.val (.long i0), .second, .val (.long i1), .second, .val (.int i2), .val (.long v13), .second, .val (.ref b2), .val (.ref b4), .val (.ref b6), .val (.int (1 : Int32)), .val (.int (2 : Int32)), .val (.int (1 : Int32)), .val (.ref b6), .val (.ref b4), .val (.int (0 : Int32))] [(.int (2 : Int32))])
        refine Go.of (fun t k => XS.iconst X53.here hx rfl (hb hby at_169) k) ?_
        show Go p e below Φ T53 (mkF m 170 #[.val (.long i0), .second, .val (.long i1), .second, .val (.int i2), .val (.long v13), .second, .val (.ref b2), .val (.ref b4), .val (.ref b6), .val (.int (1 : Int32)), .val (.int (2 : Int32)), .val (.int (1 : Int32)), .val (.ref b6), .val (.ref b4), .val (.int (0 : Int32))] [(.int (1 : Int32)), (.int (2 : Int32))])
        refine Go.of (fun t k => XS.icmpNo X53.here hx rfl (hb hby at_170) rfl (XT.ii_lt_f (by decide)) k) ?_
        show Go p e below Φ T53 (mkF m 173 #[.val (.long i0), .second, .val (.long i1), .second, .val (.int i2), .val (.long v13), .second, .val (.ref b2), .val (.ref b4), .val (.ref b6), .val (.int (1 : Int32)), .val (.int (2 : Int32)), .val (.int (1 : Int32)), .val (.ref b6), .val (.ref b4), .val (.int (0 : Int32))] [])
        refine Go.of (fun t k => XS.iload X53.here hx rfl (hb hby at_173) rfl  k) ?_
        show Go p e below Φ T53 (mkF m 175 #[.val (.long i0), .second, .val (.long i1), .second, .val (.int i2), .val (.long v13), .second, .val (.ref b2), .val (.ref b4), .val (.ref b6), .val (.int (1 : Int32)), .val (.int (2 : Int32)), .val (.int (1 : Int32)), .val (.ref b6), .val (.ref b4), .val (.int (0 : Int32))] [(.int i2)])
        refine Go.of (fun t k => XS.iconst X53.here hx rfl (hb hby at_175) k) ?_
        show Go p e below Φ T53 (mkF m 176 #[.val (.long i0), .second, .val (.long i1), .second, .val (.int i2), .val (.long v13), .second, .val (.ref b2), .val (.ref b4), .val (.ref b6), .val (.int (1 : Int32)), .val (.int (2 : Int32)), .val (.int (1 : Int32)), .val (.ref b6), .val (.ref b4), .val (.int (0 : Int32))] [(.int (2 : Int32)), (.int i2)])
        refine Go.of (fun t k => XS.iushr X53.here hx rfl (hb hby at_176) rfl k) ?_
        show Go p e below Φ T53 (mkF m 177 #[.val (.long i0), .second, .val (.long i1), .second, .val (.int i2), .val (.long v13), .second, .val (.ref b2), .val (.ref b4), .val (.ref b6), .val (.int (1 : Int32)), .val (.int (2 : Int32)), .val (.int (1 : Int32)), .val (.ref b6), .val (.ref b4), .val (.int (0 : Int32))] [(.int (own_ushr i2 (2 : Int32)))])
        refine Go.of (fun t k => XS.iconst X53.here hx rfl (hb hby at_177) k) ?_
        show Go p e below Φ T53 (mkF m 178 #[.val (.long i0), .second, .val (.long i1), .second, .val (.int i2), .val (.long v13), .second, .val (.ref b2), .val (.ref b4), .val (.ref b6), .val (.int (1 : Int32)), .val (.int (2 : Int32)), .val (.int (1 : Int32)), .val (.ref b6), .val (.ref b4), .val (.int (0 : Int32))] [(.int (1 : Int32)), (.int (own_ushr i2 (2 : Int32)))])
        refine Go.of (fun t k => XS.iand X53.here hx rfl (hb hby at_178) rfl k) ?_
        show Go p e below Φ T53 (mkF m 179 #[.val (.long i0), .second, .val (.long i1), .second, .val (.int i2), .val (.long v13), .second, .val (.ref b2), .val (.ref b4), .val (.ref b6), .val (.int (1 : Int32)), .val (.int (2 : Int32)), .val (.int (1 : Int32)), .val (.ref b6), .val (.ref b4), .val (.int (0 : Int32))] [(.int ((own_ushr i2 (2 : Int32)) &&& (1 : Int32)))])
        by_cases hc179 : ((own_ushr i2 (2 : Int32)) &&& (1 : Int32)) = (0 : Int32)
        · refine Go.of (fun t k => XS.ifYes X53.here hx rfl (pc0 := 179) (pc' := 192) rfl (hb hby at_179) rfl (XT.i0_eq_t hc179) (by decide) (by decide) k) ?_
          show Go p e below Φ T53 (mkF m 192 #[.val (.long i0), .second, .val (.long i1), .second, .val (.int i2), .val (.long v13), .second, .val (.ref b2), .val (.ref b4), .val (.ref b6), .val (.int (1 : Int32)), .val (.int (2 : Int32)), .val (.int (1 : Int32)), .val (.ref b6), .val (.ref b4), .val (.int (0 : Int32))] [])
          refine Go.of (fun t k => XS.iload X53.here hx rfl (hb hby at_192) rfl  k) ?_
          show Go p e below Φ T53 (mkF m 194 #[.val (.long i0), .second, .val (.long i1), .second, .val (.int i2), .val (.long v13), .second, .val (.ref b2), .val (.ref b4), .val (.ref b6), .val (.int (1 : Int32)), .val (.int (2 : Int32)), .val (.int (1 : Int32)), .val (.ref b6), .val (.ref b4), .val (.int (0 : Int32))] [(.int (2 : Int32))])
          refine Go.of (fun t k => XS.iconst X53.here hx rfl (hb hby at_194) k) ?_
          show Go p e below Φ T53 (mkF m 195 #[.val (.long i0), .second, .val (.long i1), .second, .val (.int i2), .val (.long v13), .second, .val (.ref b2), .val (.ref b4), .val (.ref b6), .val (.int (1 : Int32)), .val (.int (2 : Int32)), .val (.int (1 : Int32)), .val (.ref b6), .val (.ref b4), .val (.int (0 : Int32))] [(.int (2 : Int32)), (.int (2 : Int32))])
          refine Go.of (fun t k => XS.icmpNo X53.here hx rfl (hb hby at_195) rfl (XT.ii_lt_f (by decide)) k) ?_
          show Go p e below Φ T53 (mkF m 198 #[.val (.long i0), .second, .val (.long i1), .second, .val (.int i2), .val (.long v13), .second, .val (.ref b2), .val (.ref b4), .val (.ref b6), .val (.int (1 : Int32)), .val (.int (2 : Int32)), .val (.int (1 : Int32)), .val (.ref b6), .val (.ref b4), .val (.int (0 : Int32))] [])
          refine Go.of (fun t k => XS.iload X53.here hx rfl (hb hby at_198) rfl  k) ?_
          show Go p e below Φ T53 (mkF m 200 #[.val (.long i0), .second, .val (.long i1), .second, .val (.int i2), .val (.long v13), .second, .val (.ref b2), .val (.ref b4), .val (.ref b6), .val (.int (1 : Int32)), .val (.int (2 : Int32)), .val (.int (1 : Int32)), .val (.ref b6), .val (.ref b4), .val (.int (0 : Int32))] [(.int i2)])
          refine Go.of (fun t k => XS.iconst X53.here hx rfl (hb hby at_200) k) ?_
          show Go p e below Φ T53 (mkF m 201 #[.val (.long i0), .second, .val (.long i1), .second, .val (.int i2), .val (.long v13), .second, .val (.ref b2), .val (.ref b4), .val (.ref b6), .val (.int (1 : Int32)), .val (.int (2 : Int32)), .val (.int (1 : Int32)), .val (.ref b6), .val (.ref b4), .val (.int (0 : Int32))] [(.int (3 : Int32)), (.int i2)])
          refine Go.of (fun t k => XS.iushr X53.here hx rfl (hb hby at_201) rfl k) ?_
          show Go p e below Φ T53 (mkF m 202 #[.val (.long i0), .second, .val (.long i1), .second, .val (.int i2), .val (.long v13), .second, .val (.ref b2), .val (.ref b4), .val (.ref b6), .val (.int (1 : Int32)), .val (.int (2 : Int32)), .val (.int (1 : Int32)), .val (.ref b6), .val (.ref b4), .val (.int (0 : Int32))] [(.int (own_ushr i2 (3 : Int32)))])
          refine Go.of (fun t k => XS.iconst X53.here hx rfl (hb hby at_202) k) ?_
          show Go p e below Φ T53 (mkF m 203 #[.val (.long i0), .second, .val (.long i1), .second, .val (.int i2), .val (.long v13), .second, .val (.ref b2), .val (.ref b4), .val (.ref b6), .val (.int (1 : Int32)), .val (.int (2 : Int32)), .val (.int (1 : Int32)), .val (.ref b6), .val (.ref b4), .val (.int (0 : Int32))] [(.int (1 : Int32)), (.int (own_ushr i2 (3 : Int32)))])
          refine Go.of (fun t k => XS.iand X53.here hx rfl (hb hby at_203) rfl k) ?_
          show Go p e below Φ T53 (mkF m 204 #[.val (.long i0), .second, .val (.long i1), .second, .val (.int i2), .val (.long v13), .second, .val (.ref b2), .val (.ref b4), .val (.ref b6), .val (.int (1 : Int32)), .val (.int (2 : Int32)), .val (.int (1 : Int32)), .val (.ref b6), .val (.ref b4), .val (.int (0 : Int32))] [(.int ((own_ushr i2 (3 : Int32)) &&& (1 : Int32)))])
          by_cases hc204 : ((own_ushr i2 (3 : Int32)) &&& (1 : Int32)) = (0 : Int32)
          · refine Go.of (fun t k => XS.ifYes X53.here hx rfl (pc0 := 204) (pc' := 217) rfl (hb hby at_204) rfl (XT.i0_eq_t hc204) (by decide) (by decide) k) ?_
            show Go p e below Φ T53 (mkF m 217 #[.val (.long i0), .second, .val (.long i1), .second, .val (.int i2), .val (.long v13), .second, .val (.ref b2), .val (.ref b4), .val (.ref b6), .val (.int (1 : Int32)), .val (.int (2 : Int32)), .val (.int (1 : Int32)), .val (.ref b6), .val (.ref b4), .val (.int (0 : Int32))] [])
            refine Go.of (fun t k => XS.iload X53.here hx rfl (hb hby at_217) rfl  k) ?_
            show Go p e below Φ T53 (mkF m 219 #[.val (.long i0), .second, .val (.long i1), .second, .val (.int i2), .val (.long v13), .second, .val (.ref b2), .val (.ref b4), .val (.ref b6), .val (.int (1 : Int32)), .val (.int (2 : Int32)), .val (.int (1 : Int32)), .val (.ref b6), .val (.ref b4), .val (.int (0 : Int32))] [(.int (1 : Int32))])
            refine Go.of (fun t k => XS.ifNo X53.here hx rfl (hb hby at_219) rfl (XT.i0_eq_f (by decide)) k) ?_
            show Go p e below Φ T53 (mkF m 222 #[.val (.long i0), .second, .val (.long i1), .second, .val (.int i2), .val (.long v13), .second, .val (.ref b2), .val (.ref b4), .val (.ref b6), .val (.int (1 : Int32)), .val (.int (2 : Int32)), .val (.int (1 : Int32)), .val (.ref b6), .val (.ref b4), .val (.int (0 : Int32))] [])
            refine Go.of (fun t k => XS.aload X53.here hx rfl (hb hby at_222) rfl rfl  k) ?_
            show Go p e below Φ T53 (mkF m 224 #[.val (.long i0), .second, .val (.long i1), .second, .val (.int i2), .val (.long v13), .second, .val (.ref b2), .val (.ref b4), .val (.ref b6), .val (.int (1 : Int32)), .val (.int (2 : Int32)), .val (.int (1 : Int32)), .val (.ref b6), .val (.ref b4), .val (.int (0 : Int32))] [(.ref b2)])
            obtain ⟨cq54, kq54, q54a, q54b, q54c⟩ := isOf hZ (e53q) E_b2
            obtain ⟨_, _, ⟨T54, L54, k54, n54⟩, -, X54, ⟨Lc54, hQ54, l54, y54, z54⟩, st54⟩ := X53.virtualBack hx (y := (⟨"com/example/demarq/demarq/broker/SortedMessages", "isEmpty", "()Z"⟩ : MethodName)) (z := (⟨"com/example/demarq/demarq/broker/SortedMessages", "isEmpty", "()Z"⟩ : MethodName)) hown (mvT hZ (hw _ (List.mem_of_getElem? (i := 26) rfl))) (mvT hZ (hw _ (List.mem_of_getElem? (i := 27) rfl))) (notFace_of_selects (args := #[]) (mvT hZ (hw _ (List.mem_of_getElem? (i := 29) rfl)))) (mvT hZ (hw _ (List.mem_of_getElem? (i := 29) rfl))) (mvT hZ (hw _ (List.mem_of_getElem? (i := 28) rfl))) (by decide) (backOf (W := 0) (rm4n l Z a0 hw [] b2 (2 : Int32) T52.heap n0 Z52 F_b2_size (by decide)) hZ (hw _ (List.mem_of_getElem? (i := 30) rfl)) (hw _ (List.mem_of_getElem? (i := 2) rfl)) (by decide) (by decide)) q54a q54c (g := (mkF m 224 #[.val (.long i0), .second, .val (.long i1), .second, .val (.int i2), .val (.long v13), .second, .val (.ref b2), .val (.ref b4), .val (.ref b6), .val (.int (1 : Int32)), .val (.int (2 : Int32)), .val (.int (1 : Int32)), .val (.ref b6), .val (.ref b4), .val (.int (0 : Int32))] [(.ref b2)])) rfl (by rw [hml]; rfl) (Steps.refl _) (argsL := []) (rest := []) (lenOf own_pd9 rfl) rfl (by show 2 * 0 + _ ≤ _; exact Nat.le_of_eq rfl) (hb hby at_224) (fun _ _ => ⟨rfl, (e53q), (by decide : 5 + 0 ≤ _), (by decide : 29 + 0 ≤ _)⟩)
            dsimp only [Pt.U, Pt.locs, Pt.cells, Pt.slots] at X54 l54 y54 z54 st54 hQ54
            subst l54 y54 z54
            obtain ⟨rfl, N54q, e54q⟩ := hQ54
            have N54 := Fr.app N53 N54q
            obtain ⟨lc54, X54, N54⟩ : ∃ lc, Stand p l e room_1 s m #[(.long i0), (.long i1), (.int i2)] below meth c T54 lc 5 29 ∧ Fr n0 lc := ⟨_, X54, N54⟩
            refine Go.tr st54 ?_
            show Go p e below Φ T54 (mkF m 227 #[.val (.long i0), .second, .val (.long i1), .second, .val (.int i2), .val (.long v13), .second, .val (.ref b2), .val (.ref b4), .val (.ref b6), .val (.int (1 : Int32)), .val (.int (2 : Int32)), .val (.int (1 : Int32)), .val (.ref b6), .val (.ref b4), .val (.int (0 : Int32))] [(.int (0 : Int32))])
            refine Go.of (fun t k => XS.iload X54.here hx rfl (hb hby at_227) rfl  k) ?_
            show Go p e below Φ T54 (mkF m 229 #[.val (.long i0), .second, .val (.long i1), .second, .val (.int i2), .val (.long v13), .second, .val (.ref b2), .val (.ref b4), .val (.ref b6), .val (.int (1 : Int32)), .val (.int (2 : Int32)), .val (.int (1 : Int32)), .val (.ref b6), .val (.ref b4), .val (.int (0 : Int32))] [(.int (2 : Int32)), (.int (0 : Int32))])
            refine Go.of (fun t k => XS.iload X54.here hx rfl (hb hby at_229) rfl  k) ?_
            show Go p e below Φ T54 (mkF m 231 #[.val (.long i0), .second, .val (.long i1), .second, .val (.int i2), .val (.long v13), .second, .val (.ref b2), .val (.ref b4), .val (.ref b6), .val (.int (1 : Int32)), .val (.int (2 : Int32)), .val (.int (1 : Int32)), .val (.ref b6), .val (.ref b4), .val (.int (0 : Int32))] [(.int (0 : Int32)), (.int (2 : Int32)), (.int (0 : Int32))])
            refine Go.of (fun t k => XS.isub X54.here hx rfl (hb hby at_231) rfl k) ?_
            show Go p e below Φ T54 (mkF m 232 #[.val (.long i0), .second, .val (.long i1), .second, .val (.int i2), .val (.long v13), .second, .val (.ref b2), .val (.ref b4), .val (.ref b6), .val (.int (1 : Int32)), .val (.int (2 : Int32)), .val (.int (1 : Int32)), .val (.ref b6), .val (.ref b4), .val (.int (0 : Int32))] [(.int (2 : Int32)), (.int (0 : Int32))])
            refine Go.of (fun t k => XS.ifYes X54.here hx rfl (pc0 := 232) (pc' := 239) rfl (hb hby at_232) rfl (XT.i0_ne_t (by decide)) (by decide) (by decide) k) ?_
            show Go p e below Φ T54 (mkF m 239 #[.val (.long i0), .second, .val (.long i1), .second, .val (.int i2), .val (.long v13), .second, .val (.ref b2), .val (.ref b4), .val (.ref b6), .val (.int (1 : Int32)), .val (.int (2 : Int32)), .val (.int (1 : Int32)), .val (.ref b6), .val (.ref b4), .val (.int (0 : Int32))] [(.int (0 : Int32))])
            refine Go.of (fun t k => XS.iconst X54.here hx rfl (hb hby at_239) k) ?_
            show Go p e below Φ T54 (mkF m 240 #[.val (.long i0), .second, .val (.long i1), .second, .val (.int i2), .val (.long v13), .second, .val (.ref b2), .val (.ref b4), .val (.ref b6), .val (.int (1 : Int32)), .val (.int (2 : Int32)), .val (.int (1 : Int32)), .val (.ref b6), .val (.ref b4), .val (.int (0 : Int32))] [(.int (0 : Int32)), (.int (0 : Int32))])
            refine Go.of (fun t k => XS.icmpNo X54.here hx rfl (hb hby at_240) rfl (XT.ii_ne_f rfl) k) ?_
            show Go p e below Φ T54 (mkF m 243 #[.val (.long i0), .second, .val (.long i1), .second, .val (.int i2), .val (.long v13), .second, .val (.ref b2), .val (.ref b4), .val (.ref b6), .val (.int (1 : Int32)), .val (.int (2 : Int32)), .val (.int (1 : Int32)), .val (.ref b6), .val (.ref b4), .val (.int (0 : Int32))] [])
            refine Go.of (fun t k => XS.iconst X54.here hx rfl (hb hby at_243) k) ?_
            show Go p e below Φ T54 (mkF m 244 #[.val (.long i0), .second, .val (.long i1), .second, .val (.int i2), .val (.long v13), .second, .val (.ref b2), .val (.ref b4), .val (.ref b6), .val (.int (1 : Int32)), .val (.int (2 : Int32)), .val (.int (1 : Int32)), .val (.ref b6), .val (.ref b4), .val (.int (0 : Int32))] [(.int (1 : Int32))])
            refine Go.of (fun t k => XS.goto X54.here hx rfl (pc0 := 244) (pc' := 248) rfl (hb hby at_244) (by decide) (by decide) k) ?_
            show Go p e below Φ T54 (mkF m 248 #[.val (.long i0), .second, .val (.long i1), .second, .val (.int i2), .val (.long v13), .second, .val (.ref b2), .val (.ref b4), .val (.ref b6), .val (.int (1 : Int32)), .val (.int (2 : Int32)), .val (.int (1 : Int32)), .val (.ref b6), .val (.ref b4), .val (.int (0 : Int32))] [(.int (1 : Int32))])
            refine Go.of (fun t k => XS.istore X54.here hx rfl (hb hby at_248) rfl (l' := #[.val (.long i0), .second, .val (.long i1), .second, .val (.int i2), .val (.long v13), .second, .val (.ref b2), .val (.ref b4), .val (.ref b6), .val (.int (1 : Int32)), .val (.int (2 : Int32)), .val (.int (1 : Int32)), .val (.ref b6), .val (.ref b4), .val (.int (0 : Int32))]) rfl k) ?_
            show Go p e below Φ T54 (mkF m 250 #[.val (.long i0), .second, .val (.long i1), .second, .val (.int i2), .val (.long v13), .second, .val (.ref b2), .val (.ref b4), .val (.ref b6), .val (.int (1 : Int32)), .val (.int (2 : Int32)), .val (.int (1 : Int32)), .val (.ref b6), .val (.ref b4), .val (.int (0 : Int32))] [])
            refine Go.of (fun t k => XS.iload X54.here hx rfl (hb hby at_250) rfl  k) ?_
            show Go p e below Φ T54 (mkF m 252 #[.val (.long i0), .second, .val (.long i1), .second, .val (.int i2), .val (.long v13), .second, .val (.ref b2), .val (.ref b4), .val (.ref b6), .val (.int (1 : Int32)), .val (.int (2 : Int32)), .val (.int (1 : Int32)), .val (.ref b6), .val (.ref b4), .val (.int (0 : Int32))] [(.int (1 : Int32))])
            rw [hΦ]
            refine Go.ret X54 hx Bd.notSynchronized Bd.returns rfl (Or.inl ⟨rfl, Or.inr (Or.inl rfl), _, rfl⟩) (hb hby at_252) (by decide) (by decide) ?_
            rw [(e54q)]
            exact ⟨rfl, N54⟩
          · refine Go.of (fun t k => XS.ifNo X53.here hx rfl (hb hby at_204) rfl (XT.i0_eq_f hc204) k) ?_
            show Go p e below Φ T53 (mkF m 207 #[.val (.long i0), .second, .val (.long i1), .second, .val (.int i2), .val (.long v13), .second, .val (.ref b2), .val (.ref b4), .val (.ref b6), .val (.int (1 : Int32)), .val (.int (2 : Int32)), .val (.int (1 : Int32)), .val (.ref b6), .val (.ref b4), .val (.int (0 : Int32))] [])
            refine Go.of (fun t k => XS.aload X53.here hx rfl (hb hby at_207) rfl rfl  k) ?_
            show Go p e below Φ T53 (mkF m 209 #[.val (.long i0), .second, .val (.long i1), .second, .val (.int i2), .val (.long v13), .second, .val (.ref b2), .val (.ref b4), .val (.ref b6), .val (.int (1 : Int32)), .val (.int (2 : Int32)), .val (.int (1 : Int32)), .val (.ref b6), .val (.ref b4), .val (.int (0 : Int32))] [(.ref b2)])
            refine Go.of (fun t k => XS.aload X53.here hx rfl (hb hby at_209) rfl rfl  k) ?_
            show Go p e below Φ T53 (mkF m 211 #[.val (.long i0), .second, .val (.long i1), .second, .val (.int i2), .val (.long v13), .second, .val (.ref b2), .val (.ref b4), .val (.ref b6), .val (.int (1 : Int32)), .val (.int (2 : Int32)), .val (.int (1 : Int32)), .val (.ref b6), .val (.ref b4), .val (.int (0 : Int32))] [(.ref b4), (.ref b2)])
            obtain ⟨cq55, kq55, q55a, q55b, q55c⟩ := isOf hZ (e53q) E_b2
            obtain ⟨_, _, ⟨T55, L55, k55, n55⟩, -, X55, ⟨Lc55, hQ55, l55, y55, z55⟩, st55⟩ := X53.virtualBack hx (y := (⟨"com/example/demarq/demarq/broker/SortedMessages", "remove", "(Lcom/example/demarq/demarq/broker/Message;)V"⟩ : MethodName)) (z := (⟨"com/example/demarq/demarq/broker/SortedMessages", "remove", "(Lcom/example/demarq/demarq/broker/Message;)V"⟩ : MethodName)) hown (mvT hZ (hw _ (List.mem_of_getElem? (i := 49) rfl))) (mvT hZ (hw _ (List.mem_of_getElem? (i := 50) rfl))) (notFace_of_selects (args := #[]) (mvT hZ (hw _ (List.mem_of_getElem? (i := 52) rfl)))) (mvT hZ (hw _ (List.mem_of_getElem? (i := 52) rfl))) (mvT hZ (hw _ (List.mem_of_getElem? (i := 51) rfl))) (by decide) (backOf (W := 0) (rm8x l Z a0 hw [] b2 b4 b3 k3 (((15 : Int32), (.ref b4)) :: (((0 : Int32), (.ref b6)) :: [])) (15 : Int32) i0 T52.heap n0 Z52 F_b2_head F_b2_ring V_b3 E_b2 g_b2 g_b3 ne_b2_b3 F_b2_size ⟨by decide, by decide⟩ (getH_hit (by decide) (by decide)) E_b4 F_b4_position ⟨by decide, by decide⟩ (Ne.symm ne_b2_b4) (Ne.symm ne_b3_b4)) hZ (hw _ (List.mem_of_getElem? (i := 53) rfl)) (hw _ (List.mem_of_getElem? (i := 2) rfl)) (by decide) (by decide)) q55a q55c (g := (mkF m 211 #[.val (.long i0), .second, .val (.long i1), .second, .val (.int i2), .val (.long v13), .second, .val (.ref b2), .val (.ref b4), .val (.ref b6), .val (.int (1 : Int32)), .val (.int (2 : Int32)), .val (.int (1 : Int32)), .val (.ref b6), .val (.ref b4), .val (.int (0 : Int32))] [(.ref b4), (.ref b2)])) rfl (by rw [hml]; rfl) (Steps.refl _) (argsL := [(.ref b4)]) (rest := []) (lenOf own_pd10 rfl) rfl (by show 2 * 0 + _ ≤ _; exact Nat.le_of_eq rfl) (hb hby at_211) (fun _ _ => ⟨rfl, (e53q), (by decide : 5 + 1 ≤ _), (by decide : 29 + 2 ≤ _)⟩)
            dsimp only [Pt.U, Pt.locs, Pt.cells, Pt.slots] at X55 l55 y55 z55 st55 hQ55
            subst l55 y55 z55
            obtain ⟨rfl, N55q, K55q, c55_0, c55_1, c55_2, c55_3⟩ := hQ55
            have N55 := Fr.app N53 N55q
            obtain ⟨lc55, X55, N55⟩ : ∃ lc, Stand p l e room_1 s m #[(.long i0), (.long i1), (.int i2)] below meth c T55 lc 6 31 ∧ Fr n0 lc := ⟨_, X55, N55⟩
            have E_b2 := E_b2.keep K55q
            have E_b4 := E_b4.keep K55q
            have F_b4_position := F_b4_position.keep K55q (ninS (Ne.symm ne_b2_b4) (ninS (Ne.symm ne_b3_b4) nin0))
            have E_b6 := E_b6.keep K55q
            have F_b6_position := F_b6_position.keep K55q (ninS (Ne.symm ne_b2_b6) (ninS (Ne.symm ne_b3_b6) nin0))
            have F_b2_size := c55_0
            have F_b2_head := c55_1
            have F_b2_ring := c55_2
            have V_b3 : Arh Z T55.heap b3 k3 (.object "com/example/demarq/demarq/broker/Message") (16 : Int32) (((15 : Int32), .null) :: (((15 : Int32), (.ref b4)) :: (((0 : Int32), (.ref b6)) :: []))) [] .null := c55_3
            have Z55 := Nat.le_trans Z52 K55q.1
            refine Go.tr st55 ?_
            show Go p e below Φ T55 (mkF m 214 #[.val (.long i0), .second, .val (.long i1), .second, .val (.int i2), .val (.long v13), .second, .val (.ref b2), .val (.ref b4), .val (.ref b6), .val (.int (1 : Int32)), .val (.int (2 : Int32)), .val (.int (1 : Int32)), .val (.ref b6), .val (.ref b4), .val (.int (0 : Int32))] [])
            refine Go.of (fun t k => XS.iinc X55.here hx rfl (hb hby at_214) rfl (l' := #[.val (.long i0), .second, .val (.long i1), .second, .val (.int i2), .val (.long v13), .second, .val (.ref b2), .val (.ref b4), .val (.ref b6), .val (.int (1 : Int32)), .val (.int (2 : Int32)), .val (.int (1 : Int32)), .val (.ref b6), .val (.ref b4), .val (.int (1 : Int32))]) rfl k) ?_
            show Go p e below Φ T55 (mkF m 217 #[.val (.long i0), .second, .val (.long i1), .second, .val (.int i2), .val (.long v13), .second, .val (.ref b2), .val (.ref b4), .val (.ref b6), .val (.int (1 : Int32)), .val (.int (2 : Int32)), .val (.int (1 : Int32)), .val (.ref b6), .val (.ref b4), .val (.int (1 : Int32))] [])
            refine Go.of (fun t k => XS.iload X55.here hx rfl (hb hby at_217) rfl  k) ?_
            show Go p e below Φ T55 (mkF m 219 #[.val (.long i0), .second, .val (.long i1), .second, .val (.int i2), .val (.long v13), .second, .val (.ref b2), .val (.ref b4), .val (.ref b6), .val (.int (1 : Int32)), .val (.int (2 : Int32)), .val (.int (1 : Int32)), .val (.ref b6), .val (.ref b4), .val (.int (1 : Int32))] [(.int (1 : Int32))])
            refine Go.of (fun t k => XS.ifNo X55.here hx rfl (hb hby at_219) rfl (XT.i0_eq_f (by decide)) k) ?_
            show Go p e below Φ T55 (mkF m 222 #[.val (.long i0), .second, .val (.long i1), .second, .val (.int i2), .val (.long v13), .second, .val (.ref b2), .val (.ref b4), .val (.ref b6), .val (.int (1 : Int32)), .val (.int (2 : Int32)), .val (.int (1 : Int32)), .val (.ref b6), .val (.ref b4), .val (.int (1 : Int32))] [])
            refine Go.of (fun t k => XS.aload X55.here hx rfl (hb hby at_222) rfl rfl  k) ?_
            show Go p e below Φ T55 (mkF m 224 #[.val (.long i0), .second, .val (.long i1), .second, .val (.int i2), .val (.long v13), .second, .val (.ref b2), .val (.ref b4), .val (.ref b6), .val (.int (1 : Int32)), .val (.int (2 : Int32)), .val (.int (1 : Int32)), .val (.ref b6), .val (.ref b4), .val (.int (1 : Int32))] [(.ref b2)])
            obtain ⟨cq56, kq56, q56a, q56b, q56c⟩ := isOf hZ rfl E_b2
            obtain ⟨_, _, ⟨T56, L56, k56, n56⟩, -, X56, ⟨Lc56, hQ56, l56, y56, z56⟩, st56⟩ := X55.virtualBack hx (y := (⟨"com/example/demarq/demarq/broker/SortedMessages", "isEmpty", "()Z"⟩ : MethodName)) (z := (⟨"com/example/demarq/demarq/broker/SortedMessages", "isEmpty", "()Z"⟩ : MethodName)) hown (mvT hZ (hw _ (List.mem_of_getElem? (i := 26) rfl))) (mvT hZ (hw _ (List.mem_of_getElem? (i := 27) rfl))) (notFace_of_selects (args := #[]) (mvT hZ (hw _ (List.mem_of_getElem? (i := 29) rfl)))) (mvT hZ (hw _ (List.mem_of_getElem? (i := 29) rfl))) (mvT hZ (hw _ (List.mem_of_getElem? (i := 28) rfl))) (by decide) (backOf (W := 0) (rm4n l Z a0 hw [] b2 (1 : Int32) T55.heap n0 Z55 F_b2_size (by decide)) hZ (hw _ (List.mem_of_getElem? (i := 30) rfl)) (hw _ (List.mem_of_getElem? (i := 2) rfl)) (by decide) (by decide)) q56a q56c (g := (mkF m 224 #[.val (.long i0), .second, .val (.long i1), .second, .val (.int i2), .val (.long v13), .second, .val (.ref b2), .val (.ref b4), .val (.ref b6), .val (.int (1 : Int32)), .val (.int (2 : Int32)), .val (.int (1 : Int32)), .val (.ref b6), .val (.ref b4), .val (.int (1 : Int32))] [(.ref b2)])) rfl (by rw [hml]; rfl) (Steps.refl _) (argsL := []) (rest := []) (lenOf own_pd9 rfl) rfl (by show 2 * 0 + _ ≤ _; exact Nat.le_of_eq rfl) (hb hby at_224) (fun _ _ => ⟨rfl, rfl, (by decide : 6 + 0 ≤ _), (by decide : 31 + 0 ≤ _)⟩)
            dsimp only [Pt.U, Pt.locs, Pt.cells, Pt.slots] at X56 l56 y56 z56 st56 hQ56
            subst l56 y56 z56
            obtain ⟨rfl, N56q, e56q⟩ := hQ56
            have N56 := Fr.app N55 N56q
            obtain ⟨lc56, X56, N56⟩ : ∃ lc, Stand p l e room_1 s m #[(.long i0), (.long i1), (.int i2)] below meth c T56 lc 6 31 ∧ Fr n0 lc := ⟨_, X56, N56⟩
            refine Go.tr st56 ?_
            show Go p e below Φ T56 (mkF m 227 #[.val (.long i0), .second, .val (.long i1), .second, .val (.int i2), .val (.long v13), .second, .val (.ref b2), .val (.ref b4), .val (.ref b6), .val (.int (1 : Int32)), .val (.int (2 : Int32)), .val (.int (1 : Int32)), .val (.ref b6), .val (.ref b4), .val (.int (1 : Int32))] [(.int (0 : Int32))])
            refine Go.of (fun t k => XS.iload X56.here hx rfl (hb hby at_227) rfl  k) ?_
            show Go p e below Φ T56 (mkF m 229 #[.val (.long i0), .second, .val (.long i1), .second, .val (.int i2), .val (.long v13), .second, .val (.ref b2), .val (.ref b4), .val (.ref b6), .val (.int (1 : Int32)), .val (.int (2 : Int32)), .val (.int (1 : Int32)), .val (.ref b6), .val (.ref b4), .val (.int (1 : Int32))] [(.int (2 : Int32)), (.int (0 : Int32))])
            refine Go.of (fun t k => XS.iload X56.here hx rfl (hb hby at_229) rfl  k) ?_
            show Go p e below Φ T56 (mkF m 231 #[.val (.long i0), .second, .val (.long i1), .second, .val (.int i2), .val (.long v13), .second, .val (.ref b2), .val (.ref b4), .val (.ref b6), .val (.int (1 : Int32)), .val (.int (2 : Int32)), .val (.int (1 : Int32)), .val (.ref b6), .val (.ref b4), .val (.int (1 : Int32))] [(.int (1 : Int32)), (.int (2 : Int32)), (.int (0 : Int32))])
            refine Go.of (fun t k => XS.isub X56.here hx rfl (hb hby at_231) rfl k) ?_
            show Go p e below Φ T56 (mkF m 232 #[.val (.long i0), .second, .val (.long i1), .second, .val (.int i2), .val (.long v13), .second, .val (.ref b2), .val (.ref b4), .val (.ref b6), .val (.int (1 : Int32)), .val (.int (2 : Int32)), .val (.int (1 : Int32)), .val (.ref b6), .val (.ref b4), .val (.int (1 : Int32))] [(.int (1 : Int32)), (.int (0 : Int32))])
            refine Go.of (fun t k => XS.ifYes X56.here hx rfl (pc0 := 232) (pc' := 239) rfl (hb hby at_232) rfl (XT.i0_ne_t (by decide)) (by decide) (by decide) k) ?_
            show Go p e below Φ T56 (mkF m 239 #[.val (.long i0), .second, .val (.long i1), .second, .val (.int i2), .val (.long v13), .second, .val (.ref b2), .val (.ref b4), .val (.ref b6), .val (.int (1 : Int32)), .val (.int (2 : Int32)), .val (.int (1 : Int32)), .val (.ref b6), .val (.ref b4), .val (.int (1 : Int32))] [(.int (0 : Int32))])
            refine Go.of (fun t k => XS.iconst X56.here hx rfl (hb hby at_239) k) ?_
            show Go p e below Φ T56 (mkF m 240 #[.val (.long i0), .second, .val (.long i1), .second, .val (.int i2), .val (.long v13), .second, .val (.ref b2), .val (.ref b4), .val (.ref b6), .val (.int (1 : Int32)), .val (.int (2 : Int32)), .val (.int (1 : Int32)), .val (.ref b6), .val (.ref b4), .val (.int (1 : Int32))] [(.int (0 : Int32)), (.int (0 : Int32))])
            refine Go.of (fun t k => XS.icmpNo X56.here hx rfl (hb hby at_240) rfl (XT.ii_ne_f rfl) k) ?_
            show Go p e below Φ T56 (mkF m 243 #[.val (.long i0), .second, .val (.long i1), .second, .val (.int i2), .val (.long v13), .second, .val (.ref b2), .val (.ref b4), .val (.ref b6), .val (.int (1 : Int32)), .val (.int (2 : Int32)), .val (.int (1 : Int32)), .val (.ref b6), .val (.ref b4), .val (.int (1 : Int32))] [])
            refine Go.of (fun t k => XS.iconst X56.here hx rfl (hb hby at_243) k) ?_
            show Go p e below Φ T56 (mkF m 244 #[.val (.long i0), .second, .val (.long i1), .second, .val (.int i2), .val (.long v13), .second, .val (.ref b2), .val (.ref b4), .val (.ref b6), .val (.int (1 : Int32)), .val (.int (2 : Int32)), .val (.int (1 : Int32)), .val (.ref b6), .val (.ref b4), .val (.int (1 : Int32))] [(.int (1 : Int32))])
            refine Go.of (fun t k => XS.goto X56.here hx rfl (pc0 := 244) (pc' := 248) rfl (hb hby at_244) (by decide) (by decide) k) ?_
            show Go p e below Φ T56 (mkF m 248 #[.val (.long i0), .second, .val (.long i1), .second, .val (.int i2), .val (.long v13), .second, .val (.ref b2), .val (.ref b4), .val (.ref b6), .val (.int (1 : Int32)), .val (.int (2 : Int32)), .val (.int (1 : Int32)), .val (.ref b6), .val (.ref b4), .val (.int (1 : Int32))] [(.int (1 : Int32))])
            refine Go.of (fun t k => XS.istore X56.here hx rfl (hb hby at_248) rfl (l' := #[.val (.long i0), .second, .val (.long i1), .second, .val (.int i2), .val (.long v13), .second, .val (.ref b2), .val (.ref b4), .val (.ref b6), .val (.int (1 : Int32)), .val (.int (2 : Int32)), .val (.int (1 : Int32)), .val (.ref b6), .val (.ref b4), .val (.int (1 : Int32))]) rfl k) ?_
            show Go p e below Φ T56 (mkF m 250 #[.val (.long i0), .second, .val (.long i1), .second, .val (.int i2), .val (.long v13), .second, .val (.ref b2), .val (.ref b4), .val (.ref b6), .val (.int (1 : Int32)), .val (.int (2 : Int32)), .val (.int (1 : Int32)), .val (.ref b6), .val (.ref b4), .val (.int (1 : Int32))] [])
            refine Go.of (fun t k => XS.iload X56.here hx rfl (hb hby at_250) rfl  k) ?_
            show Go p e below Φ T56 (mkF m 252 #[.val (.long i0), .second, .val (.long i1), .second, .val (.int i2), .val (.long v13), .second, .val (.ref b2), .val (.ref b4), .val (.ref b6), .val (.int (1 : Int32)), .val (.int (2 : Int32)), .val (.int (1 : Int32)), .val (.ref b6), .val (.ref b4), .val (.int (1 : Int32))] [(.int (1 : Int32))])
            rw [hΦ]
            refine Go.ret X56 hx Bd.notSynchronized Bd.returns rfl (Or.inl ⟨rfl, Or.inr (Or.inl rfl), _, rfl⟩) (hb hby at_252) (by decide) (by decide) ?_
            rw [(e56q)]
            exact ⟨rfl, N56⟩
        · refine Go.of (fun t k => XS.ifNo X53.here hx rfl (hb hby at_179) rfl (XT.i0_eq_f hc179) k) ?_
          show Go p e below Φ T53 (mkF m 182 #[.val (.long i0), .second, .val (.long i1), .second, .val (.int i2), .val (.long v13), .second, .val (.ref b2), .val (.ref b4), .val (.ref b6), .val (.int (1 : Int32)), .val (.int (2 : Int32)), .val (.int (1 : Int32)), .val (.ref b6), .val (.ref b4), .val (.int (0 : Int32))] [])
          refine Go.of (fun t k => XS.aload X53.here hx rfl (hb hby at_182) rfl rfl  k) ?_
          show Go p e below Φ T53 (mkF m 184 #[.val (.long i0), .second, .val (.long i1), .second, .val (.int i2), .val (.long v13), .second, .val (.ref b2), .val (.ref b4), .val (.ref b6), .val (.int (1 : Int32)), .val (.int (2 : Int32)), .val (.int (1 : Int32)), .val (.ref b6), .val (.ref b4), .val (.int (0 : Int32))] [(.ref b2)])
          refine Go.of (fun t k => XS.aload X53.here hx rfl (hb hby at_184) rfl rfl  k) ?_
          show Go p e below Φ T53 (mkF m 186 #[.val (.long i0), .second, .val (.long i1), .second, .val (.int i2), .val (.long v13), .second, .val (.ref b2), .val (.ref b4), .val (.ref b6), .val (.int (1 : Int32)), .val (.int (2 : Int32)), .val (.int (1 : Int32)), .val (.ref b6), .val (.ref b4), .val (.int (0 : Int32))] [(.ref b6), (.ref b2)])
          obtain ⟨cq57, kq57, q57a, q57b, q57c⟩ := isOf hZ (e53q) E_b2
          obtain ⟨_, _, ⟨T57, L57, k57, n57⟩, -, X57, ⟨Lc57, hQ57, l57, y57, z57⟩, st57⟩ := X53.virtualBack hx (y := (⟨"com/example/demarq/demarq/broker/SortedMessages", "remove", "(Lcom/example/demarq/demarq/broker/Message;)V"⟩ : MethodName)) (z := (⟨"com/example/demarq/demarq/broker/SortedMessages", "remove", "(Lcom/example/demarq/demarq/broker/Message;)V"⟩ : MethodName)) hown (mvT hZ (hw _ (List.mem_of_getElem? (i := 49) rfl))) (mvT hZ (hw _ (List.mem_of_getElem? (i := 50) rfl))) (notFace_of_selects (args := #[]) (mvT hZ (hw _ (List.mem_of_getElem? (i := 52) rfl)))) (mvT hZ (hw _ (List.mem_of_getElem? (i := 52) rfl))) (mvT hZ (hw _ (List.mem_of_getElem? (i := 51) rfl))) (by decide) (backOf (W := 0) (rm8y l Z a0 hw [] b2 b6 b3 k3 (((15 : Int32), (.ref b4)) :: (((0 : Int32), (.ref b6)) :: [])) b4 (15 : Int32) i0 v13 T52.heap n0 Z52 F_b2_head F_b2_ring V_b3 E_b2 g_b2 g_b3 ne_b2_b3 F_b2_size ⟨by decide, by decide⟩ (getH_hit (by decide) (by decide)) E_b4 F_b4_position ⟨by decide, by decide⟩ (getH_miss (by decide) (by decide) (getH_hit (by decide) (by decide))) E_b6 F_b6_position (own_gt hlt (own_ne i0 i1 v13 hv13)) (Ne.symm ne_b2_b4) (Ne.symm ne_b3_b4) (Ne.symm ne_b2_b6) (Ne.symm ne_b3_b6)) hZ (hw _ (List.mem_of_getElem? (i := 53) rfl)) (hw _ (List.mem_of_getElem? (i := 2) rfl)) (by decide) (by decide)) q57a q57c (g := (mkF m 186 #[.val (.long i0), .second, .val (.long i1), .second, .val (.int i2), .val (.long v13), .second, .val (.ref b2), .val (.ref b4), .val (.ref b6), .val (.int (1 : Int32)), .val (.int (2 : Int32)), .val (.int (1 : Int32)), .val (.ref b6), .val (.ref b4), .val (.int (0 : Int32))] [(.ref b6), (.ref b2)])) rfl (by rw [hml]; rfl) (Steps.refl _) (argsL := [(.ref b6)]) (rest := []) (lenOf own_pd10 rfl) rfl (by show 2 * 0 + _ ≤ _; exact Nat.le_of_eq rfl) (hb hby at_186) (fun _ _ => ⟨rfl, (e53q), (by decide : 5 + 1 ≤ _), (by decide : 29 + 2 ≤ _)⟩)
          dsimp only [Pt.U, Pt.locs, Pt.cells, Pt.slots] at X57 l57 y57 z57 st57 hQ57
          subst l57 y57 z57
          obtain ⟨rfl, N57q, K57q, c57_0, c57_1, c57_2, c57_3⟩ := hQ57
          have N57 := Fr.app N53 N57q
          obtain ⟨lc57, X57, N57⟩ : ∃ lc, Stand p l e room_1 s m #[(.long i0), (.long i1), (.int i2)] below meth c T57 lc 6 31 ∧ Fr n0 lc := ⟨_, X57, N57⟩
          have E_b2 := E_b2.keep K57q
          have E_b4 := E_b4.keep K57q
          have F_b4_position := F_b4_position.keep K57q (ninS (Ne.symm ne_b2_b4) (ninS (Ne.symm ne_b3_b4) nin0))
          have E_b6 := E_b6.keep K57q
          have F_b6_position := F_b6_position.keep K57q (ninS (Ne.symm ne_b2_b6) (ninS (Ne.symm ne_b3_b6) nin0))
          have F_b2_size := c57_0
          have F_b2_head := c57_1
          have F_b2_ring := c57_2
          have V_b3 : Arh Z T57.heap b3 k3 (.object "com/example/demarq/demarq/broker/Message") (16 : Int32) (((0 : Int32), .null) :: (((15 : Int32), (.ref b4)) :: (((0 : Int32), (.ref b6)) :: []))) [] .null := c57_3
          have Z57 := Nat.le_trans Z52 K57q.1
          refine Go.tr st57 ?_
          show Go p e below Φ T57 (mkF m 189 #[.val (.long i0), .second, .val (.long i1), .second, .val (.int i2), .val (.long v13), .second, .val (.ref b2), .val (.ref b4), .val (.ref b6), .val (.int (1 : Int32)), .val (.int (2 : Int32)), .val (.int (1 : Int32)), .val (.ref b6), .val (.ref b4), .val (.int (0 : Int32))] [])
          refine Go.of (fun t k => XS.iinc X57.here hx rfl (hb hby at_189) rfl (l' := #[.val (.long i0), .second, .val (.long i1), .second, .val (.int i2), .val (.long v13), .second, .val (.ref b2), .val (.ref b4), .val (.ref b6), .val (.int (1 : Int32)), .val (.int (2 : Int32)), .val (.int (1 : Int32)), .val (.ref b6), .val (.ref b4), .val (.int (1 : Int32))]) rfl k) ?_
          show Go p e below Φ T57 (mkF m 192 #[.val (.long i0), .second, .val (.long i1), .second, .val (.int i2), .val (.long v13), .second, .val (.ref b2), .val (.ref b4), .val (.ref b6), .val (.int (1 : Int32)), .val (.int (2 : Int32)), .val (.int (1 : Int32)), .val (.ref b6), .val (.ref b4), .val (.int (1 : Int32))] [])
          refine Go.of (fun t k => XS.iload X57.here hx rfl (hb hby at_192) rfl  k) ?_
          show Go p e below Φ T57 (mkF m 194 #[.val (.long i0), .second, .val (.long i1), .second, .val (.int i2), .val (.long v13), .second, .val (.ref b2), .val (.ref b4), .val (.ref b6), .val (.int (1 : Int32)), .val (.int (2 : Int32)), .val (.int (1 : Int32)), .val (.ref b6), .val (.ref b4), .val (.int (1 : Int32))] [(.int (2 : Int32))])
          refine Go.of (fun t k => XS.iconst X57.here hx rfl (hb hby at_194) k) ?_
          show Go p e below Φ T57 (mkF m 195 #[.val (.long i0), .second, .val (.long i1), .second, .val (.int i2), .val (.long v13), .second, .val (.ref b2), .val (.ref b4), .val (.ref b6), .val (.int (1 : Int32)), .val (.int (2 : Int32)), .val (.int (1 : Int32)), .val (.ref b6), .val (.ref b4), .val (.int (1 : Int32))] [(.int (2 : Int32)), (.int (2 : Int32))])
          refine Go.of (fun t k => XS.icmpNo X57.here hx rfl (hb hby at_195) rfl (XT.ii_lt_f (by decide)) k) ?_
          show Go p e below Φ T57 (mkF m 198 #[.val (.long i0), .second, .val (.long i1), .second, .val (.int i2), .val (.long v13), .second, .val (.ref b2), .val (.ref b4), .val (.ref b6), .val (.int (1 : Int32)), .val (.int (2 : Int32)), .val (.int (1 : Int32)), .val (.ref b6), .val (.ref b4), .val (.int (1 : Int32))] [])
          refine Go.of (fun t k => XS.iload X57.here hx rfl (hb hby at_198) rfl  k) ?_
          show Go p e below Φ T57 (mkF m 200 #[.val (.long i0), .second, .val (.long i1), .second, .val (.int i2), .val (.long v13), .second, .val (.ref b2), .val (.ref b4), .val (.ref b6), .val (.int (1 : Int32)), .val (.int (2 : Int32)), .val (.int (1 : Int32)), .val (.ref b6), .val (.ref b4), .val (.int (1 : Int32))] [(.int i2)])
          refine Go.of (fun t k => XS.iconst X57.here hx rfl (hb hby at_200) k) ?_
          show Go p e below Φ T57 (mkF m 201 #[.val (.long i0), .second, .val (.long i1), .second, .val (.int i2), .val (.long v13), .second, .val (.ref b2), .val (.ref b4), .val (.ref b6), .val (.int (1 : Int32)), .val (.int (2 : Int32)), .val (.int (1 : Int32)), .val (.ref b6), .val (.ref b4), .val (.int (1 : Int32))] [(.int (3 : Int32)), (.int i2)])
          refine Go.of (fun t k => XS.iushr X57.here hx rfl (hb hby at_201) rfl k) ?_
          show Go p e below Φ T57 (mkF m 202 #[.val (.long i0), .second, .val (.long i1), .second, .val (.int i2), .val (.long v13), .second, .val (.ref b2), .val (.ref b4), .val (.ref b6), .val (.int (1 : Int32)), .val (.int (2 : Int32)), .val (.int (1 : Int32)), .val (.ref b6), .val (.ref b4), .val (.int (1 : Int32))] [(.int (own_ushr i2 (3 : Int32)))])
          refine Go.of (fun t k => XS.iconst X57.here hx rfl (hb hby at_202) k) ?_
          show Go p e below Φ T57 (mkF m 203 #[.val (.long i0), .second, .val (.long i1), .second, .val (.int i2), .val (.long v13), .second, .val (.ref b2), .val (.ref b4), .val (.ref b6), .val (.int (1 : Int32)), .val (.int (2 : Int32)), .val (.int (1 : Int32)), .val (.ref b6), .val (.ref b4), .val (.int (1 : Int32))] [(.int (1 : Int32)), (.int (own_ushr i2 (3 : Int32)))])
          refine Go.of (fun t k => XS.iand X57.here hx rfl (hb hby at_203) rfl k) ?_
          show Go p e below Φ T57 (mkF m 204 #[.val (.long i0), .second, .val (.long i1), .second, .val (.int i2), .val (.long v13), .second, .val (.ref b2), .val (.ref b4), .val (.ref b6), .val (.int (1 : Int32)), .val (.int (2 : Int32)), .val (.int (1 : Int32)), .val (.ref b6), .val (.ref b4), .val (.int (1 : Int32))] [(.int ((own_ushr i2 (3 : Int32)) &&& (1 : Int32)))])
          by_cases hc204 : ((own_ushr i2 (3 : Int32)) &&& (1 : Int32)) = (0 : Int32)
          · refine Go.of (fun t k => XS.ifYes X57.here hx rfl (pc0 := 204) (pc' := 217) rfl (hb hby at_204) rfl (XT.i0_eq_t hc204) (by decide) (by decide) k) ?_
            show Go p e below Φ T57 (mkF m 217 #[.val (.long i0), .second, .val (.long i1), .second, .val (.int i2), .val (.long v13), .second, .val (.ref b2), .val (.ref b4), .val (.ref b6), .val (.int (1 : Int32)), .val (.int (2 : Int32)), .val (.int (1 : Int32)), .val (.ref b6), .val (.ref b4), .val (.int (1 : Int32))] [])
            refine Go.of (fun t k => XS.iload X57.here hx rfl (hb hby at_217) rfl  k) ?_
            show Go p e below Φ T57 (mkF m 219 #[.val (.long i0), .second, .val (.long i1), .second, .val (.int i2), .val (.long v13), .second, .val (.ref b2), .val (.ref b4), .val (.ref b6), .val (.int (1 : Int32)), .val (.int (2 : Int32)), .val (.int (1 : Int32)), .val (.ref b6), .val (.ref b4), .val (.int (1 : Int32))] [(.int (1 : Int32))])
            refine Go.of (fun t k => XS.ifNo X57.here hx rfl (hb hby at_219) rfl (XT.i0_eq_f (by decide)) k) ?_
            show Go p e below Φ T57 (mkF m 222 #[.val (.long i0), .second, .val (.long i1), .second, .val (.int i2), .val (.long v13), .second, .val (.ref b2), .val (.ref b4), .val (.ref b6), .val (.int (1 : Int32)), .val (.int (2 : Int32)), .val (.int (1 : Int32)), .val (.ref b6), .val (.ref b4), .val (.int (1 : Int32))] [])
            refine Go.of (fun t k => XS.aload X57.here hx rfl (hb hby at_222) rfl rfl  k) ?_
            show Go p e below Φ T57 (mkF m 224 #[.val (.long i0), .second, .val (.long i1), .second, .val (.int i2), .val (.long v13), .second, .val (.ref b2), .val (.ref b4), .val (.ref b6), .val (.int (1 : Int32)), .val (.int (2 : Int32)), .val (.int (1 : Int32)), .val (.ref b6), .val (.ref b4), .val (.int (1 : Int32))] [(.ref b2)])
            obtain ⟨cq58, kq58, q58a, q58b, q58c⟩ := isOf hZ rfl E_b2
            obtain ⟨_, _, ⟨T58, L58, k58, n58⟩, -, X58, ⟨Lc58, hQ58, l58, y58, z58⟩, st58⟩ := X57.virtualBack hx (y := (⟨"com/example/demarq/demarq/broker/SortedMessages", "isEmpty", "()Z"⟩ : MethodName)) (z := (⟨"com/example/demarq/demarq/broker/SortedMessages", "isEmpty", "()Z"⟩ : MethodName)) hown (mvT hZ (hw _ (List.mem_of_getElem? (i := 26) rfl))) (mvT hZ (hw _ (List.mem_of_getElem? (i := 27) rfl))) (notFace_of_selects (args := #[]) (mvT hZ (hw _ (List.mem_of_getElem? (i := 29) rfl)))) (mvT hZ (hw _ (List.mem_of_getElem? (i := 29) rfl))) (mvT hZ (hw _ (List.mem_of_getElem? (i := 28) rfl))) (by decide) (backOf (W := 0) (rm4n l Z a0 hw [] b2 (1 : Int32) T57.heap n0 Z57 F_b2_size (by decide)) hZ (hw _ (List.mem_of_getElem? (i := 30) rfl)) (hw _ (List.mem_of_getElem? (i := 2) rfl)) (by decide) (by decide)) q58a q58c (g := (mkF m 224 #[.val (.long i0), .second, .val (.long i1), .second, .val (.int i2), .val (.long v13), .second, .val (.ref b2), .val (.ref b4), .val (.ref b6), .val (.int (1 : Int32)), .val (.int (2 : Int32)), .val (.int (1 : Int32)), .val (.ref b6), .val (.ref b4), .val (.int (1 : Int32))] [(.ref b2)])) rfl (by rw [hml]; rfl) (Steps.refl _) (argsL := []) (rest := []) (lenOf own_pd9 rfl) rfl (by show 2 * 0 + _ ≤ _; exact Nat.le_of_eq rfl) (hb hby at_224) (fun _ _ => ⟨rfl, rfl, (by decide : 6 + 0 ≤ _), (by decide : 31 + 0 ≤ _)⟩)
            dsimp only [Pt.U, Pt.locs, Pt.cells, Pt.slots] at X58 l58 y58 z58 st58 hQ58
            subst l58 y58 z58
            obtain ⟨rfl, N58q, e58q⟩ := hQ58
            have N58 := Fr.app N57 N58q
            obtain ⟨lc58, X58, N58⟩ : ∃ lc, Stand p l e room_1 s m #[(.long i0), (.long i1), (.int i2)] below meth c T58 lc 6 31 ∧ Fr n0 lc := ⟨_, X58, N58⟩
            refine Go.tr st58 ?_
            show Go p e below Φ T58 (mkF m 227 #[.val (.long i0), .second, .val (.long i1), .second, .val (.int i2), .val (.long v13), .second, .val (.ref b2), .val (.ref b4), .val (.ref b6), .val (.int (1 : Int32)), .val (.int (2 : Int32)), .val (.int (1 : Int32)), .val (.ref b6), .val (.ref b4), .val (.int (1 : Int32))] [(.int (0 : Int32))])
            refine Go.of (fun t k => XS.iload X58.here hx rfl (hb hby at_227) rfl  k) ?_
            show Go p e below Φ T58 (mkF m 229 #[.val (.long i0), .second, .val (.long i1), .second, .val (.int i2), .val (.long v13), .second, .val (.ref b2), .val (.ref b4), .val (.ref b6), .val (.int (1 : Int32)), .val (.int (2 : Int32)), .val (.int (1 : Int32)), .val (.ref b6), .val (.ref b4), .val (.int (1 : Int32))] [(.int (2 : Int32)), (.int (0 : Int32))])
            refine Go.of (fun t k => XS.iload X58.here hx rfl (hb hby at_229) rfl  k) ?_
            show Go p e below Φ T58 (mkF m 231 #[.val (.long i0), .second, .val (.long i1), .second, .val (.int i2), .val (.long v13), .second, .val (.ref b2), .val (.ref b4), .val (.ref b6), .val (.int (1 : Int32)), .val (.int (2 : Int32)), .val (.int (1 : Int32)), .val (.ref b6), .val (.ref b4), .val (.int (1 : Int32))] [(.int (1 : Int32)), (.int (2 : Int32)), (.int (0 : Int32))])
            refine Go.of (fun t k => XS.isub X58.here hx rfl (hb hby at_231) rfl k) ?_
            show Go p e below Φ T58 (mkF m 232 #[.val (.long i0), .second, .val (.long i1), .second, .val (.int i2), .val (.long v13), .second, .val (.ref b2), .val (.ref b4), .val (.ref b6), .val (.int (1 : Int32)), .val (.int (2 : Int32)), .val (.int (1 : Int32)), .val (.ref b6), .val (.ref b4), .val (.int (1 : Int32))] [(.int (1 : Int32)), (.int (0 : Int32))])
            refine Go.of (fun t k => XS.ifYes X58.here hx rfl (pc0 := 232) (pc' := 239) rfl (hb hby at_232) rfl (XT.i0_ne_t (by decide)) (by decide) (by decide) k) ?_
            show Go p e below Φ T58 (mkF m 239 #[.val (.long i0), .second, .val (.long i1), .second, .val (.int i2), .val (.long v13), .second, .val (.ref b2), .val (.ref b4), .val (.ref b6), .val (.int (1 : Int32)), .val (.int (2 : Int32)), .val (.int (1 : Int32)), .val (.ref b6), .val (.ref b4), .val (.int (1 : Int32))] [(.int (0 : Int32))])
            refine Go.of (fun t k => XS.iconst X58.here hx rfl (hb hby at_239) k) ?_
            show Go p e below Φ T58 (mkF m 240 #[.val (.long i0), .second, .val (.long i1), .second, .val (.int i2), .val (.long v13), .second, .val (.ref b2), .val (.ref b4), .val (.ref b6), .val (.int (1 : Int32)), .val (.int (2 : Int32)), .val (.int (1 : Int32)), .val (.ref b6), .val (.ref b4), .val (.int (1 : Int32))] [(.int (0 : Int32)), (.int (0 : Int32))])
            refine Go.of (fun t k => XS.icmpNo X58.here hx rfl (hb hby at_240) rfl (XT.ii_ne_f rfl) k) ?_
            show Go p e below Φ T58 (mkF m 243 #[.val (.long i0), .second, .val (.long i1), .second, .val (.int i2), .val (.long v13), .second, .val (.ref b2), .val (.ref b4), .val (.ref b6), .val (.int (1 : Int32)), .val (.int (2 : Int32)), .val (.int (1 : Int32)), .val (.ref b6), .val (.ref b4), .val (.int (1 : Int32))] [])
            refine Go.of (fun t k => XS.iconst X58.here hx rfl (hb hby at_243) k) ?_
            show Go p e below Φ T58 (mkF m 244 #[.val (.long i0), .second, .val (.long i1), .second, .val (.int i2), .val (.long v13), .second, .val (.ref b2), .val (.ref b4), .val (.ref b6), .val (.int (1 : Int32)), .val (.int (2 : Int32)), .val (.int (1 : Int32)), .val (.ref b6), .val (.ref b4), .val (.int (1 : Int32))] [(.int (1 : Int32))])
            refine Go.of (fun t k => XS.goto X58.here hx rfl (pc0 := 244) (pc' := 248) rfl (hb hby at_244) (by decide) (by decide) k) ?_
            show Go p e below Φ T58 (mkF m 248 #[.val (.long i0), .second, .val (.long i1), .second, .val (.int i2), .val (.long v13), .second, .val (.ref b2), .val (.ref b4), .val (.ref b6), .val (.int (1 : Int32)), .val (.int (2 : Int32)), .val (.int (1 : Int32)), .val (.ref b6), .val (.ref b4), .val (.int (1 : Int32))] [(.int (1 : Int32))])
            refine Go.of (fun t k => XS.istore X58.here hx rfl (hb hby at_248) rfl (l' := #[.val (.long i0), .second, .val (.long i1), .second, .val (.int i2), .val (.long v13), .second, .val (.ref b2), .val (.ref b4), .val (.ref b6), .val (.int (1 : Int32)), .val (.int (2 : Int32)), .val (.int (1 : Int32)), .val (.ref b6), .val (.ref b4), .val (.int (1 : Int32))]) rfl k) ?_
            show Go p e below Φ T58 (mkF m 250 #[.val (.long i0), .second, .val (.long i1), .second, .val (.int i2), .val (.long v13), .second, .val (.ref b2), .val (.ref b4), .val (.ref b6), .val (.int (1 : Int32)), .val (.int (2 : Int32)), .val (.int (1 : Int32)), .val (.ref b6), .val (.ref b4), .val (.int (1 : Int32))] [])
            refine Go.of (fun t k => XS.iload X58.here hx rfl (hb hby at_250) rfl  k) ?_
            show Go p e below Φ T58 (mkF m 252 #[.val (.long i0), .second, .val (.long i1), .second, .val (.int i2), .val (.long v13), .second, .val (.ref b2), .val (.ref b4), .val (.ref b6), .val (.int (1 : Int32)), .val (.int (2 : Int32)), .val (.int (1 : Int32)), .val (.ref b6), .val (.ref b4), .val (.int (1 : Int32))] [(.int (1 : Int32))])
            rw [hΦ]
            refine Go.ret X58 hx Bd.notSynchronized Bd.returns rfl (Or.inl ⟨rfl, Or.inr (Or.inl rfl), _, rfl⟩) (hb hby at_252) (by decide) (by decide) ?_
            rw [(e58q)]
            exact ⟨rfl, N58⟩
          · refine Go.of (fun t k => XS.ifNo X57.here hx rfl (hb hby at_204) rfl (XT.i0_eq_f hc204) k) ?_
            show Go p e below Φ T57 (mkF m 207 #[.val (.long i0), .second, .val (.long i1), .second, .val (.int i2), .val (.long v13), .second, .val (.ref b2), .val (.ref b4), .val (.ref b6), .val (.int (1 : Int32)), .val (.int (2 : Int32)), .val (.int (1 : Int32)), .val (.ref b6), .val (.ref b4), .val (.int (1 : Int32))] [])
            refine Go.of (fun t k => XS.aload X57.here hx rfl (hb hby at_207) rfl rfl  k) ?_
            show Go p e below Φ T57 (mkF m 209 #[.val (.long i0), .second, .val (.long i1), .second, .val (.int i2), .val (.long v13), .second, .val (.ref b2), .val (.ref b4), .val (.ref b6), .val (.int (1 : Int32)), .val (.int (2 : Int32)), .val (.int (1 : Int32)), .val (.ref b6), .val (.ref b4), .val (.int (1 : Int32))] [(.ref b2)])
            refine Go.of (fun t k => XS.aload X57.here hx rfl (hb hby at_209) rfl rfl  k) ?_
            show Go p e below Φ T57 (mkF m 211 #[.val (.long i0), .second, .val (.long i1), .second, .val (.int i2), .val (.long v13), .second, .val (.ref b2), .val (.ref b4), .val (.ref b6), .val (.int (1 : Int32)), .val (.int (2 : Int32)), .val (.int (1 : Int32)), .val (.ref b6), .val (.ref b4), .val (.int (1 : Int32))] [(.ref b4), (.ref b2)])
            obtain ⟨cq59, kq59, q59a, q59b, q59c⟩ := isOf hZ rfl E_b2
            obtain ⟨_, _, ⟨T59, L59, k59, n59⟩, -, X59, ⟨Lc59, hQ59, l59, y59, z59⟩, st59⟩ := X57.virtualBack hx (y := (⟨"com/example/demarq/demarq/broker/SortedMessages", "remove", "(Lcom/example/demarq/demarq/broker/Message;)V"⟩ : MethodName)) (z := (⟨"com/example/demarq/demarq/broker/SortedMessages", "remove", "(Lcom/example/demarq/demarq/broker/Message;)V"⟩ : MethodName)) hown (mvT hZ (hw _ (List.mem_of_getElem? (i := 49) rfl))) (mvT hZ (hw _ (List.mem_of_getElem? (i := 50) rfl))) (notFace_of_selects (args := #[]) (mvT hZ (hw _ (List.mem_of_getElem? (i := 52) rfl)))) (mvT hZ (hw _ (List.mem_of_getElem? (i := 52) rfl))) (mvT hZ (hw _ (List.mem_of_getElem? (i := 51) rfl))) (by decide) (backOf (W := 0) (rm8a l Z a0 hw [] b2 b4 b3 k3 (((0 : Int32), .null) :: (((15 : Int32), (.ref b4)) :: (((0 : Int32), (.ref b6)) :: []))) (15 : Int32) i0 T57.heap n0 Z57 F_b2_head F_b2_ring V_b3 E_b2 g_b2 g_b3 ne_b2_b3 F_b2_size ⟨by decide, by decide⟩ (getH_miss (by decide) (by decide) (getH_hit (by decide) (by decide))) E_b4 F_b4_position (Ne.symm ne_b2_b4) (Ne.symm ne_b3_b4)) hZ (hw _ (List.mem_of_getElem? (i := 53) rfl)) (hw _ (List.mem_of_getElem? (i := 2) rfl)) (by decide) (by decide)) q59a q59c (g := (mkF m 211 #[.val (.long i0), .second, .val (.long i1), .second, .val (.int i2), .val (.long v13), .second, .val (.ref b2), .val (.ref b4), .val (.ref b6), .val (.int (1 : Int32)), .val (.int (2 : Int32)), .val (.int (1 : Int32)), .val (.ref b6), .val (.ref b4), .val (.int (1 : Int32))] [(.ref b4), (.ref b2)])) rfl (by rw [hml]; rfl) (Steps.refl _) (argsL := [(.ref b4)]) (rest := []) (lenOf own_pd10 rfl) rfl (by show 2 * 0 + _ ≤ _; exact Nat.le_of_eq rfl) (hb hby at_211) (fun _ _ => ⟨rfl, rfl, (by decide : 6 + 1 ≤ _), (by decide : 31 + 2 ≤ _)⟩)
            dsimp only [Pt.U, Pt.locs, Pt.cells, Pt.slots] at X59 l59 y59 z59 st59 hQ59
            subst l59 y59 z59
            obtain ⟨rfl, N59q, K59q, c59_0⟩ := hQ59
            have N59 := Fr.app N57 N59q
            obtain ⟨lc59, X59, N59⟩ : ∃ lc, Stand p l e room_1 s m #[(.long i0), (.long i1), (.int i2)] below meth c T59 lc 7 33 ∧ Fr n0 lc := ⟨_, X59, N59⟩
            have E_b2 := E_b2.keep K59q
            have E_b4 := E_b4.keep K59q
            have F_b4_position := F_b4_position.keep K59q (ninS (Ne.symm ne_b2_b4) (ninS (Ne.symm ne_b3_b4) nin0))
            have E_b6 := E_b6.keep K59q
            have F_b6_position := F_b6_position.keep K59q (ninS (Ne.symm ne_b2_b6) (ninS (Ne.symm ne_b3_b6) nin0))
            have F_b2_size := c59_0
            have Z59 := Nat.le_trans Z57 K59q.1
            refine Go.tr st59 ?_
            show Go p e below Φ T59 (mkF m 214 #[.val (.long i0), .second, .val (.long i1), .second, .val (.int i2), .val (.long v13), .second, .val (.ref b2), .val (.ref b4), .val (.ref b6), .val (.int (1 : Int32)), .val (.int (2 : Int32)), .val (.int (1 : Int32)), .val (.ref b6), .val (.ref b4), .val (.int (1 : Int32))] [])
            refine Go.of (fun t k => XS.iinc X59.here hx rfl (hb hby at_214) rfl (l' := #[.val (.long i0), .second, .val (.long i1), .second, .val (.int i2), .val (.long v13), .second, .val (.ref b2), .val (.ref b4), .val (.ref b6), .val (.int (1 : Int32)), .val (.int (2 : Int32)), .val (.int (1 : Int32)), .val (.ref b6), .val (.ref b4), .val (.int (2 : Int32))]) rfl k) ?_
            show Go p e below Φ T59 (mkF m 217 #[.val (.long i0), .second, .val (.long i1), .second, .val (.int i2), .val (.long v13), .second, .val (.ref b2), .val (.ref b4), .val (.ref b6), .val (.int (1 : Int32)), .val (.int (2 : Int32)), .val (.int (1 : Int32)), .val (.ref b6), .val (.ref b4), .val (.int (2 : Int32))] [])
            refine Go.of (fun t k => XS.iload X59.here hx rfl (hb hby at_217) rfl  k) ?_
            show Go p e below Φ T59 (mkF m 219 #[.val (.long i0), .second, .val (.long i1), .second, .val (.int i2), .val (.long v13), .second, .val (.ref b2), .val (.ref b4), .val (.ref b6), .val (.int (1 : Int32)), .val (.int (2 : Int32)), .val (.int (1 : Int32)), .val (.ref b6), .val (.ref b4), .val (.int (2 : Int32))] [(.int (1 : Int32))])
            refine Go.of (fun t k => XS.ifNo X59.here hx rfl (hb hby at_219) rfl (XT.i0_eq_f (by decide)) k) ?_
            show Go p e below Φ T59 (mkF m 222 #[.val (.long i0), .second, .val (.long i1), .second, .val (.int i2), .val (.long v13), .second, .val (.ref b2), .val (.ref b4), .val (.ref b6), .val (.int (1 : Int32)), .val (.int (2 : Int32)), .val (.int (1 : Int32)), .val (.ref b6), .val (.ref b4), .val (.int (2 : Int32))] [])
            refine Go.of (fun t k => XS.aload X59.here hx rfl (hb hby at_222) rfl rfl  k) ?_
            show Go p e below Φ T59 (mkF m 224 #[.val (.long i0), .second, .val (.long i1), .second, .val (.int i2), .val (.long v13), .second, .val (.ref b2), .val (.ref b4), .val (.ref b6), .val (.int (1 : Int32)), .val (.int (2 : Int32)), .val (.int (1 : Int32)), .val (.ref b6), .val (.ref b4), .val (.int (2 : Int32))] [(.ref b2)])
            obtain ⟨cq60, kq60, q60a, q60b, q60c⟩ := isOf hZ rfl E_b2
            obtain ⟨_, _, ⟨T60, L60, k60, n60⟩, -, X60, ⟨Lc60, hQ60, l60, y60, z60⟩, st60⟩ := X59.virtualBack hx (y := (⟨"com/example/demarq/demarq/broker/SortedMessages", "isEmpty", "()Z"⟩ : MethodName)) (z := (⟨"com/example/demarq/demarq/broker/SortedMessages", "isEmpty", "()Z"⟩ : MethodName)) hown (mvT hZ (hw _ (List.mem_of_getElem? (i := 26) rfl))) (mvT hZ (hw _ (List.mem_of_getElem? (i := 27) rfl))) (notFace_of_selects (args := #[]) (mvT hZ (hw _ (List.mem_of_getElem? (i := 29) rfl)))) (mvT hZ (hw _ (List.mem_of_getElem? (i := 29) rfl))) (mvT hZ (hw _ (List.mem_of_getElem? (i := 28) rfl))) (by decide) (backOf (W := 0) (rm4z l Z a0 hw [] b2 T59.heap n0 Z59 F_b2_size) hZ (hw _ (List.mem_of_getElem? (i := 30) rfl)) (hw _ (List.mem_of_getElem? (i := 2) rfl)) (by decide) (by decide)) q60a q60c (g := (mkF m 224 #[.val (.long i0), .second, .val (.long i1), .second, .val (.int i2), .val (.long v13), .second, .val (.ref b2), .val (.ref b4), .val (.ref b6), .val (.int (1 : Int32)), .val (.int (2 : Int32)), .val (.int (1 : Int32)), .val (.ref b6), .val (.ref b4), .val (.int (2 : Int32))] [(.ref b2)])) rfl (by rw [hml]; rfl) (Steps.refl _) (argsL := []) (rest := []) (lenOf own_pd9 rfl) rfl (by show 2 * 0 + _ ≤ _; exact Nat.le_of_eq rfl) (hb hby at_224) (fun _ _ => ⟨rfl, rfl, (by decide : 7 + 0 ≤ _), (by decide : 33 + 0 ≤ _)⟩)
            dsimp only [Pt.U, Pt.locs, Pt.cells, Pt.slots] at X60 l60 y60 z60 st60 hQ60
            subst l60 y60 z60
            obtain ⟨rfl, N60q, e60q⟩ := hQ60
            have N60 := Fr.app N59 N60q
            obtain ⟨lc60, X60, N60⟩ : ∃ lc, Stand p l e room_1 s m #[(.long i0), (.long i1), (.int i2)] below meth c T60 lc 7 33 ∧ Fr n0 lc := ⟨_, X60, N60⟩
            refine Go.tr st60 ?_
            show Go p e below Φ T60 (mkF m 227 #[.val (.long i0), .second, .val (.long i1), .second, .val (.int i2), .val (.long v13), .second, .val (.ref b2), .val (.ref b4), .val (.ref b6), .val (.int (1 : Int32)), .val (.int (2 : Int32)), .val (.int (1 : Int32)), .val (.ref b6), .val (.ref b4), .val (.int (2 : Int32))] [(.int (1 : Int32))])
            refine Go.of (fun t k => XS.iload X60.here hx rfl (hb hby at_227) rfl  k) ?_
            show Go p e below Φ T60 (mkF m 229 #[.val (.long i0), .second, .val (.long i1), .second, .val (.int i2), .val (.long v13), .second, .val (.ref b2), .val (.ref b4), .val (.ref b6), .val (.int (1 : Int32)), .val (.int (2 : Int32)), .val (.int (1 : Int32)), .val (.ref b6), .val (.ref b4), .val (.int (2 : Int32))] [(.int (2 : Int32)), (.int (1 : Int32))])
            refine Go.of (fun t k => XS.iload X60.here hx rfl (hb hby at_229) rfl  k) ?_
            show Go p e below Φ T60 (mkF m 231 #[.val (.long i0), .second, .val (.long i1), .second, .val (.int i2), .val (.long v13), .second, .val (.ref b2), .val (.ref b4), .val (.ref b6), .val (.int (1 : Int32)), .val (.int (2 : Int32)), .val (.int (1 : Int32)), .val (.ref b6), .val (.ref b4), .val (.int (2 : Int32))] [(.int (2 : Int32)), (.int (2 : Int32)), (.int (1 : Int32))])
            refine Go.of (fun t k => XS.isub X60.here hx rfl (hb hby at_231) rfl k) ?_
            show Go p e below Φ T60 (mkF m 232 #[.val (.long i0), .second, .val (.long i1), .second, .val (.int i2), .val (.long v13), .second, .val (.ref b2), .val (.ref b4), .val (.ref b6), .val (.int (1 : Int32)), .val (.int (2 : Int32)), .val (.int (1 : Int32)), .val (.ref b6), .val (.ref b4), .val (.int (2 : Int32))] [(.int (0 : Int32)), (.int (1 : Int32))])
            refine Go.of (fun t k => XS.ifNo X60.here hx rfl (hb hby at_232) rfl (XT.i0_ne_f rfl) k) ?_
            show Go p e below Φ T60 (mkF m 235 #[.val (.long i0), .second, .val (.long i1), .second, .val (.int i2), .val (.long v13), .second, .val (.ref b2), .val (.ref b4), .val (.ref b6), .val (.int (1 : Int32)), .val (.int (2 : Int32)), .val (.int (1 : Int32)), .val (.ref b6), .val (.ref b4), .val (.int (2 : Int32))] [(.int (1 : Int32))])
            refine Go.of (fun t k => XS.iconst X60.here hx rfl (hb hby at_235) k) ?_
            show Go p e below Φ T60 (mkF m 236 #[.val (.long i0), .second, .val (.long i1), .second, .val (.int i2), .val (.long v13), .second, .val (.ref b2), .val (.ref b4), .val (.ref b6), .val (.int (1 : Int32)), .val (.int (2 : Int32)), .val (.int (1 : Int32)), .val (.ref b6), .val (.ref b4), .val (.int (2 : Int32))] [(.int (1 : Int32)), (.int (1 : Int32))])
            refine Go.of (fun t k => XS.goto X60.here hx rfl (pc0 := 236) (pc' := 240) rfl (hb hby at_236) (by decide) (by decide) k) ?_
            show Go p e below Φ T60 (mkF m 240 #[.val (.long i0), .second, .val (.long i1), .second, .val (.int i2), .val (.long v13), .second, .val (.ref b2), .val (.ref b4), .val (.ref b6), .val (.int (1 : Int32)), .val (.int (2 : Int32)), .val (.int (1 : Int32)), .val (.ref b6), .val (.ref b4), .val (.int (2 : Int32))] [(.int (1 : Int32)), (.int (1 : Int32))])
            refine Go.of (fun t k => XS.icmpNo X60.here hx rfl (hb hby at_240) rfl (XT.ii_ne_f rfl) k) ?_
            show Go p e below Φ T60 (mkF m 243 #[.val (.long i0), .second, .val (.long i1), .second, .val (.int i2), .val (.long v13), .second, .val (.ref b2), .val (.ref b4), .val (.ref b6), .val (.int (1 : Int32)), .val (.int (2 : Int32)), .val (.int (1 : Int32)), .val (.ref b6), .val (.ref b4), .val (.int (2 : Int32))] [])
            refine Go.of (fun t k => XS.iconst X60.here hx rfl (hb hby at_243) k) ?_
            show Go p e below Φ T60 (mkF m 244 #[.val (.long i0), .second, .val (.long i1), .second, .val (.int i2), .val (.long v13), .second, .val (.ref b2), .val (.ref b4), .val (.ref b6), .val (.int (1 : Int32)), .val (.int (2 : Int32)), .val (.int (1 : Int32)), .val (.ref b6), .val (.ref b4), .val (.int (2 : Int32))] [(.int (1 : Int32))])
            refine Go.of (fun t k => XS.goto X60.here hx rfl (pc0 := 244) (pc' := 248) rfl (hb hby at_244) (by decide) (by decide) k) ?_
            show Go p e below Φ T60 (mkF m 248 #[.val (.long i0), .second, .val (.long i1), .second, .val (.int i2), .val (.long v13), .second, .val (.ref b2), .val (.ref b4), .val (.ref b6), .val (.int (1 : Int32)), .val (.int (2 : Int32)), .val (.int (1 : Int32)), .val (.ref b6), .val (.ref b4), .val (.int (2 : Int32))] [(.int (1 : Int32))])
            refine Go.of (fun t k => XS.istore X60.here hx rfl (hb hby at_248) rfl (l' := #[.val (.long i0), .second, .val (.long i1), .second, .val (.int i2), .val (.long v13), .second, .val (.ref b2), .val (.ref b4), .val (.ref b6), .val (.int (1 : Int32)), .val (.int (2 : Int32)), .val (.int (1 : Int32)), .val (.ref b6), .val (.ref b4), .val (.int (2 : Int32))]) rfl k) ?_
            show Go p e below Φ T60 (mkF m 250 #[.val (.long i0), .second, .val (.long i1), .second, .val (.int i2), .val (.long v13), .second, .val (.ref b2), .val (.ref b4), .val (.ref b6), .val (.int (1 : Int32)), .val (.int (2 : Int32)), .val (.int (1 : Int32)), .val (.ref b6), .val (.ref b4), .val (.int (2 : Int32))] [])
            refine Go.of (fun t k => XS.iload X60.here hx rfl (hb hby at_250) rfl  k) ?_
            show Go p e below Φ T60 (mkF m 252 #[.val (.long i0), .second, .val (.long i1), .second, .val (.int i2), .val (.long v13), .second, .val (.ref b2), .val (.ref b4), .val (.ref b6), .val (.int (1 : Int32)), .val (.int (2 : Int32)), .val (.int (1 : Int32)), .val (.ref b6), .val (.ref b4), .val (.int (2 : Int32))] [(.int (1 : Int32))])
            rw [hΦ]
            refine Go.ret X60 hx Bd.notSynchronized Bd.returns rfl (Or.inl ⟨rfl, Or.inr (Or.inl rfl), _, rfl⟩) (hb hby at_252) (by decide) (by decide) ?_
            rw [(e60q)]
            exact ⟨rfl, N60⟩
set_option maxRecDepth 65536 in
set_option maxHeartbeats 40000000 in
theorem comes_1 {Post : Tables → Env → Array Value → State → Outcome → State → Prop} (hpost : ∀ tb e args s v u, (limb_1_1.after args s (.returned v) u = true ∧ limb_1_2.after args s (.returned v) u = true ∧ True) → FrameEnd s (.returned v) u (Jvm.fieldLocs frame_1_writes args s ++ Jvm.arrayLocs frame_1_arrays args s ++ Jvm.staticLocs frame_1_statics s) 24 192 → Post tb e args s (.returned v) u) :
    ArmFor flags0 classFile x code maxLocals ret World_1 tables_1 room_1 Calls_1 rest_1 Pre_1 Post := by
  intro l hfl _ _ p e ha hc hk s m args below hf hA hF happ hP
  obtain ⟨hcalls, hrest, hpre⟩ := hP
  obtain ⟨-, -, -, hnamed, -, -, -, hat⟩ := (Spec.applies_iff hf).mp happ
  obtain ⟨hg, hn⟩ := and_e (Cond.before_iff.mp (show (Jvm.Cond.and given_1 narrow_1).before args s = true from hpre))
  obtain ⟨g1, g2⟩ := and_e hg
  obtain ⟨g3, g4⟩ := and_e g2
  obtain ⟨g5, g6⟩ := and_e g4
  obtain ⟨w0, w1, w2, rfl⟩ : ∃ w0 w1 w2 : Value, args = #[w0, w1, w2] := by
    have hs : args.size = 3 := by simpa [Cond.value, given_1] using g1
    obtain ⟨L⟩ := args
    match L, hs with
    | [w0, w1, w2], _ => exact ⟨w0, w1, w2, rfl⟩
  have hw := fun d (hd : d ∈ tables_1) => atoms_spec (ws := Jvm.Cond.code x code maxLocals ret :: tables_1) hat d (List.mem_cons_of_mem _ hd)
  have hfit : Fit s := fun {y c} hc i hi => by
    obtain ⟨ha, rfl⟩ := Array.getElem?_eq_some_iff.mp hc
    have q := List.all_eq_true.mp ((Array.all_eq_true_iff_forall_mem.mp hF) _ (Array.getElem_mem ha)) i (List.mem_range.mpr hi)
    simpa [Array.getElem?_eq_getElem hi] using q
  obtain ⟨i0, ei0⟩ := isL_v g3
  obtain rfl : w0 = (.long i0) := Option.some.inj ei0
  obtain ⟨i1, ei1⟩ := isL_v g5
  obtain rfl : w1 = (.long i1) := Option.some.inj ei1
  obtain ⟨i2, ei2⟩ := is_v g6
  obtain rfl : w2 = (.int i2) := Option.some.inj ei2
  obtain ⟨n, o, h1, h2, h3, _, L, rfl, ⟨rfl, N⟩, hq⟩ := rm0 l s _ hw tables_1 i0 i1 i2  s.heap s.heap.size (Nat.le_refl _)  p e ha hc hk s m _ below hf ((Spec.applies_iff_loose hf).mp happ).1 ⟨rfl, State.Warmed39.refl s, rfl⟩ trivial
  refine ⟨n, _, h1, h2, h3, hpost _ _ _ _ _ _ ⟨Cond.after_iff.mpr rfl, Cond.after_iff.mpr (eq_i res_at (Term.int_eval (1)) rfl), trivial⟩ ⟨hq.1, hq.2.1, (hq.2.2.sift fun y hy => Or.inr (N y hy)).mono (by decide) (by decide)⟩⟩
theorem main_1_1 : Claimed_1_1 := comes_1 fun _ _ _ _ _ _ h hF => ⟨h.1, Jvm.RoadKit.wide hF⟩
theorem main_1_2 : Claimed_1_2 := comes_1 fun _ _ _ _ _ _ h hF => ⟨h.2.1, Jvm.RoadKit.wide hF⟩
end Jvm.Pilot.@@N@@
namespace Jvm.Pilot.@@N@@
open Jvm Jvm.ClassFile Sem Op Lib Jvm.Free Jvm.Stand Jvm.Pilot.@@N@@.Jvm.D
/-! MADE BY PROGRAM (witnessworld.py) out of the Statement's table words and the real class files: 13 classes; the members and pool entries that the words name. The judged class is class 1, her method 1. -/
namespace start1
open Jvm.ClassFile
def u (s : String) : CpInfo := .utf8 (stringToUtf16 s)
/-- a pool by its gaps: so many unusable entries, then the entry; so many at the end -/
def gap : Nat → List CpInfo → List CpInfo
  | 0, r => r
  | n + 1, r => .unusable :: gap n r
def poolList (es : List (Nat × CpInfo)) (last : Nat) : List CpInfo := es.foldr (fun e r => gap e.1 (e.2 :: r)) (gap last [])
def pool (es : List (Nat × CpInfo)) (last : Nat) : Array CpInfo := ⟨poolList es last⟩
def fileOf (pool : Array CpInfo) (this : Nat) (attrs : Array Attribute := #[]) (ms : Array MethodInfo := #[]) (fl : Nat := 33) (sup : Nat := 0) (ifs : Array Nat := #[]) (fds : Array FieldInfo := #[]) : ClassFile where
  minorVersion := 0
  majorVersion := 65
  constantPool := pool
  accessFlags := fl
  thisClass := this
  superClass := sup
  interfaces := ifs
  fields := fds
  methods := ms
  attributes := attrs
def plain (name : String) (sup : Option ClassId) : Class where
  name := name
  kind := .ordinary
  loader := none
  accessFlags := 33
  super := sup
  interfaces := #[]
  cf := none
  fields := #[]
  methods := #[]
  instanceTypes := #[]
  staticTypes := #[]
  resolved := #[]
  callSites := []
  init := .initialized
  statics := none
  mirror := none

def pool0 : Array CpInfo := pool [(5, u "<init>"), (0, u "()V"), (1, .class_ 10), (1, u "java/lang/Object")] 113

def k0c0 : Code := { maxStack := 0, maxLocals := 1, code := object_method_1_code, exceptionTable := #[], attributes := #[] }
def k0m0 : Method := { name := "<init>", desc := "()V", sig := { parameters := [], returnType := none }, accessFlags := 1, code := some k0c0 }
/-- java/lang/Object -/
def k0 : Class := { plain "java/lang/Object" none with
  accessFlags := 33
  interfaces := #[]
  cf := some (fileOf pool0 8 #[] #[{ accessFlags := 1, nameIndex := 5, descriptorIndex := 6, attributes := #[] }] 33 0 #[] #[])
  fields := #[]
  methods := #[k0m0]
  instanceTypes := #[]
  staticTypes := #[]
  resolved := Array.replicate 124 none
  statics := none }

def pool1 : Array CpInfo := pool [(2, .class_ 4), (0, .nameAndType 5 6), (0, u "java/lang/Object"), (0, u "<init>"), (0, u "()V"), (0, .class_ 8), (0, u "com/example/demarq/demarq/broker/SortedMessages"), (0, .methodref 7 3), (0, .class_ 11), (0, u "com/example/demarq/demarq/broker/Message"), (0, .methodref 10 13), (0, .nameAndType 5 14), (0, u "(J[BZ)V"), (0, .methodref 7 16), (0, .nameAndType 17 18), (0, u "isEmpty"), (0, u "()Z"), (0, .methodref 7 20), (0, .nameAndType 21 22), (0, u "add"), (0, u "(Lcom/example/demarq/demarq/broker/Message;)V"), (0, .methodref 7 24), (0, .nameAndType 25 22), (0, u "remove"), (0, .class_ 27), (0, u "com/example/demarq/demarq/broker/SortedMessagesIsEmptyPinLaw"), (2, u "law"), (0, u "(JJI)Z")] 3

def k1m0 : Method := { name := "<init>", desc := "()V", sig := { parameters := [], returnType := none }, accessFlags := 1, code := none }
def k1c1 : Code := { maxStack := 6, maxLocals := 16, code := code, exceptionTable := #[], attributes := #[] }
def k1m1 : Method := { name := "law", desc := "(JJI)Z", sig := { parameters := [.long, .long, .int], returnType := some .boolean }, accessFlags := 9, code := some k1c1 }
/-- com/example/demarq/demarq/broker/SortedMessagesIsEmptyPinLaw -/
def k1 : Class := { plain "com/example/demarq/demarq/broker/SortedMessagesIsEmptyPinLaw" (some 0) with
  accessFlags := 49
  interfaces := #[]
  cf := some (fileOf pool1 26 #[] #[{ accessFlags := 1, nameIndex := 5, descriptorIndex := 6, attributes := #[] }, { accessFlags := 9, nameIndex := 30, descriptorIndex := 31, attributes := #[] }] 49 2 #[] #[])
  fields := #[]
  methods := #[k1m0, k1m1]
  instanceTypes := #[]
  staticTypes := #[]
  resolved := Array.replicate 35 none
  statics := none }

def pool2 : Array CpInfo := pool [(1, .methodref 2 3), (0, .class_ 4), (0, .nameAndType 5 6), (0, u "java/lang/Object"), (0, u "<init>"), (0, u "()V"), (0, .class_ 8), (0, u "com/example/demarq/demarq/broker/SortedMessages"), (0, .class_ 10), (0, u "com/example/demarq/demarq/broker/Message"), (0, .fieldref 7 12), (0, .nameAndType 13 14), (0, u "ring"), (0, u "[Lcom/example/demarq/demarq/broker/Message;"), (0, .fieldref 7 16), (0, .nameAndType 17 18), (0, u "size"), (0, u "I"), (4, .methodref 7 24), (0, .nameAndType 25 26), (0, u "get"), (0, u "(I)Lcom/example/demarq/demarq/broker/Message;"), (0, .methodref 9 28), (0, .nameAndType 29 30), (0, u "position"), (0, u "()J"), (0, .methodref 7 32), (0, .nameAndType 33 34), (0, u "countBelow"), (0, u "(J)I"), (0, .methodref 7 36), (0, .nameAndType 37 38), (0, u "slot"), (0, u "(I)I"), (0, .fieldref 7 40), (0, .nameAndType 41 18), (0, u "head"), (0, .methodref 7 43), (0, .nameAndType 44 45), (0, u "set"), (0, u "(ILcom/example/demarq/demarq/broker/Message;)V"), (5, u "test"), (1, .methodref 7 54), (0, .nameAndType 55 56), (0, u "lowestIndex"), (0, u "(ILjava/util/function/IntPredicate;)I"), (0, .invokeDynamic 1 58), (0, .nameAndType 51 59), (0, u "(Lcom/example/demarq/demarq/broker/SortedMessages;J)Ljava/util/function/IntPredicate;"), (0, .interfaceMethodref 61 62), (0, .class_ 63), (0, .nameAndType 51 64), (0, u "java/util/function/IntPredicate"), (0, u "(I)Z"), (0, u "INITIAL_CAPACITY"), (4, u "isEmpty"), (0, u "()Z"), (1, u "add"), (0, u "(Lcom/example/demarq/demarq/broker/Message;)V"), (0, u "remove"), (7, u "lambda$countBelow$1"), (0, u "(JI)Z"), (5, .methodType 64), (3, .methodHandle 5 95), (0, .methodref 7 96), (0, .nameAndType 83 84), (0, .methodHandle 6 98), (0, .methodref 99 100), (0, .class_ 101), (0, .nameAndType 102 103), (0, u "java/lang/invoke/LambdaMetafactory"), (0, u "metafactory"), (0, u "(Ljava/lang/invoke/MethodHandles$Lookup;Ljava/lang/String;Ljava/lang/invoke/MethodType;Ljava/lang/invoke/MethodType;Ljava/lang/invoke/MethodHandle;Ljava/lang/invoke/MethodType;)Ljava/lang/invoke/CallSite;")] 6

def k2c0 : Code := { maxStack := 2, maxLocals := 1, code := prog_12_method_1_code, exceptionTable := #[], attributes := #[] }
def k2m0 : Method := { name := "<init>", desc := "()V", sig := { parameters := [], returnType := none }, accessFlags := 0, code := some k2c0 }
def k2c1 : Code := { maxStack := 1, maxLocals := 1, code := prog_12_method_2_code, exceptionTable := #[], attributes := #[] }
def k2m1 : Method := { name := "isEmpty", desc := "()Z", sig := { parameters := [], returnType := some .boolean }, accessFlags := 0, code := some k2c1 }
def k2c2 : Code := { maxStack := 5, maxLocals := 4, code := prog_12_method_3_code, exceptionTable := #[], attributes := #[] }
def k2m2 : Method := { name := "add", desc := "(Lcom/example/demarq/demarq/broker/Message;)V", sig := { parameters := [(.object "com/example/demarq/demarq/broker/Message")], returnType := none }, accessFlags := 0, code := some k2c2 }
def k2c3 : Code := { maxStack := 5, maxLocals := 4, code := prog_12_method_4_code, exceptionTable := #[], attributes := #[] }
def k2m3 : Method := { name := "remove", desc := "(Lcom/example/demarq/demarq/broker/Message;)V", sig := { parameters := [(.object "com/example/demarq/demarq/broker/Message")], returnType := none }, accessFlags := 0, code := some k2c3 }
def k2c4 : Code := { maxStack := 4, maxLocals := 3, code := prog_12_method_8_code, exceptionTable := #[], attributes := #[] }
def k2m4 : Method := { name := "countBelow", desc := "(J)I", sig := { parameters := [.long], returnType := some .int }, accessFlags := 2, code := some k2c4 }
def k2c5 : Code := { maxStack := 2, maxLocals := 5, code := prog_12_method_9_code, exceptionTable := #[], attributes := #[] }
def k2m5 : Method := { name := "lowestIndex", desc := "(ILjava/util/function/IntPredicate;)I", sig := { parameters := [.int, (.object "java/util/function/IntPredicate")], returnType := some .int }, accessFlags := 10, code := some k2c5 }
def k2c6 : Code := { maxStack := 3, maxLocals := 2, code := prog_12_method_11_code, exceptionTable := #[], attributes := #[] }
def k2m6 : Method := { name := "get", desc := "(I)Lcom/example/demarq/demarq/broker/Message;", sig := { parameters := [.int], returnType := some (.object "com/example/demarq/demarq/broker/Message") }, accessFlags := 2, code := some k2c6 }
def k2c7 : Code := { maxStack := 3, maxLocals := 3, code := prog_12_method_12_code, exceptionTable := #[], attributes := #[] }
def k2m7 : Method := { name := "set", desc := "(ILcom/example/demarq/demarq/broker/Message;)V", sig := { parameters := [.int, (.object "com/example/demarq/demarq/broker/Message")], returnType := none }, accessFlags := 2, code := some k2c7 }
def k2c8 : Code := { maxStack := 2, maxLocals := 2, code := prog_12_method_13_code, exceptionTable := #[], attributes := #[] }
def k2m8 : Method := { name := "slot", desc := "(I)I", sig := { parameters := [.int], returnType := some .int }, accessFlags := 2, code := some k2c8 }
def k2c9 : Code := { maxStack := 4, maxLocals := 4, code := prog_12_method_15_code, exceptionTable := #[], attributes := #[] }
def k2m9 : Method := { name := "lambda$countBelow$1", desc := "(JI)Z", sig := { parameters := [.long, .int], returnType := some .boolean }, accessFlags := 4098, code := some k2c9 }
/-- com/example/demarq/demarq/broker/SortedMessages -/
def k2 : Class := { plain "com/example/demarq/demarq/broker/SortedMessages" (some 0) with
  accessFlags := 48
  interfaces := #[]
  cf := some (fileOf pool2 7 #[.bootstrapMethods #[⟨0, #[]⟩, ⟨97, #[90, 94, 90]⟩]] #[{ accessFlags := 0, nameIndex := 5, descriptorIndex := 6, attributes := #[] }, { accessFlags := 0, nameIndex := 70, descriptorIndex := 71, attributes := #[] }, { accessFlags := 0, nameIndex := 73, descriptorIndex := 74, attributes := #[] }, { accessFlags := 0, nameIndex := 75, descriptorIndex := 74, attributes := #[] }, { accessFlags := 2, nameIndex := 33, descriptorIndex := 34, attributes := #[] }, { accessFlags := 10, nameIndex := 55, descriptorIndex := 56, attributes := #[] }, { accessFlags := 2, nameIndex := 25, descriptorIndex := 26, attributes := #[] }, { accessFlags := 2, nameIndex := 44, descriptorIndex := 45, attributes := #[] }, { accessFlags := 2, nameIndex := 37, descriptorIndex := 38, attributes := #[] }, { accessFlags := 4098, nameIndex := 83, descriptorIndex := 84, attributes := #[] }] 48 2 #[] #[{ accessFlags := 26, nameIndex := 65, descriptorIndex := 18, attributes := #[] }, { accessFlags := 2, nameIndex := 13, descriptorIndex := 14, attributes := #[] }, { accessFlags := 2, nameIndex := 41, descriptorIndex := 18, attributes := #[] }, { accessFlags := 2, nameIndex := 17, descriptorIndex := 18, attributes := #[] }])
  fields := #[{ name := "INITIAL_CAPACITY", type := .int, accessFlags := 26, slot := 0, constantValue := 0 }, { name := "ring", type := (.array (.object "com/example/demarq/demarq/broker/Message")), accessFlags := 2, slot := 0, constantValue := 0 }, { name := "head", type := .int, accessFlags := 2, slot := 1, constantValue := 0 }, { name := "size", type := .int, accessFlags := 2, slot := 2, constantValue := 0 }]
  methods := #[k2m0, k2m1, k2m2, k2m3, k2m4, k2m5, k2m6, k2m7, k2m8, k2m9]
  instanceTypes := #[(.array (.object "com/example/demarq/demarq/broker/Message")), .int, .int]
  staticTypes := #[.int]
  resolved := Array.replicate 110 none
  callSites := [(4, 6, .makes 12)]
  statics := none }

def pool3 : Array CpInfo := pool [(1, .methodref 2 3), (0, .class_ 4), (0, .nameAndType 5 6), (0, u "java/lang/Object"), (0, u "<init>"), (0, u "()V"), (0, .fieldref 8 9), (0, .class_ 10), (0, .nameAndType 11 12), (0, u "com/example/demarq/demarq/broker/Message"), (0, u "position"), (0, u "J"), (0, .fieldref 8 14), (0, .nameAndType 15 16), (0, u "encoded"), (0, u "[B"), (0, .fieldref 8 18), (0, .nameAndType 19 20), (0, u "durable"), (0, u "Z"), (2, u "failedDeliveries"), (0, u "I"), (0, u "(J[BZ)V"), (2, u "()J")] 8

def k3c0 : Code := { maxStack := 3, maxLocals := 5, code := prog_7_method_1_code, exceptionTable := #[], attributes := #[] }
def k3m0 : Method := { name := "<init>", desc := "(J[BZ)V", sig := { parameters := [.long, (.array .byte), .boolean], returnType := none }, accessFlags := 0, code := some k3c0 }
def k3c1 : Code := { maxStack := 2, maxLocals := 1, code := prog_7_method_2_code, exceptionTable := #[], attributes := #[] }
def k3m1 : Method := { name := "position", desc := "()J", sig := { parameters := [], returnType := some .long }, accessFlags := 0, code := some k3c1 }
/-- com/example/demarq/demarq/broker/Message -/
def k3 : Class := { plain "com/example/demarq/demarq/broker/Message" (some 0) with
  accessFlags := 49
  interfaces := #[]
  cf := some (fileOf pool3 8 #[] #[{ accessFlags := 0, nameIndex := 5, descriptorIndex := 25, attributes := #[] }, { accessFlags := 0, nameIndex := 11, descriptorIndex := 28, attributes := #[] }] 49 2 #[] #[{ accessFlags := 18, nameIndex := 11, descriptorIndex := 12, attributes := #[] }, { accessFlags := 18, nameIndex := 19, descriptorIndex := 20, attributes := #[] }, { accessFlags := 2, nameIndex := 15, descriptorIndex := 16, attributes := #[] }, { accessFlags := 2, nameIndex := 23, descriptorIndex := 24, attributes := #[] }])
  fields := #[{ name := "position", type := .long, accessFlags := 18, slot := 0, constantValue := 0 }, { name := "durable", type := .boolean, accessFlags := 18, slot := 1, constantValue := 0 }, { name := "encoded", type := (.array .byte), accessFlags := 2, slot := 2, constantValue := 0 }, { name := "failedDeliveries", type := .int, accessFlags := 2, slot := 3, constantValue := 0 }]
  methods := #[k3m0, k3m1]
  instanceTypes := #[.long, .boolean, (.array .byte), .int]
  staticTypes := #[]
  resolved := Array.replicate 37 none
  statics := none }

def pool4 : Array CpInfo := pool [(9, u "test"), (6, .class_ 18), (1, u "java/util/function/IntPredicate"), (0, u "(I)Z"), (0, .class_ 21), (0, u "java/lang/Object")] 45

def k4m0 : Method := { name := "test", desc := "(I)Z", sig := { parameters := [.int], returnType := some .boolean }, accessFlags := 1025, code := none }
/-- java/util/function/IntPredicate -/
def k4 : Class := { plain "java/util/function/IntPredicate" (some 0) with
  accessFlags := 1537
  interfaces := #[]
  cf := some (fileOf pool4 16 #[] #[{ accessFlags := 1025, nameIndex := 9, descriptorIndex := 19, attributes := #[] }] 1537 20 #[] #[])
  fields := #[]
  methods := #[k4m0]
  instanceTypes := #[]
  staticTypes := #[]
  resolved := Array.replicate 67 none
  statics := none }

def pool5 : Array CpInfo := pool [(1, u "java/lang/Cloneable"), (0, .class_ 1), (0, u "java/lang/Object"), (0, .class_ 3)] 3

/-- java/lang/Cloneable -/
def k5 : Class := { plain "java/lang/Cloneable" (some 0) with
  accessFlags := 1537
  interfaces := #[]
  cf := some (fileOf pool5 2 #[] #[] 1537 4 #[] #[])
  fields := #[]
  methods := #[]
  instanceTypes := #[]
  staticTypes := #[]
  resolved := Array.replicate 8 none
  statics := none }

def pool6 : Array CpInfo := pool [(1, u "java/io/Serializable"), (0, .class_ 1), (0, u "java/lang/Object"), (0, .class_ 3)] 3

/-- java/io/Serializable -/
def k6 : Class := { plain "java/io/Serializable" (some 0) with
  accessFlags := 1537
  interfaces := #[]
  cf := some (fileOf pool6 2 #[] #[] 1537 4 #[] #[])
  fields := #[]
  methods := #[]
  instanceTypes := #[]
  staticTypes := #[]
  resolved := Array.replicate 8 none
  statics := none }

/-- the primitive byte -/
def k7 : Class := { plain "byte" none with kind := .primitive 'B', accessFlags := 0x411 }
/-- [B -/
def k8 : Class := { plain "[B" (some 0) with kind := .array 7 .byte, interfaces := #[5, 6], accessFlags := 1041 }

/-- the primitive int -/
def k9 : Class := { plain "int" none with kind := .primitive 'I', accessFlags := 0x411 }
/-- [I -/
def k10 : Class := { plain "[I" (some 0) with kind := .array 9 .int, interfaces := #[5, 6], accessFlags := 1041 }

/-- [Lcom/example/demarq/demarq/broker/Message; -/
def k11 : Class := { plain "[Lcom/example/demarq/demarq/broker/Message;" (some 0) with kind := .array 3 (.object "com/example/demarq/demarq/broker/Message"), interfaces := #[5, 6], accessFlags := 1041 }

def classes0 : Array Class := #[k0, k1, k2, k3, k4, k5, k6, k7, k8, k9, k10, k11]
/-- the class that the rule has made for the site at 6 of com/example/demarq/demarq/broker/SortedMessages.countBelow -/
def k12 : Class := Jvm.LamKit.madeRec { classes := classes0 } "com/example/demarq/demarq/broker/SortedMessages" (Jvm.Lambda.Shape.mk "java/util/function/IntPredicate" "test" (Jvm.ClassFile.MethodDescriptor.mk ([Jvm.ClassFile.FieldType.int] : List Jvm.ClassFile.FieldType) (Option.some Jvm.ClassFile.FieldType.boolean)) ([(Jvm.ClassFile.FieldType.object "com/example/demarq/demarq/broker/SortedMessages"), Jvm.ClassFile.FieldType.long] : List Jvm.ClassFile.FieldType) (5 : Nat) "com/example/demarq/demarq/broker/SortedMessages" "lambda$countBelow$1" (Jvm.ClassFile.MethodDescriptor.mk ([Jvm.ClassFile.FieldType.long, Jvm.ClassFile.FieldType.int] : List Jvm.ClassFile.FieldType) (Option.some Jvm.ClassFile.FieldType.boolean)) false (Jvm.ClassFile.MethodDescriptor.mk ([Jvm.ClassFile.FieldType.int] : List Jvm.ClassFile.FieldType) (Option.some Jvm.ClassFile.FieldType.boolean))) 12

def heap : Heap := #[]
def classes : Array Class := #[k0, k1, k2, k3, k4, k5, k6, k7, k8, k9, k10, k11, k12]
def interned : List (Array UInt16 × Addr) := []
def slotsUsed : Nat := 0
def theMethod : MethodId := ⟨1, 1⟩
def args0 : Array Value := #[.long 5, .long 7, .int 2]
def aboutOver (below : List Frame) : State where
  vm := { classes := classes, interned := interned.toArray }
  heap := heap
  slotsUsed := slotsUsed
  threads := #[{ frames := .invoking theMethod args0 :: below }]
def below0 : List Frame := [.native { method := ⟨0, 0⟩, args := #[] }]
def about1 : State := aboutOver below0
def p0 : Program := .bare "" "" ""
def e0 : Env := launch0.env 0 0 0
theorem w_frames : about1.frames = Frame.invoking theMethod args0 :: below0 := rfl
set_option maxRecDepth 65536 in
theorem w_args : argsFit about1.vm theMethod args0 = true := by decide +kernel
set_option maxRecDepth 65536 in
theorem w_heap : heapFits about1 = true := by decide +kernel
set_option maxRecDepth 65536 in
theorem w_runnable : about1.curStatus? = some .runnable := by decide +kernel
set_option maxRecDepth 65536 in
theorem w_alone : about1.alone = true := by decide +kernel
set_option maxRecDepth 65536 in
theorem w_named : about1.methodNamed? x = some theMethod := by decide +kernel
set_option maxRecDepth 65536 in
theorem w_hears : about1.hears theMethod below0 = true := by decide +kernel
set_option maxRecDepth 65536 in
theorem w_ripe : about1.ripe theMethod args0 below0 = true := by decide +kernel
theorem w_running : about1.status = .running := rfl
set_option maxRecDepth 65536 in
theorem w_room : about1.hasRoom e0.platform room_1 = true :=
  launch0.hasRoom_least _ room_1 (by decide +kernel) (by decide +kernel) (by decide +kernel) (by decide +kernel) (by decide +kernel) (by decide +kernel)
theorem allAtoms_all (ts : List Jvm.Cond) (a : Array Jvm.Value) (st : Jvm.State) : (allAtoms ts).before a st = ts.all (fun c => c.before a st) := by
  induction ts with
  | nil => rfl
  | cons c t ih =>
    show (Jvm.Cond.and c (allAtoms t)).before a st = _
    rw [Jvm.Cond.before_and, ih, List.all_cons]
def words1 : List Jvm.Cond := Jvm.Cond.code x code maxLocals ret :: tables_1
/-- a 'code' word, met by the world's own term for the bytes: nothing is compared byte by byte -/
theorem code_word {y : MethodName} {bytes : ByteArray} {mx : Nat} {rt : Option FieldType} {a : Array Value} {s : State} {m : MethodId} {meth : Method} {c : Code} (h1 : s.methodNamed? y = some m) (h2 : s.vm.method? m = some meth) (h3 : meth.code = some c) (h4 : c.code = bytes)
    (h5 : (c.maxLocals == mx && c.exceptionTable.isEmpty && decide (c.maxStack ≤ mostOperands) && decide (meth.sig.returnType = rt) && !meth.locks && decide (parseMethodDescriptor y.desc = some meth.sig)) = true) : (Jvm.Cond.code y bytes mx rt).before a s = true := by
  simp only [Bool.and_eq_true, beq_iff_eq, Bool.not_eq_true', decide_eq_true_eq] at h5
  obtain ⟨⟨⟨⟨⟨g1, g2⟩, g3⟩, g4⟩, g5⟩, g6⟩ := h5
  simp [Cond.before, Cond.holds, Cond.value, h1, h2, h3, h4, g1, g2, g3, g4, g5, g6]
def isCode : Jvm.Cond → Bool
  | .code _ _ _ _ => true
  | _ => false
theorem all_split {L : List Jvm.Cond} {P : Jvm.Cond → Bool} (h1 : L.all (fun c => isCode c || P c) = true) (h2 : ∀ c ∈ L.filter isCode, P c = true) : L.all P = true := by
  refine List.all_eq_true.mpr fun c hc => ?_
  have h := List.all_eq_true.mp h1 c hc
  rcases Bool.eq_false_or_eq_true (isCode c) with hi | hi
  · exact h2 c (List.mem_filter.mpr ⟨hc, hi⟩)
  · simpa [hi] using h
set_option maxRecDepth 65536 in
theorem w_c0 : (Jvm.Cond.code x code maxLocals ret).before args0 about1 = true := code_word (m := ⟨1, 1⟩) (meth := k1m1) (c := k1c1) (by decide +kernel) rfl rfl rfl (by decide +kernel)
set_option maxRecDepth 65536 in
theorem w_c1 : (Jvm.Cond.code ({ cls := "com/example/demarq/demarq/broker/SortedMessages", name := "<init>", desc := "()V" } : Jvm.MethodName) prog_12_method_1_code (1 : Nat) (Option.none : Option Jvm.ClassFile.FieldType)).before args0 about1 = true := code_word (m := ⟨2, 0⟩) (meth := k2m0) (c := k2c0) (by decide +kernel) rfl rfl rfl (by decide +kernel)
set_option maxRecDepth 65536 in
theorem w_c2 : (Jvm.Cond.code ({ cls := "java/lang/Object", name := "<init>", desc := "()V" } : Jvm.MethodName) object_method_1_code (1 : Nat) (Option.none : Option Jvm.ClassFile.FieldType)).before args0 about1 = true := code_word (m := ⟨0, 0⟩) (meth := k0m0) (c := k0c0) (by decide +kernel) rfl rfl rfl (by decide +kernel)
set_option maxRecDepth 65536 in
theorem w_c3 : (Jvm.Cond.code ({ cls := "com/example/demarq/demarq/broker/Message", name := "<init>", desc := "(J[BZ)V" } : Jvm.MethodName) prog_7_method_1_code (5 : Nat) (Option.none : Option Jvm.ClassFile.FieldType)).before args0 about1 = true := code_word (m := ⟨3, 0⟩) (meth := k3m0) (c := k3c0) (by decide +kernel) rfl rfl rfl (by decide +kernel)
set_option maxRecDepth 65536 in
theorem w_c4 : (Jvm.Cond.code ({ cls := "com/example/demarq/demarq/broker/SortedMessages", name := "isEmpty", desc := "()Z" } : Jvm.MethodName) prog_12_method_2_code (1 : Nat) (Option.some Jvm.ClassFile.FieldType.boolean)).before args0 about1 = true := code_word (m := ⟨2, 1⟩) (meth := k2m1) (c := k2c1) (by decide +kernel) rfl rfl rfl (by decide +kernel)
set_option maxRecDepth 65536 in
theorem w_c5 : (Jvm.Cond.code ({ cls := "com/example/demarq/demarq/broker/SortedMessages", name := "add", desc := "(Lcom/example/demarq/demarq/broker/Message;)V" } : Jvm.MethodName) prog_12_method_3_code (4 : Nat) (Option.none : Option Jvm.ClassFile.FieldType)).before args0 about1 = true := code_word (m := ⟨2, 2⟩) (meth := k2m2) (c := k2c2) (by decide +kernel) rfl rfl rfl (by decide +kernel)
set_option maxRecDepth 65536 in
theorem w_c6 : (Jvm.Cond.code ({ cls := "com/example/demarq/demarq/broker/SortedMessages", name := "set", desc := "(ILcom/example/demarq/demarq/broker/Message;)V" } : Jvm.MethodName) prog_12_method_12_code (3 : Nat) (Option.none : Option Jvm.ClassFile.FieldType)).before args0 about1 = true := code_word (m := ⟨2, 7⟩) (meth := k2m7) (c := k2c7) (by decide +kernel) rfl rfl rfl (by decide +kernel)
set_option maxRecDepth 65536 in
theorem w_c7 : (Jvm.Cond.code ({ cls := "com/example/demarq/demarq/broker/SortedMessages", name := "slot", desc := "(I)I" } : Jvm.MethodName) prog_12_method_13_code (2 : Nat) (Option.some Jvm.ClassFile.FieldType.int)).before args0 about1 = true := code_word (m := ⟨2, 8⟩) (meth := k2m8) (c := k2c8) (by decide +kernel) rfl rfl rfl (by decide +kernel)
set_option maxRecDepth 65536 in
theorem w_c8 : (Jvm.Cond.code ({ cls := "com/example/demarq/demarq/broker/SortedMessages", name := "remove", desc := "(Lcom/example/demarq/demarq/broker/Message;)V" } : Jvm.MethodName) prog_12_method_4_code (4 : Nat) (Option.none : Option Jvm.ClassFile.FieldType)).before args0 about1 = true := code_word (m := ⟨2, 3⟩) (meth := k2m3) (c := k2c3) (by decide +kernel) rfl rfl rfl (by decide +kernel)
set_option maxRecDepth 65536 in
theorem w_c9 : (Jvm.Cond.code ({ cls := "com/example/demarq/demarq/broker/Message", name := "position", desc := "()J" } : Jvm.MethodName) prog_7_method_2_code (1 : Nat) (Option.some Jvm.ClassFile.FieldType.long)).before args0 about1 = true := code_word (m := ⟨3, 1⟩) (meth := k3m1) (c := k3c1) (by decide +kernel) rfl rfl rfl (by decide +kernel)
set_option maxRecDepth 65536 in
theorem w_c10 : (Jvm.Cond.code ({ cls := "com/example/demarq/demarq/broker/SortedMessages", name := "countBelow", desc := "(J)I" } : Jvm.MethodName) prog_12_method_8_code (3 : Nat) (Option.some Jvm.ClassFile.FieldType.int)).before args0 about1 = true := code_word (m := ⟨2, 4⟩) (meth := k2m4) (c := k2c4) (by decide +kernel) rfl rfl rfl (by decide +kernel)
set_option maxRecDepth 65536 in
theorem w_c11 : (Jvm.Cond.code ({ cls := "com/example/demarq/demarq/broker/SortedMessages", name := "lowestIndex", desc := "(ILjava/util/function/IntPredicate;)I" } : Jvm.MethodName) prog_12_method_9_code (5 : Nat) (Option.some Jvm.ClassFile.FieldType.int)).before args0 about1 = true := code_word (m := ⟨2, 5⟩) (meth := k2m5) (c := k2c5) (by decide +kernel) rfl rfl rfl (by decide +kernel)
set_option maxRecDepth 65536 in
theorem w_c12 : (Jvm.Cond.code ({ cls := "com/example/demarq/demarq/broker/SortedMessages", name := "lambda$countBelow$1", desc := "(JI)Z" } : Jvm.MethodName) prog_12_method_15_code (4 : Nat) (Option.some Jvm.ClassFile.FieldType.boolean)).before args0 about1 = true := code_word (m := ⟨2, 9⟩) (meth := k2m9) (c := k2c9) (by decide +kernel) rfl rfl rfl (by decide +kernel)
set_option maxRecDepth 65536 in
theorem w_c13 : (Jvm.Cond.code ({ cls := "com/example/demarq/demarq/broker/SortedMessages", name := "get", desc := "(I)Lcom/example/demarq/demarq/broker/Message;" } : Jvm.MethodName) prog_12_method_11_code (2 : Nat) (Option.some (Jvm.ClassFile.FieldType.object "com/example/demarq/demarq/broker/Message"))).before args0 about1 = true := code_word (m := ⟨2, 6⟩) (meth := k2m6) (c := k2c6) (by decide +kernel) rfl rfl rfl (by decide +kernel)
def codes1 : List Jvm.Cond := [Jvm.Cond.code x code maxLocals ret, Jvm.Cond.code ({ cls := "com/example/demarq/demarq/broker/SortedMessages", name := "<init>", desc := "()V" } : Jvm.MethodName) prog_12_method_1_code (1 : Nat) (Option.none : Option Jvm.ClassFile.FieldType), Jvm.Cond.code ({ cls := "java/lang/Object", name := "<init>", desc := "()V" } : Jvm.MethodName) object_method_1_code (1 : Nat) (Option.none : Option Jvm.ClassFile.FieldType), Jvm.Cond.code ({ cls := "com/example/demarq/demarq/broker/Message", name := "<init>", desc := "(J[BZ)V" } : Jvm.MethodName) prog_7_method_1_code (5 : Nat) (Option.none : Option Jvm.ClassFile.FieldType), Jvm.Cond.code ({ cls := "com/example/demarq/demarq/broker/SortedMessages", name := "isEmpty", desc := "()Z" } : Jvm.MethodName) prog_12_method_2_code (1 : Nat) (Option.some Jvm.ClassFile.FieldType.boolean), Jvm.Cond.code ({ cls := "com/example/demarq/demarq/broker/SortedMessages", name := "add", desc := "(Lcom/example/demarq/demarq/broker/Message;)V" } : Jvm.MethodName) prog_12_method_3_code (4 : Nat) (Option.none : Option Jvm.ClassFile.FieldType), Jvm.Cond.code ({ cls := "com/example/demarq/demarq/broker/SortedMessages", name := "set", desc := "(ILcom/example/demarq/demarq/broker/Message;)V" } : Jvm.MethodName) prog_12_method_12_code (3 : Nat) (Option.none : Option Jvm.ClassFile.FieldType), Jvm.Cond.code ({ cls := "com/example/demarq/demarq/broker/SortedMessages", name := "slot", desc := "(I)I" } : Jvm.MethodName) prog_12_method_13_code (2 : Nat) (Option.some Jvm.ClassFile.FieldType.int), Jvm.Cond.code ({ cls := "com/example/demarq/demarq/broker/SortedMessages", name := "remove", desc := "(Lcom/example/demarq/demarq/broker/Message;)V" } : Jvm.MethodName) prog_12_method_4_code (4 : Nat) (Option.none : Option Jvm.ClassFile.FieldType), Jvm.Cond.code ({ cls := "com/example/demarq/demarq/broker/Message", name := "position", desc := "()J" } : Jvm.MethodName) prog_7_method_2_code (1 : Nat) (Option.some Jvm.ClassFile.FieldType.long), Jvm.Cond.code ({ cls := "com/example/demarq/demarq/broker/SortedMessages", name := "countBelow", desc := "(J)I" } : Jvm.MethodName) prog_12_method_8_code (3 : Nat) (Option.some Jvm.ClassFile.FieldType.int), Jvm.Cond.code ({ cls := "com/example/demarq/demarq/broker/SortedMessages", name := "lowestIndex", desc := "(ILjava/util/function/IntPredicate;)I" } : Jvm.MethodName) prog_12_method_9_code (5 : Nat) (Option.some Jvm.ClassFile.FieldType.int), Jvm.Cond.code ({ cls := "com/example/demarq/demarq/broker/SortedMessages", name := "lambda$countBelow$1", desc := "(JI)Z" } : Jvm.MethodName) prog_12_method_15_code (4 : Nat) (Option.some Jvm.ClassFile.FieldType.boolean), Jvm.Cond.code ({ cls := "com/example/demarq/demarq/broker/SortedMessages", name := "get", desc := "(I)Lcom/example/demarq/demarq/broker/Message;" } : Jvm.MethodName) prog_12_method_11_code (2 : Nat) (Option.some (Jvm.ClassFile.FieldType.object "com/example/demarq/demarq/broker/Message"))]
set_option maxRecDepth 65536 in
theorem codes_eq : words1.filter isCode = codes1 := rfl
theorem w_codes : ∀ c ∈ words1.filter isCode, c.before args0 about1 = true := by
  rw [codes_eq]
  intro c hc
  simp only [codes1, List.mem_cons, List.not_mem_nil, or_false] at hc
  rcases hc with rfl | rfl | rfl | rfl | rfl | rfl | rfl | rfl | rfl | rfl | rfl | rfl | rfl | rfl
  · exact w_c0
  · exact w_c1
  · exact w_c2
  · exact w_c3
  · exact w_c4
  · exact w_c5
  · exact w_c6
  · exact w_c7
  · exact w_c8
  · exact w_c9
  · exact w_c10
  · exact w_c11
  · exact w_c12
  · exact w_c13
set_option maxRecDepth 65536 in
theorem w_t1 : (words1.take 24).all (fun c => isCode c || c.before args0 about1) = true := by decide +kernel
set_option maxRecDepth 65536 in
theorem w_t2 : ((words1.drop 24).take 24).all (fun c => isCode c || c.before args0 about1) = true := by decide +kernel
set_option maxRecDepth 65536 in
theorem w_t3 : (((words1.drop 24).drop 24).take 24).all (fun c => isCode c || c.before args0 about1) = true := by decide +kernel
set_option maxRecDepth 65536 in
theorem w_t4 : (((words1.drop 24).drop 24).drop 24).all (fun c => isCode c || c.before args0 about1) = true := by decide +kernel
theorem w_tables : (allAtoms (Jvm.Cond.code x code maxLocals ret :: tables_1)).before args0 about1 = true := by
  rw [allAtoms_all]
  show words1.all (fun c => c.before args0 about1) = true
  refine all_split ?_ w_codes
  rw [← List.take_append_drop 24 words1, List.all_append, w_t1, ← List.take_append_drop 24 (words1.drop 24), List.all_append, w_t2, ← List.take_append_drop 24 ((words1.drop 24).drop 24), List.all_append, w_t3, w_t4]
  rfl
set_option maxRecDepth 65536 in
theorem w_case : (Jvm.Cond.and given_1 narrow_1).before args0 about1 = true := by decide +kernel
theorem w_applies : (headSpec (Jvm.Cond.code x code maxLocals ret :: tables_1) room_1).applies x e0.platform about1 = true :=
  (Spec.applies_iff w_frames).mpr ⟨w_running, w_runnable, w_alone, w_named, w_hears, w_ripe, w_room, w_tables⟩
theorem atStart : AtStart classFile x code maxLocals ret World_1 tables_1 room_1 Calls_1 rest_1 Pre_1 launch0 p0 e0 about1 theMethod args0 below0 :=
  ⟨lists_1, trivial, launch0.admits_env _ _ _, launch0.least_env, fairChoices_fair.cas, fairChoices_fair.clock, w_frames, w_args, w_heap, w_applies, trivial, trivial, w_case⟩
end start1
theorem witness_1 : WitnessClaimed_1 := ⟨start1.p0, start1.e0, start1.about1, start1.theMethod, start1.args0, start1.below0, start1.atStart⟩
end Jvm.Pilot.@@N@@
