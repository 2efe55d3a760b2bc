import JvmDerived
import JvmDerived.Pilot.@@N@@Statement
import JvmDerived.Pilot.@@N@@Code
set_option linter.unusedVariables false
set_option linter.unusedSimpArgs false
@@BLOCK:NumsL.lean.txt@@
namespace Jvm.RoadKit
open Sem ClassFile Op Lib Jvm.Stand Jvm.Free Jvm.LawKit
section New
variable {p : Program} {l : Launch} {e : Env} {R : Room} {s : State} {m : MethodId} {args : Array Value} {below : List Frame} {meth : Method} {c : Code} {T : State} {locs : List Loc} {cells slots : Nat}
theorem retI (X : Stand p l e R s m args below meth c T locs cells slots) (hx : p.tables.exec = Jvm.exec) {pc : Nat} {Ls : Array Slot} {z : Int32} {rest : List Value} (hret : meth.sig.returnType = some .int) (hd : decode c.code pc = .ok (.ireturn, 1)) {fs : List Frame}
    (hl : ∀ (f : JFrame) (acts : List Action), f.method = m → f.locked = none → f.entered = [] → (doReturn e (T.setTop f) acts (some (.int z))).1 = T.setFrames fs) : Steps p.tables e below (T.setTop (mkF m pc Ls (.int z :: rest))) (T.setFrames fs) := by
  have hm' : T.vm.method? m = some meth := X.method'
  have hn : narrow .int (.int z) = .int z := rfl
  show Steps p.tables e below (T.setTop { method := m, pc := pc, locals := Ls, stack := _ :: rest, locked := none }) _
  jvm_step X.here [X.here.top, hx, hd, hm', hret, hn]
  first | (intro acts; rw [hl _ acts rfl rfl rfl]) | rw [hl _ _ rfl rfl rfl]
  exact Steps.refl _
end New
end Jvm.RoadKit
namespace Jvm.Pilot.@@N@@
open Jvm Jvm.ClassFile Sem Op Lib Jvm.Free Jvm.Stand Jvm.LawKit Jvm.RoadKit Bundle Jvm.Pilot.@@N@@.Jvm.D

/-- what an enum constant's ordinal says: the word of the sheet as a fact on the field -/
theorem own_fld {t : Term} {C n d : String} {i : Int32} {a : Addr} {args : Array Value} {Z : State} (h : (Jvm.Cond.eq (.field t C n d) (.int i)).value args Z none Z [] = some true) (ht : t.eval args Z none [] Z = some (.ref a)) : Z.fieldOf? a C n d = some (.int i) := (fld_at ht).symm.trans (eqv_i (F := .int i) rfl h)
theorem own_fldL {t : Term} {C n d : String} {i : Int64} {a : Addr} {args : Array Value} {Z : State} (h : (Jvm.Cond.eq (.field t C n d) (.long i)).value args Z none Z [] = some true) (ht : t.eval args Z none [] Z = some (.ref a)) : Z.fieldOf? a C n d = some (.long i) := (fld_at ht).symm.trans (eqv_l (F := .long i) rfl h)
theorem own_ne {C n d : String} {i j : Int32} {a b : Addr} {Z : State} (h1 : Z.fieldOf? a C n d = some (.int i)) (h2 : Z.fieldOf? b C n d = some (.int j)) (hn : i ≠ j) : ¬ a = b := fun e => hn (Value.int.inj (Option.some.inj (h1.symm.trans (e ▸ h2))))

theorem own_el {t u : Term} {j : Int32} {a b : Addr} {cl : Cell} {ty : FieldType} {args : Array Value} {Z : State} (h : (Jvm.Cond.eq (.elem t (.int j)) u).value args Z none Z [] = some true) (ht : t.eval args Z none [] Z = some (.ref a)) (hu : u.eval args Z none [] Z = some (.ref b)) (A : Arr Z Z.heap a cl ty) (hn : ¬ j < 0) : cl.slots[j.toNatClampNeg]? = some (.ref b) := by
  have e := elem_f (a := .int j) (first := Z) (o := none) (idx := []) ht (show (Term.int j).eval args Z none [] Z = some (.int j) from rfl) (A.fin (Vm.Alike.refl _)) hn
  cases hs : cl.slots[j.toNatClampNeg]? with
  | none => simp [Cond.value, e, hs, hu] at h
  | some v => cases v <;> simp [Cond.value, e, hs, hu] at h ⊢; exact h
theorem own_len {t : Term} {n : Int32} {a : Addr} {cl : Cell} {ty : FieldType} {args : Array Value} {Z : State} (h : (Jvm.Cond.eq (.length t) (.int n)).value args Z none Z [] = some true) (ht : t.eval args Z none [] Z = some (.ref a)) (A : Arr Z Z.heap a cl ty) : cl.slots.size < 2 ^ 31 ∧ cl.slots.size.toInt32 = n := by
  have ha := A.fin (Vm.Alike.refl _)
  by_cases q : cl.slots.size < 2 ^ 31
  · have e := len_f (first := Z) (o := none) (idx := []) ht ha q
    refine ⟨q, ?_⟩
    have hi : (Term.int n).eval args Z none [] Z = some (.int n) := rfl
    exact gotT (Cond.eq_ints e hi) h
  · have e : (Term.length t).eval args Z none [] Z = none := by simp [Term.eval, ht, ha, q]
    simp [Cond.value, e] at h
theorem d2_0 : decode prog_45_method_1_code 0 = .ok (.getstatic 34, 3) := by decide +kernel
theorem d2_3 : decode prog_45_method_1_code 3 = .ok (.invokevirtual 38, 3) := by decide +kernel
theorem d2_6 : decode prog_45_method_1_code 6 = .ok (.checkcast 39, 3) := by decide +kernel
theorem d2_9 : decode prog_45_method_1_code 9 = .ok (.areturn, 1) := by decide +kernel
theorem pn_LogRecord_Kind : plainName "com/example/concordat/concordat/log/LogRecord$Kind" = true := by first | (simp [plainName, overriddenIn]; done) | decide +kernel
theorem ef_2 (m : MethodId)  : entryFrame m #[] 0 = mkF m 0 #[] [] := by first | (simp [entryFrame, mkF, argsToLocals, Value.category]; done) | rfl
def QV (Z : State) (vA : Addr) (kA : ClassId) (w0 w1 w2 w3 w4 w5 w6 w7 w8 w9 : Addr) (h0 : Heap) (n0 : Nat) (v : Option Value) (h : Heap) (L : List Loc) : Prop := v = some (.ref h0.size) ∧ Fr n0 L ∧ Ext h0 h ∧ Arv Z h h0.size kA (.object "com/example/concordat/concordat/log/LogRecord$Kind") 10 [.ref w0, .ref w1, .ref w2, .ref w3, .ref w4, .ref w5, .ref w6, .ref w7, .ref w8, .ref w9] .null
set_option maxRecDepth 65536 in
set_option maxHeartbeats 40000000 in
theorem rmV (l : Launch) (Z : State) (a0 : Array Value) (hw : ∀ d ∈ tables_1, d.before a0 Z = true) (ws : List Jvm.Cond) (vA : Addr) (kA : ClassId) (w0 w1 w2 w3 w4 w5 w6 w7 w8 w9 : Addr) (h0 : Heap) (n0 : Nat) (Z0 : n0 ≤ h0.size) (SV : Sta Z h0 "com/example/concordat/concordat/log/LogRecord$Kind" "$VALUES" "[Lcom/example/concordat/concordat/log/LogRecord$Kind;" (.ref vA)) (AV : Arv Z h0 vA kA (.object "com/example/concordat/concordat/log/LogRecord$Kind") 10 [.ref w0, .ref w1, .ref w2, .ref w3, .ref w4, .ref w5, .ref w6, .ref w7, .ref w8, .ref w9] .null) (EV : Exa Z h0 vA "[Lcom/example/concordat/concordat/log/LogRecord$Kind;") :
    MetFree l (⟨"com/example/concordat/concordat/log/LogRecord$Kind", "values", "()[Lcom/example/concordat/concordat/log/LogRecord$Kind;"⟩ : MethodName) (head1 (Jvm.Cond.code (⟨"com/example/concordat/concordat/log/LogRecord$Kind", "values", "()[Lcom/example/concordat/concordat/log/LogRecord$Kind;"⟩ : MethodName) prog_45_method_1_code 0 (some (.array (.object "com/example/concordat/concordat/log/LogRecord$Kind"))) :: ws) ({ frames := 1, cells := 1, slots := 10, locals := 14 } : Room)) (fun a U => a = #[] ∧ Z.Warmed39 U.vm ∧ U.heap = h0) (fun _ _ _ _ _ => True) (fun _ U o U' => ∃ v L, o = .returned v ∧ QV Z vA kA w0 w1 w2 w3 w4 w5 w6 w7 w8 w9 h0 n0 v U'.heap L ∧ FrameEnd U o U' L ({ frames := 1, cells := 1, slots := 10, locals := 14 } : Room).cells ({ frames := 1, cells := 1, slots := 10, locals := 14 } : Room).slots) := by
  refine MetFree.of_bodySF (plainFor_of_name pn_LogRecord_Kind) hisR ?_
  intro p e s m args below meth c s₁ Bd hml0 hP hK
  obtain ⟨rfl, hZ, hh⟩ := hP
  have hx := Bd.exec
  have hby := Bd.bytes
  have hml : c.maxLocals = 0 := hml0
  have hown : s.vm.findClass "com/example/concordat/concordat/log/LogRecord$Kind" = some m.cls := findClass_of_methodNamed Bd.named
  have hnm := (name_of_methodNamed Bd.named Bd.method).1
  have X0 : Stand p l e ({ frames := 1, cells := 1, slots := 10, locals := 14 } : Room) s m #[] below meth c s₁ [] 0 0 := Stand.of_body Bd
  have e0 : s₁.heap = h0 := by rw [← hh, Bd.state]; rfl
  have N0 := Fr.nil n0
  have pre0 : ∀ t, Steps p.tables e below (s₁.setTop (mkF m 0 #[] [])) t → Steps p.tables e below (s₁.setTop (entryFrame m #[] 0)) t := fun t k => castTop (ef_2 m ) k
  obtain ⟨T1, X1, e1, st1⟩ := getS2 X0 hx hZ hown (host := "") (Or.inl (hw _ (List.mem_of_getElem? (i := 7) rfl))) Via.refl e0 SV (g := (mkF m 0 #[] [])) rfl (hb hby d2_0)
  obtain ⟨Tc, hc, Xc, ec, Exc, Avc, Evc, stc⟩ := cloneH X1 hx hZ hown (hw _ (List.mem_of_getElem? (i := 9) rfl)) (hw _ (List.mem_of_getElem? (i := 10) rfl)) (hw _ (List.mem_of_getElem? (i := 14) rfl)) (hw _ (List.mem_of_getElem? (i := 12) rfl)) (hw _ (List.mem_of_getElem? (i := 13) rfl)) (hw _ (List.mem_of_getElem? (i := 15) rfl)) e1 AV.arh EV (g := (mkF m 3 #[] [(.ref vA)])) rfl (by rw [hml]; rfl) rfl (hb hby d2_3) (by decide) (W := 0) (cap := 10) (by show 2 * 0 + _ ≤ _; exact Nat.le_of_eq rfl) (by decide) (by decide) (by decide) (by decide)
  obtain ⟨T2, X2, e2, st2⟩ := castY Xc hx hZ hown (hw _ (List.mem_of_getElem? (i := 27) rfl)) ec (Ins.self Evc) (g := (mkF m 6 #[] [(.ref h0.size)])) rfl rfl (hb hby d2_6)
  obtain ⟨fs, hr, hrun, hended, hW, hsame⟩ := X2.leave (v := some (.ref h0.size)) (fun h => by rw [Bd.returns] at h; cases h)
  refine ⟨_, _, pre0 _ ?_, hrun, hended, _, _, rfl, ?_, ⟨_, rfl⟩, hW, hsame.mono (by decide) (by decide)⟩
  · show Steps p.tables e below (s₁.setTop (mkF m 0 #[] [])) _
    refine st1 _ ?_
    show Steps p.tables e below (T1.setTop (mkF m 3 #[] [(.ref vA)])) _
    refine stc _ ?_
    show Steps p.tables e below (Tc.setTop (mkF m 6 #[] [(.ref h0.size)])) _
    refine st2 _ ?_
    show Steps p.tables e below (T2.setTop (mkF m 9 #[] [(.ref h0.size)])) _
    jvm_step X2.here [X2.here.top, hx, (hb hby d2_9), X2.method', Bd.returns, Value.isRef, FieldType.isReference]
    first | (intro acts; rw [hr _ acts rfl rfl rfl]) | rw [hr _ _ rfl rfl rfl]
    exact Steps.refl _
  · show QV Z vA kA w0 w1 w2 w3 w4 w5 w6 w7 w8 w9 h0 n0 _ T2.heap _
    rw [e2]
    exact ⟨rfl, N0, Exc, Avc⟩
theorem pd_0 : parseMethodDescriptor "()[Lcom/example/concordat/concordat/log/LogRecord$Kind;" = some ⟨[], some (.array (.object "com/example/concordat/concordat/log/LogRecord$Kind"))⟩ := by decide +kernel
theorem d1_0 : decode prog_45_method_4_code 0 = .ok (.invokestatic 67, 3) := by decide +kernel
theorem d1_3 : decode prog_45_method_4_code 3 = .ok (.astore_n 1, 1) := by decide +kernel
theorem d1_4 : decode prog_45_method_4_code 4 = .ok (.aload_n 1, 1) := by decide +kernel
theorem d1_5 : decode prog_45_method_4_code 5 = .ok (.arraylength, 1) := by decide +kernel
theorem d1_6 : decode prog_45_method_4_code 6 = .ok (.istore_n 2, 1) := by decide +kernel
theorem d1_7 : decode prog_45_method_4_code 7 = .ok (.iconst 0, 1) := by decide +kernel
theorem d1_8 : decode prog_45_method_4_code 8 = .ok (.istore_n 3, 1) := by decide +kernel
theorem d1_9 : decode prog_45_method_4_code 9 = .ok (.iload_n 3, 1) := by decide +kernel
theorem d1_10 : decode prog_45_method_4_code 10 = .ok (.iload_n 2, 1) := by decide +kernel
theorem d1_11 : decode prog_45_method_4_code 11 = .ok (.if_icmp .ge 26, 3) := by decide +kernel
theorem d1_14 : decode prog_45_method_4_code 14 = .ok (.aload_n 1, 1) := by decide +kernel
theorem d1_15 : decode prog_45_method_4_code 15 = .ok (.iload_n 3, 1) := by decide +kernel
theorem d1_16 : decode prog_45_method_4_code 16 = .ok (.aaload, 1) := by decide +kernel
theorem d1_17 : decode prog_45_method_4_code 17 = .ok (.astore 4, 2) := by decide +kernel
theorem d1_19 : decode prog_45_method_4_code 19 = .ok (.aload 4, 2) := by decide +kernel
theorem d1_21 : decode prog_45_method_4_code 21 = .ok (.getfield 53, 3) := by decide +kernel
theorem d1_24 : decode prog_45_method_4_code 24 = .ok (.iload_n 0, 1) := by decide +kernel
theorem d1_25 : decode prog_45_method_4_code 25 = .ok (.if_icmp .ne 6, 3) := by decide +kernel
theorem d1_28 : decode prog_45_method_4_code 28 = .ok (.aload 4, 2) := by decide +kernel
theorem d1_30 : decode prog_45_method_4_code 30 = .ok (.areturn, 1) := by decide +kernel
theorem d1_31 : decode prog_45_method_4_code 31 = .ok (.iinc 3 1, 3) := by decide +kernel
theorem d1_34 : decode prog_45_method_4_code 34 = .ok (.goto (-25), 3) := by decide +kernel
theorem d1_37 : decode prog_45_method_4_code 37 = .ok (.aconst_null, 1) := by decide +kernel
theorem d1_38 : decode prog_45_method_4_code 38 = .ok (.areturn, 1) := by decide +kernel
theorem ef_1 (m : MethodId) (x0 : Int32) : entryFrame m #[(.int x0)] 5 = mkF m 0 #[.val (.int x0), .unset, .unset, .unset, .unset] [] := by first | (simp [entryFrame, mkF, argsToLocals, Value.category]; done) | rfl
def QO_1 (Z : State) (vA : Addr) (kA : ClassId) (w0 w1 w2 w3 w4 w5 w6 w7 w8 w9 : Addr) (h0 : Heap) (n0 : Nat) (v : Option Value) (h : Heap) (L : List Loc) : Prop := v = some (.ref w0) ∧ Fr n0 L ∧ Ext h0 h
set_option maxRecDepth 65536 in
set_option maxHeartbeats 40000000 in
theorem rmO_1 (l : Launch) (Z : State) (a0 : Array Value) (hw : ∀ d ∈ tables_1, d.before a0 Z = true) (ws : List Jvm.Cond) (vA : Addr) (kA : ClassId) (w0 w1 w2 w3 w4 w5 w6 w7 w8 w9 : Addr) (h0 : Heap) (n0 : Nat) (Z0 : n0 ≤ h0.size) (SV : Sta Z h0 "com/example/concordat/concordat/log/LogRecord$Kind" "$VALUES" "[Lcom/example/concordat/concordat/log/LogRecord$Kind;" (.ref vA)) (AV : Arv Z h0 vA kA (.object "com/example/concordat/concordat/log/LogRecord$Kind") 10 [.ref w0, .ref w1, .ref w2, .ref w3, .ref w4, .ref w5, .ref w6, .ref w7, .ref w8, .ref w9] .null) (EV : Exa Z h0 vA "[Lcom/example/concordat/concordat/log/LogRecord$Kind;") (FC0 : Fld Z h0 w0 "com/example/concordat/concordat/log/LogRecord$Kind" "code" "B" (.int (1 : Int32))) (FC1 : Fld Z h0 w1 "com/example/concordat/concordat/log/LogRecord$Kind" "code" "B" (.int (2 : Int32))) (FC2 : Fld Z h0 w2 "com/example/concordat/concordat/log/LogRecord$Kind" "code" "B" (.int (3 : Int32))) (FC3 : Fld Z h0 w3 "com/example/concordat/concordat/log/LogRecord$Kind" "code" "B" (.int (4 : Int32))) (FC4 : Fld Z h0 w4 "com/example/concordat/concordat/log/LogRecord$Kind" "code" "B" (.int (5 : Int32))) (FC5 : Fld Z h0 w5 "com/example/concordat/concordat/log/LogRecord$Kind" "code" "B" (.int (6 : Int32))) (FC6 : Fld Z h0 w6 "com/example/concordat/concordat/log/LogRecord$Kind" "code" "B" (.int (7 : Int32))) (FC7 : Fld Z h0 w7 "com/example/concordat/concordat/log/LogRecord$Kind" "code" "B" (.int (8 : Int32))) (FC8 : Fld Z h0 w8 "com/example/concordat/concordat/log/LogRecord$Kind" "code" "B" (.int (9 : Int32))) (FC9 : Fld Z h0 w9 "com/example/concordat/concordat/log/LogRecord$Kind" "code" "B" (.int (10 : Int32))) :
    MetFree l (⟨"com/example/concordat/concordat/log/LogRecord$Kind", "of", "(B)Lcom/example/concordat/concordat/log/LogRecord$Kind;"⟩ : MethodName) (head1 (Jvm.Cond.code (⟨"com/example/concordat/concordat/log/LogRecord$Kind", "of", "(B)Lcom/example/concordat/concordat/log/LogRecord$Kind;"⟩ : MethodName) prog_45_method_4_code 5 (some (.object "com/example/concordat/concordat/log/LogRecord$Kind")) :: ws) ({ frames := 2, cells := 1, slots := 10, locals := 25 } : Room)) (fun a U => a = #[(.int (1 : Int32))] ∧ Z.Warmed39 U.vm ∧ U.heap = h0) (fun _ _ _ _ _ => True) (fun _ U o U' => ∃ v L, o = .returned v ∧ QO_1 Z vA kA w0 w1 w2 w3 w4 w5 w6 w7 w8 w9 h0 n0 v U'.heap L ∧ FrameEnd U o U' L ({ frames := 2, cells := 1, slots := 10, locals := 25 } : Room).cells ({ frames := 2, cells := 1, slots := 10, locals := 25 } : Room).slots) := by
  refine MetFree.of_bodySF (plainFor_of_name pn_LogRecord_Kind) hisR ?_
  intro p e s m args below meth c s₁ Bd hml0 hP hK
  obtain ⟨rfl, hZ, hh⟩ := hP
  have hx := Bd.exec
  have hby := Bd.bytes
  have hml : c.maxLocals = 5 := hml0
  have hown : s.vm.findClass "com/example/concordat/concordat/log/LogRecord$Kind" = some m.cls := findClass_of_methodNamed Bd.named
  have hnm := (name_of_methodNamed Bd.named Bd.method).1
  have X0 : Stand p l e ({ frames := 2, cells := 1, slots := 10, locals := 25 } : Room) s m #[(.int (1 : Int32))] below meth c s₁ [] 0 0 := Stand.of_body Bd
  have e0 : s₁.heap = h0 := by rw [← hh, Bd.state]; rfl
  have N0 := Fr.nil n0
  have pre0 : ∀ t, Steps p.tables e below (s₁.setTop (mkF m 0 #[.val (.int (1 : Int32)), .unset, .unset, .unset, .unset] [])) t → Steps p.tables e below (s₁.setTop (entryFrame m #[(.int (1 : Int32))] 5)) t := fun t k => castTop (ef_1 m (1 : Int32)) k
  obtain ⟨_, _, ⟨T1, L1, k1, n1⟩, -, X1, ⟨Lc1, hQ1, l1, y1, z1⟩, st1⟩ := Jvm.LawKit.callS X0 hx (y := (⟨"com/example/concordat/concordat/log/LogRecord$Kind", "values", "()[Lcom/example/concordat/concordat/log/LogRecord$Kind;"⟩ : MethodName)) hown (mvT hZ (hw _ (List.mem_of_getElem? (i := 4) rfl))) (mvT hZ (hw _ (List.mem_of_getElem? (i := 5) rfl))) (mvT hZ (hw _ (List.mem_of_getElem? (i := 2) rfl))) (mvT hZ (hw _ (List.mem_of_getElem? (i := 6) rfl))) (by decide) (backOf (W := 0) (rmV l Z a0 hw [] vA kA w0 w1 w2 w3 w4 w5 w6 w7 w8 w9 h0 n0 Z0 SV AV EV) hZ (hw _ (List.mem_of_getElem? (i := 6) rfl)) (hw _ (List.mem_of_getElem? (i := 2) rfl)) (by decide) (by decide)) (g := (mkF m 0 #[.val (.int (1 : Int32)), .unset, .unset, .unset, .unset] [])) rfl (by rw [hml]; rfl) (argsL := []) (rest := []) (lenOf pd_0 rfl) rfl (by show 2 * 0 + _ ≤ _; exact Nat.le_of_eq rfl) (hb hby d1_0) (fun _ _ => ⟨rfl, e0, (by decide : 0 + 1 ≤ _), (by decide : 0 + 10 ≤ _)⟩)
  dsimp only [Pt.U, Pt.locs, Pt.cells, Pt.slots] at X1 l1 y1 z1 st1 hQ1
  subst l1 y1 z1
  obtain ⟨rfl, N1q, Ex, Av⟩ := hQ1
  have N1 := Fr.app N0 N1q
  obtain ⟨cl, Ar, -, Sz, Mz, H, -⟩ := Av
  obtain ⟨T2, X2, e2, st2⟩ := getF X1 hx hZ hown (host := "") (Or.inl (hw _ (List.mem_of_getElem? (i := 29) rfl))) Via.refl rfl (FC0.ext Ex) (g := (mkF m 21 #[.val (.int (1 : Int32)), .val (.ref h0.size), .val (.int (10 : Int32)), .val (.int (0 : Int32)), .val (.ref w0)] [(.ref w0)])) rfl rfl (hb hby d1_21)
  obtain ⟨fs, hr, hrun, hended, hW, hsame⟩ := X2.leave (v := some (.ref w0)) (fun h => by rw [Bd.returns] at h; cases h)
  refine ⟨_, _, pre0 _ ?_, hrun, hended, _, _, rfl, ?_, ⟨_, rfl⟩, hW, hsame.mono (by decide) (by decide)⟩
  · show Steps p.tables e below (s₁.setTop (mkF m 0 #[.val (.int (1 : Int32)), .unset, .unset, .unset, .unset] [])) _
    refine st1 _ ?_
    show Steps p.tables e below (T1.setTop (mkF m 3 #[.val (.int (1 : Int32)), .unset, .unset, .unset, .unset] [(.ref h0.size)])) _
    refine XS.astoreN X1.here hx rfl (hb hby d1_3) rfl rfl (l' := #[.val (.int (1 : Int32)), .val (.ref h0.size), .unset, .unset, .unset]) rfl ?_
    show Steps p.tables e below (T1.setTop (mkF m 4 #[.val (.int (1 : Int32)), .val (.ref h0.size), .unset, .unset, .unset] [])) _
    refine XS.aloadN X1.here hx rfl (hb hby d1_4) rfl rfl ?_
    show Steps p.tables e below (T1.setTop (mkF m 5 #[.val (.int (1 : Int32)), .val (.ref h0.size), .unset, .unset, .unset] [(.ref h0.size)])) _
    refine X1.arraylength hx Ar.1 (State.isArrayOf_alike hZ.alike Ar.2.1) (g := (mkF m 5 #[.val (.int (1 : Int32)), .val (.ref h0.size), .unset, .unset, .unset] [(.ref h0.size)])) rfl rfl (hb hby d1_5) _ ?_
    rw [len_of Sz Mz]
    show Steps p.tables e below (T1.setTop (mkF m 6 #[.val (.int (1 : Int32)), .val (.ref h0.size), .unset, .unset, .unset] [(.int (10 : Int32))])) _
    refine XS.istoreN X1.here hx rfl (hb hby d1_6) rfl (l' := #[.val (.int (1 : Int32)), .val (.ref h0.size), .val (.int (10 : Int32)), .unset, .unset]) rfl ?_
    show Steps p.tables e below (T1.setTop (mkF m 7 #[.val (.int (1 : Int32)), .val (.ref h0.size), .val (.int (10 : Int32)), .unset, .unset] [])) _
    refine XS.iconst X1.here hx rfl (hb hby d1_7) ?_
    show Steps p.tables e below (T1.setTop (mkF m 8 #[.val (.int (1 : Int32)), .val (.ref h0.size), .val (.int (10 : Int32)), .unset, .unset] [(.int (0 : Int32))])) _
    refine XS.istoreN X1.here hx rfl (hb hby d1_8) rfl (l' := #[.val (.int (1 : Int32)), .val (.ref h0.size), .val (.int (10 : Int32)), .val (.int (0 : Int32)), .unset]) rfl ?_
    show Steps p.tables e below (T1.setTop (mkF m 9 #[.val (.int (1 : Int32)), .val (.ref h0.size), .val (.int (10 : Int32)), .val (.int (0 : Int32)), .unset] [])) _
    refine XS.iloadN X1.here hx rfl (hb hby d1_9) rfl ?_
    show Steps p.tables e below (T1.setTop (mkF m 10 #[.val (.int (1 : Int32)), .val (.ref h0.size), .val (.int (10 : Int32)), .val (.int (0 : Int32)), .unset] [(.int (0 : Int32))])) _
    refine XS.iloadN X1.here hx rfl (hb hby d1_10) rfl ?_
    show Steps p.tables e below (T1.setTop (mkF m 11 #[.val (.int (1 : Int32)), .val (.ref h0.size), .val (.int (10 : Int32)), .val (.int (0 : Int32)), .unset] [(.int (10 : Int32)), (.int (0 : Int32))])) _
    refine XS.icmpNo X1.here hx rfl (hb hby d1_11) rfl (tlt (by decide +kernel)).2.1 ?_
    show Steps p.tables e below (T1.setTop (mkF m 14 #[.val (.int (1 : Int32)), .val (.ref h0.size), .val (.int (10 : Int32)), .val (.int (0 : Int32)), .unset] [])) _
    refine XS.aloadN X1.here hx rfl (hb hby d1_14) rfl rfl ?_
    show Steps p.tables e below (T1.setTop (mkF m 15 #[.val (.int (1 : Int32)), .val (.ref h0.size), .val (.int (10 : Int32)), .val (.int (0 : Int32)), .unset] [(.ref h0.size)])) _
    refine XS.iloadN X1.here hx rfl (hb hby d1_15) rfl ?_
    show Steps p.tables e below (T1.setTop (mkF m 16 #[.val (.int (1 : Int32)), .val (.ref h0.size), .val (.int (10 : Int32)), .val (.int (0 : Int32)), .unset] [(.int (0 : Int32)), (.ref h0.size)])) _
    refine X1.aaload hx (j := (0 : Int32)) (v := (.ref w0)) Ar.1 (State.isArrayOf_alike hZ.alike Ar.2.1) rfl Ar.2.2 (inb_of Sz ⟨by decide, by decide⟩) (H.at (inb_of Sz ⟨by decide, by decide⟩) rfl) (g := (mkF m 16 #[.val (.int (1 : Int32)), .val (.ref h0.size), .val (.int (10 : Int32)), .val (.int (0 : Int32)), .unset] [(.int (0 : Int32)), (.ref h0.size)])) rfl rfl (hb hby d1_16) _ ?_
    show Steps p.tables e below (T1.setTop (mkF m 17 #[.val (.int (1 : Int32)), .val (.ref h0.size), .val (.int (10 : Int32)), .val (.int (0 : Int32)), .unset] [(.ref w0)])) _
    refine XS.astore X1.here hx rfl (hb hby d1_17) rfl rfl (l' := #[.val (.int (1 : Int32)), .val (.ref h0.size), .val (.int (10 : Int32)), .val (.int (0 : Int32)), .val (.ref w0)]) rfl ?_
    show Steps p.tables e below (T1.setTop (mkF m 19 #[.val (.int (1 : Int32)), .val (.ref h0.size), .val (.int (10 : Int32)), .val (.int (0 : Int32)), .val (.ref w0)] [])) _
    refine XS.aload X1.here hx rfl (hb hby d1_19) rfl rfl ?_
    show Steps p.tables e below (T1.setTop (mkF m 21 #[.val (.int (1 : Int32)), .val (.ref h0.size), .val (.int (10 : Int32)), .val (.int (0 : Int32)), .val (.ref w0)] [(.ref w0)])) _
    refine st2 _ ?_
    show Steps p.tables e below (T2.setTop (mkF m 24 #[.val (.int (1 : Int32)), .val (.ref h0.size), .val (.int (10 : Int32)), .val (.int (0 : Int32)), .val (.ref w0)] [(.int (1 : Int32))])) _
    refine XS.iloadN X2.here hx rfl (hb hby d1_24) rfl ?_
    show Steps p.tables e below (T2.setTop (mkF m 25 #[.val (.int (1 : Int32)), .val (.ref h0.size), .val (.int (10 : Int32)), .val (.int (0 : Int32)), .val (.ref w0)] [(.int (1 : Int32)), (.int (1 : Int32))])) _
    refine XS.icmpNo X2.here hx rfl (hb hby d1_25) rfl (teq (by decide +kernel)).2 ?_
    show Steps p.tables e below (T2.setTop (mkF m 28 #[.val (.int (1 : Int32)), .val (.ref h0.size), .val (.int (10 : Int32)), .val (.int (0 : Int32)), .val (.ref w0)] [])) _
    refine XS.aload X2.here hx rfl (hb hby d1_28) rfl rfl ?_
    show Steps p.tables e below (T2.setTop (mkF m 30 #[.val (.int (1 : Int32)), .val (.ref h0.size), .val (.int (10 : Int32)), .val (.int (0 : Int32)), .val (.ref w0)] [(.ref w0)])) _
    jvm_step X2.here [X2.here.top, hx, (hb hby d1_30), X2.method', Bd.returns, Value.isRef, FieldType.isReference]
    first | (intro acts; rw [hr _ acts rfl rfl rfl]) | rw [hr _ _ rfl rfl rfl]
    exact Steps.refl _
  · show QO_1 Z vA kA w0 w1 w2 w3 w4 w5 w6 w7 w8 w9 h0 n0 _ T2.heap _
    rw [e2]
    exact ⟨rfl, N1, Ex⟩
def QO_2 (Z : State) (vA : Addr) (kA : ClassId) (w0 w1 w2 w3 w4 w5 w6 w7 w8 w9 : Addr) (h0 : Heap) (n0 : Nat) (v : Option Value) (h : Heap) (L : List Loc) : Prop := v = some (.ref w1) ∧ Fr n0 L ∧ Ext h0 h
set_option maxRecDepth 65536 in
set_option maxHeartbeats 40000000 in
theorem rmO_2 (l : Launch) (Z : State) (a0 : Array Value) (hw : ∀ d ∈ tables_1, d.before a0 Z = true) (ws : List Jvm.Cond) (vA : Addr) (kA : ClassId) (w0 w1 w2 w3 w4 w5 w6 w7 w8 w9 : Addr) (h0 : Heap) (n0 : Nat) (Z0 : n0 ≤ h0.size) (SV : Sta Z h0 "com/example/concordat/concordat/log/LogRecord$Kind" "$VALUES" "[Lcom/example/concordat/concordat/log/LogRecord$Kind;" (.ref vA)) (AV : Arv Z h0 vA kA (.object "com/example/concordat/concordat/log/LogRecord$Kind") 10 [.ref w0, .ref w1, .ref w2, .ref w3, .ref w4, .ref w5, .ref w6, .ref w7, .ref w8, .ref w9] .null) (EV : Exa Z h0 vA "[Lcom/example/concordat/concordat/log/LogRecord$Kind;") (FC0 : Fld Z h0 w0 "com/example/concordat/concordat/log/LogRecord$Kind" "code" "B" (.int (1 : Int32))) (FC1 : Fld Z h0 w1 "com/example/concordat/concordat/log/LogRecord$Kind" "code" "B" (.int (2 : Int32))) (FC2 : Fld Z h0 w2 "com/example/concordat/concordat/log/LogRecord$Kind" "code" "B" (.int (3 : Int32))) (FC3 : Fld Z h0 w3 "com/example/concordat/concordat/log/LogRecord$Kind" "code" "B" (.int (4 : Int32))) (FC4 : Fld Z h0 w4 "com/example/concordat/concordat/log/LogRecord$Kind" "code" "B" (.int (5 : Int32))) (FC5 : Fld Z h0 w5 "com/example/concordat/concordat/log/LogRecord$Kind" "code" "B" (.int (6 : Int32))) (FC6 : Fld Z h0 w6 "com/example/concordat/concordat/log/LogRecord$Kind" "code" "B" (.int (7 : Int32))) (FC7 : Fld Z h0 w7 "com/example/concordat/concordat/log/LogRecord$Kind" "code" "B" (.int (8 : Int32))) (FC8 : Fld Z h0 w8 "com/example/concordat/concordat/log/LogRecord$Kind" "code" "B" (.int (9 : Int32))) (FC9 : Fld Z h0 w9 "com/example/concordat/concordat/log/LogRecord$Kind" "code" "B" (.int (10 : Int32))) :
    MetFree l (⟨"com/example/concordat/concordat/log/LogRecord$Kind", "of", "(B)Lcom/example/concordat/concordat/log/LogRecord$Kind;"⟩ : MethodName) (head1 (Jvm.Cond.code (⟨"com/example/concordat/concordat/log/LogRecord$Kind", "of", "(B)Lcom/example/concordat/concordat/log/LogRecord$Kind;"⟩ : MethodName) prog_45_method_4_code 5 (some (.object "com/example/concordat/concordat/log/LogRecord$Kind")) :: ws) ({ frames := 2, cells := 1, slots := 10, locals := 25 } : Room)) (fun a U => a = #[(.int (2 : Int32))] ∧ Z.Warmed39 U.vm ∧ U.heap = h0) (fun _ _ _ _ _ => True) (fun _ U o U' => ∃ v L, o = .returned v ∧ QO_2 Z vA kA w0 w1 w2 w3 w4 w5 w6 w7 w8 w9 h0 n0 v U'.heap L ∧ FrameEnd U o U' L ({ frames := 2, cells := 1, slots := 10, locals := 25 } : Room).cells ({ frames := 2, cells := 1, slots := 10, locals := 25 } : Room).slots) := by
  refine MetFree.of_bodySF (plainFor_of_name pn_LogRecord_Kind) hisR ?_
  intro p e s m args below meth c s₁ Bd hml0 hP hK
  obtain ⟨rfl, hZ, hh⟩ := hP
  have hx := Bd.exec
  have hby := Bd.bytes
  have hml : c.maxLocals = 5 := hml0
  have hown : s.vm.findClass "com/example/concordat/concordat/log/LogRecord$Kind" = some m.cls := findClass_of_methodNamed Bd.named
  have hnm := (name_of_methodNamed Bd.named Bd.method).1
  have X0 : Stand p l e ({ frames := 2, cells := 1, slots := 10, locals := 25 } : Room) s m #[(.int (2 : Int32))] below meth c s₁ [] 0 0 := Stand.of_body Bd
  have e0 : s₁.heap = h0 := by rw [← hh, Bd.state]; rfl
  have N0 := Fr.nil n0
  have pre0 : ∀ t, Steps p.tables e below (s₁.setTop (mkF m 0 #[.val (.int (2 : Int32)), .unset, .unset, .unset, .unset] [])) t → Steps p.tables e below (s₁.setTop (entryFrame m #[(.int (2 : Int32))] 5)) t := fun t k => castTop (ef_1 m (2 : Int32)) k
  obtain ⟨_, _, ⟨T1, L1, k1, n1⟩, -, X1, ⟨Lc1, hQ1, l1, y1, z1⟩, st1⟩ := Jvm.LawKit.callS X0 hx (y := (⟨"com/example/concordat/concordat/log/LogRecord$Kind", "values", "()[Lcom/example/concordat/concordat/log/LogRecord$Kind;"⟩ : MethodName)) hown (mvT hZ (hw _ (List.mem_of_getElem? (i := 4) rfl))) (mvT hZ (hw _ (List.mem_of_getElem? (i := 5) rfl))) (mvT hZ (hw _ (List.mem_of_getElem? (i := 2) rfl))) (mvT hZ (hw _ (List.mem_of_getElem? (i := 6) rfl))) (by decide) (backOf (W := 0) (rmV l Z a0 hw [] vA kA w0 w1 w2 w3 w4 w5 w6 w7 w8 w9 h0 n0 Z0 SV AV EV) hZ (hw _ (List.mem_of_getElem? (i := 6) rfl)) (hw _ (List.mem_of_getElem? (i := 2) rfl)) (by decide) (by decide)) (g := (mkF m 0 #[.val (.int (2 : Int32)), .unset, .unset, .unset, .unset] [])) rfl (by rw [hml]; rfl) (argsL := []) (rest := []) (lenOf pd_0 rfl) rfl (by show 2 * 0 + _ ≤ _; exact Nat.le_of_eq rfl) (hb hby d1_0) (fun _ _ => ⟨rfl, e0, (by decide : 0 + 1 ≤ _), (by decide : 0 + 10 ≤ _)⟩)
  dsimp only [Pt.U, Pt.locs, Pt.cells, Pt.slots] at X1 l1 y1 z1 st1 hQ1
  subst l1 y1 z1
  obtain ⟨rfl, N1q, Ex, Av⟩ := hQ1
  have N1 := Fr.app N0 N1q
  obtain ⟨cl, Ar, -, Sz, Mz, H, -⟩ := Av
  obtain ⟨T2, X2, e2, st2⟩ := getF X1 hx hZ hown (host := "") (Or.inl (hw _ (List.mem_of_getElem? (i := 29) rfl))) Via.refl rfl (FC0.ext Ex) (g := (mkF m 21 #[.val (.int (2 : Int32)), .val (.ref h0.size), .val (.int (10 : Int32)), .val (.int (0 : Int32)), .val (.ref w0)] [(.ref w0)])) rfl rfl (hb hby d1_21)
  obtain ⟨T3, X3, e3, st3⟩ := getF X2 hx hZ hown (host := "") (Or.inl (hw _ (List.mem_of_getElem? (i := 29) rfl))) Via.refl e2 (FC1.ext Ex) (g := (mkF m 21 #[.val (.int (2 : Int32)), .val (.ref h0.size), .val (.int (10 : Int32)), .val (.int ((0 : Int32) + (1 : Int32))), .val (.ref w1)] [(.ref w1)])) rfl rfl (hb hby d1_21)
  obtain ⟨fs, hr, hrun, hended, hW, hsame⟩ := X3.leave (v := some (.ref w1)) (fun h => by rw [Bd.returns] at h; cases h)
  refine ⟨_, _, pre0 _ ?_, hrun, hended, _, _, rfl, ?_, ⟨_, rfl⟩, hW, hsame.mono (by decide) (by decide)⟩
  · show Steps p.tables e below (s₁.setTop (mkF m 0 #[.val (.int (2 : Int32)), .unset, .unset, .unset, .unset] [])) _
    refine st1 _ ?_
    show Steps p.tables e below (T1.setTop (mkF m 3 #[.val (.int (2 : Int32)), .unset, .unset, .unset, .unset] [(.ref h0.size)])) _
    refine XS.astoreN X1.here hx rfl (hb hby d1_3) rfl rfl (l' := #[.val (.int (2 : Int32)), .val (.ref h0.size), .unset, .unset, .unset]) rfl ?_
    show Steps p.tables e below (T1.setTop (mkF m 4 #[.val (.int (2 : Int32)), .val (.ref h0.size), .unset, .unset, .unset] [])) _
    refine XS.aloadN X1.here hx rfl (hb hby d1_4) rfl rfl ?_
    show Steps p.tables e below (T1.setTop (mkF m 5 #[.val (.int (2 : Int32)), .val (.ref h0.size), .unset, .unset, .unset] [(.ref h0.size)])) _
    refine X1.arraylength hx Ar.1 (State.isArrayOf_alike hZ.alike Ar.2.1) (g := (mkF m 5 #[.val (.int (2 : Int32)), .val (.ref h0.size), .unset, .unset, .unset] [(.ref h0.size)])) rfl rfl (hb hby d1_5) _ ?_
    rw [len_of Sz Mz]
    show Steps p.tables e below (T1.setTop (mkF m 6 #[.val (.int (2 : Int32)), .val (.ref h0.size), .unset, .unset, .unset] [(.int (10 : Int32))])) _
    refine XS.istoreN X1.here hx rfl (hb hby d1_6) rfl (l' := #[.val (.int (2 : Int32)), .val (.ref h0.size), .val (.int (10 : Int32)), .unset, .unset]) rfl ?_
    show Steps p.tables e below (T1.setTop (mkF m 7 #[.val (.int (2 : Int32)), .val (.ref h0.size), .val (.int (10 : Int32)), .unset, .unset] [])) _
    refine XS.iconst X1.here hx rfl (hb hby d1_7) ?_
    show Steps p.tables e below (T1.setTop (mkF m 8 #[.val (.int (2 : Int32)), .val (.ref h0.size), .val (.int (10 : Int32)), .unset, .unset] [(.int (0 : Int32))])) _
    refine XS.istoreN X1.here hx rfl (hb hby d1_8) rfl (l' := #[.val (.int (2 : Int32)), .val (.ref h0.size), .val (.int (10 : Int32)), .val (.int (0 : Int32)), .unset]) rfl ?_
    show Steps p.tables e below (T1.setTop (mkF m 9 #[.val (.int (2 : Int32)), .val (.ref h0.size), .val (.int (10 : Int32)), .val (.int (0 : Int32)), .unset] [])) _
    refine XS.iloadN X1.here hx rfl (hb hby d1_9) rfl ?_
    show Steps p.tables e below (T1.setTop (mkF m 10 #[.val (.int (2 : Int32)), .val (.ref h0.size), .val (.int (10 : Int32)), .val (.int (0 : Int32)), .unset] [(.int (0 : Int32))])) _
    refine XS.iloadN X1.here hx rfl (hb hby d1_10) rfl ?_
    show Steps p.tables e below (T1.setTop (mkF m 11 #[.val (.int (2 : Int32)), .val (.ref h0.size), .val (.int (10 : Int32)), .val (.int (0 : Int32)), .unset] [(.int (10 : Int32)), (.int (0 : Int32))])) _
    refine XS.icmpNo X1.here hx rfl (hb hby d1_11) rfl (tlt (by decide +kernel)).2.1 ?_
    show Steps p.tables e below (T1.setTop (mkF m 14 #[.val (.int (2 : Int32)), .val (.ref h0.size), .val (.int (10 : Int32)), .val (.int (0 : Int32)), .unset] [])) _
    refine XS.aloadN X1.here hx rfl (hb hby d1_14) rfl rfl ?_
    show Steps p.tables e below (T1.setTop (mkF m 15 #[.val (.int (2 : Int32)), .val (.ref h0.size), .val (.int (10 : Int32)), .val (.int (0 : Int32)), .unset] [(.ref h0.size)])) _
    refine XS.iloadN X1.here hx rfl (hb hby d1_15) rfl ?_
    show Steps p.tables e below (T1.setTop (mkF m 16 #[.val (.int (2 : Int32)), .val (.ref h0.size), .val (.int (10 : Int32)), .val (.int (0 : Int32)), .unset] [(.int (0 : Int32)), (.ref h0.size)])) _
    refine X1.aaload hx (j := (0 : Int32)) (v := (.ref w0)) Ar.1 (State.isArrayOf_alike hZ.alike Ar.2.1) rfl Ar.2.2 (inb_of Sz ⟨by decide, by decide⟩) (H.at (inb_of Sz ⟨by decide, by decide⟩) rfl) (g := (mkF m 16 #[.val (.int (2 : Int32)), .val (.ref h0.size), .val (.int (10 : Int32)), .val (.int (0 : Int32)), .unset] [(.int (0 : Int32)), (.ref h0.size)])) rfl rfl (hb hby d1_16) _ ?_
    show Steps p.tables e below (T1.setTop (mkF m 17 #[.val (.int (2 : Int32)), .val (.ref h0.size), .val (.int (10 : Int32)), .val (.int (0 : Int32)), .unset] [(.ref w0)])) _
    refine XS.astore X1.here hx rfl (hb hby d1_17) rfl rfl (l' := #[.val (.int (2 : Int32)), .val (.ref h0.size), .val (.int (10 : Int32)), .val (.int (0 : Int32)), .val (.ref w0)]) rfl ?_
    show Steps p.tables e below (T1.setTop (mkF m 19 #[.val (.int (2 : Int32)), .val (.ref h0.size), .val (.int (10 : Int32)), .val (.int (0 : Int32)), .val (.ref w0)] [])) _
    refine XS.aload X1.here hx rfl (hb hby d1_19) rfl rfl ?_
    show Steps p.tables e below (T1.setTop (mkF m 21 #[.val (.int (2 : Int32)), .val (.ref h0.size), .val (.int (10 : Int32)), .val (.int (0 : Int32)), .val (.ref w0)] [(.ref w0)])) _
    refine st2 _ ?_
    show Steps p.tables e below (T2.setTop (mkF m 24 #[.val (.int (2 : Int32)), .val (.ref h0.size), .val (.int (10 : Int32)), .val (.int (0 : Int32)), .val (.ref w0)] [(.int (1 : Int32))])) _
    refine XS.iloadN X2.here hx rfl (hb hby d1_24) rfl ?_
    show Steps p.tables e below (T2.setTop (mkF m 25 #[.val (.int (2 : Int32)), .val (.ref h0.size), .val (.int (10 : Int32)), .val (.int (0 : Int32)), .val (.ref w0)] [(.int (2 : Int32)), (.int (1 : Int32))])) _
    refine XS.icmpYes X2.here hx rfl (pc0 := 25) (pc' := 31) rfl (hb hby d1_25) rfl (feq (by decide +kernel)).2 (by decide) (by decide) ?_
    show Steps p.tables e below (T2.setTop (mkF m 31 #[.val (.int (2 : Int32)), .val (.ref h0.size), .val (.int (10 : Int32)), .val (.int (0 : Int32)), .val (.ref w0)] [])) _
    refine XS.iinc X2.here hx rfl (hb hby d1_31) rfl (l' := #[.val (.int (2 : Int32)), .val (.ref h0.size), .val (.int (10 : Int32)), .val (.int ((0 : Int32) + (1 : Int32))), .val (.ref w0)]) rfl ?_
    show Steps p.tables e below (T2.setTop (mkF m 34 #[.val (.int (2 : Int32)), .val (.ref h0.size), .val (.int (10 : Int32)), .val (.int ((0 : Int32) + (1 : Int32))), .val (.ref w0)] [])) _
    refine XS.goto X2.here hx rfl (pc0 := 34) (pc' := 9) rfl (hb hby d1_34) (by decide) (by decide) ?_
    show Steps p.tables e below (T2.setTop (mkF m 9 #[.val (.int (2 : Int32)), .val (.ref h0.size), .val (.int (10 : Int32)), .val (.int ((0 : Int32) + (1 : Int32))), .val (.ref w0)] [])) _
    refine XS.iloadN X2.here hx rfl (hb hby d1_9) rfl ?_
    show Steps p.tables e below (T2.setTop (mkF m 10 #[.val (.int (2 : Int32)), .val (.ref h0.size), .val (.int (10 : Int32)), .val (.int ((0 : Int32) + (1 : Int32))), .val (.ref w0)] [(.int ((0 : Int32) + (1 : Int32)))])) _
    refine XS.iloadN X2.here hx rfl (hb hby d1_10) rfl ?_
    show Steps p.tables e below (T2.setTop (mkF m 11 #[.val (.int (2 : Int32)), .val (.ref h0.size), .val (.int (10 : Int32)), .val (.int ((0 : Int32) + (1 : Int32))), .val (.ref w0)] [(.int (10 : Int32)), (.int ((0 : Int32) + (1 : Int32)))])) _
    refine XS.icmpNo X2.here hx rfl (hb hby d1_11) rfl (tlt (by decide +kernel)).2.1 ?_
    show Steps p.tables e below (T2.setTop (mkF m 14 #[.val (.int (2 : Int32)), .val (.ref h0.size), .val (.int (10 : Int32)), .val (.int ((0 : Int32) + (1 : Int32))), .val (.ref w0)] [])) _
    refine XS.aloadN X2.here hx rfl (hb hby d1_14) rfl rfl ?_
    show Steps p.tables e below (T2.setTop (mkF m 15 #[.val (.int (2 : Int32)), .val (.ref h0.size), .val (.int (10 : Int32)), .val (.int ((0 : Int32) + (1 : Int32))), .val (.ref w0)] [(.ref h0.size)])) _
    refine XS.iloadN X2.here hx rfl (hb hby d1_15) rfl ?_
    show Steps p.tables e below (T2.setTop (mkF m 16 #[.val (.int (2 : Int32)), .val (.ref h0.size), .val (.int (10 : Int32)), .val (.int ((0 : Int32) + (1 : Int32))), .val (.ref w0)] [(.int ((0 : Int32) + (1 : Int32))), (.ref h0.size)])) _
    refine X2.aaload hx (j := ((0 : Int32) + (1 : Int32))) (v := (.ref w1)) (by rw [e2]; exact Ar.1) (State.isArrayOf_alike hZ.alike Ar.2.1) rfl Ar.2.2 (inb_of Sz ⟨by decide, by decide⟩) (H.at (inb_of Sz ⟨by decide, by decide⟩) rfl) (g := (mkF m 16 #[.val (.int (2 : Int32)), .val (.ref h0.size), .val (.int (10 : Int32)), .val (.int ((0 : Int32) + (1 : Int32))), .val (.ref w0)] [(.int ((0 : Int32) + (1 : Int32))), (.ref h0.size)])) rfl rfl (hb hby d1_16) _ ?_
    show Steps p.tables e below (T2.setTop (mkF m 17 #[.val (.int (2 : Int32)), .val (.ref h0.size), .val (.int (10 : Int32)), .val (.int ((0 : Int32) + (1 : Int32))), .val (.ref w0)] [(.ref w1)])) _
    refine XS.astore X2.here hx rfl (hb hby d1_17) rfl rfl (l' := #[.val (.int (2 : Int32)), .val (.ref h0.size), .val (.int (10 : Int32)), .val (.int ((0 : Int32) + (1 : Int32))), .val (.ref w1)]) rfl ?_
    show Steps p.tables e below (T2.setTop (mkF m 19 #[.val (.int (2 : Int32)), .val (.ref h0.size), .val (.int (10 : Int32)), .val (.int ((0 : Int32) + (1 : Int32))), .val (.ref w1)] [])) _
    refine XS.aload X2.here hx rfl (hb hby d1_19) rfl rfl ?_
    show Steps p.tables e below (T2.setTop (mkF m 21 #[.val (.int (2 : Int32)), .val (.ref h0.size), .val (.int (10 : Int32)), .val (.int ((0 : Int32) + (1 : Int32))), .val (.ref w1)] [(.ref w1)])) _
    refine st3 _ ?_
    show Steps p.tables e below (T3.setTop (mkF m 24 #[.val (.int (2 : Int32)), .val (.ref h0.size), .val (.int (10 : Int32)), .val (.int ((0 : Int32) + (1 : Int32))), .val (.ref w1)] [(.int (2 : Int32))])) _
    refine XS.iloadN X3.here hx rfl (hb hby d1_24) rfl ?_
    show Steps p.tables e below (T3.setTop (mkF m 25 #[.val (.int (2 : Int32)), .val (.ref h0.size), .val (.int (10 : Int32)), .val (.int ((0 : Int32) + (1 : Int32))), .val (.ref w1)] [(.int (2 : Int32)), (.int (2 : Int32))])) _
    refine XS.icmpNo X3.here hx rfl (hb hby d1_25) rfl (teq (by decide +kernel)).2 ?_
    show Steps p.tables e below (T3.setTop (mkF m 28 #[.val (.int (2 : Int32)), .val (.ref h0.size), .val (.int (10 : Int32)), .val (.int ((0 : Int32) + (1 : Int32))), .val (.ref w1)] [])) _
    refine XS.aload X3.here hx rfl (hb hby d1_28) rfl rfl ?_
    show Steps p.tables e below (T3.setTop (mkF m 30 #[.val (.int (2 : Int32)), .val (.ref h0.size), .val (.int (10 : Int32)), .val (.int ((0 : Int32) + (1 : Int32))), .val (.ref w1)] [(.ref w1)])) _
    jvm_step X3.here [X3.here.top, hx, (hb hby d1_30), X3.method', Bd.returns, Value.isRef, FieldType.isReference]
    first | (intro acts; rw [hr _ acts rfl rfl rfl]) | rw [hr _ _ rfl rfl rfl]
    exact Steps.refl _
  · show QO_2 Z vA kA w0 w1 w2 w3 w4 w5 w6 w7 w8 w9 h0 n0 _ T3.heap _
    rw [e3]
    exact ⟨rfl, N1, Ex⟩
def QO_3 (Z : State) (vA : Addr) (kA : ClassId) (w0 w1 w2 w3 w4 w5 w6 w7 w8 w9 : Addr) (h0 : Heap) (n0 : Nat) (v : Option Value) (h : Heap) (L : List Loc) : Prop := v = some (.ref w2) ∧ Fr n0 L ∧ Ext h0 h
set_option maxRecDepth 65536 in
set_option maxHeartbeats 40000000 in
theorem rmO_3 (l : Launch) (Z : State) (a0 : Array Value) (hw : ∀ d ∈ tables_1, d.before a0 Z = true) (ws : List Jvm.Cond) (vA : Addr) (kA : ClassId) (w0 w1 w2 w3 w4 w5 w6 w7 w8 w9 : Addr) (h0 : Heap) (n0 : Nat) (Z0 : n0 ≤ h0.size) (SV : Sta Z h0 "com/example/concordat/concordat/log/LogRecord$Kind" "$VALUES" "[Lcom/example/concordat/concordat/log/LogRecord$Kind;" (.ref vA)) (AV : Arv Z h0 vA kA (.object "com/example/concordat/concordat/log/LogRecord$Kind") 10 [.ref w0, .ref w1, .ref w2, .ref w3, .ref w4, .ref w5, .ref w6, .ref w7, .ref w8, .ref w9] .null) (EV : Exa Z h0 vA "[Lcom/example/concordat/concordat/log/LogRecord$Kind;") (FC0 : Fld Z h0 w0 "com/example/concordat/concordat/log/LogRecord$Kind" "code" "B" (.int (1 : Int32))) (FC1 : Fld Z h0 w1 "com/example/concordat/concordat/log/LogRecord$Kind" "code" "B" (.int (2 : Int32))) (FC2 : Fld Z h0 w2 "com/example/concordat/concordat/log/LogRecord$Kind" "code" "B" (.int (3 : Int32))) (FC3 : Fld Z h0 w3 "com/example/concordat/concordat/log/LogRecord$Kind" "code" "B" (.int (4 : Int32))) (FC4 : Fld Z h0 w4 "com/example/concordat/concordat/log/LogRecord$Kind" "code" "B" (.int (5 : Int32))) (FC5 : Fld Z h0 w5 "com/example/concordat/concordat/log/LogRecord$Kind" "code" "B" (.int (6 : Int32))) (FC6 : Fld Z h0 w6 "com/example/concordat/concordat/log/LogRecord$Kind" "code" "B" (.int (7 : Int32))) (FC7 : Fld Z h0 w7 "com/example/concordat/concordat/log/LogRecord$Kind" "code" "B" (.int (8 : Int32))) (FC8 : Fld Z h0 w8 "com/example/concordat/concordat/log/LogRecord$Kind" "code" "B" (.int (9 : Int32))) (FC9 : Fld Z h0 w9 "com/example/concordat/concordat/log/LogRecord$Kind" "code" "B" (.int (10 : Int32))) :
    MetFree l (⟨"com/example/concordat/concordat/log/LogRecord$Kind", "of", "(B)Lcom/example/concordat/concordat/log/LogRecord$Kind;"⟩ : MethodName) (head1 (Jvm.Cond.code (⟨"com/example/concordat/concordat/log/LogRecord$Kind", "of", "(B)Lcom/example/concordat/concordat/log/LogRecord$Kind;"⟩ : MethodName) prog_45_method_4_code 5 (some (.object "com/example/concordat/concordat/log/LogRecord$Kind")) :: ws) ({ frames := 2, cells := 1, slots := 10, locals := 25 } : Room)) (fun a U => a = #[(.int (3 : Int32))] ∧ Z.Warmed39 U.vm ∧ U.heap = h0) (fun _ _ _ _ _ => True) (fun _ U o U' => ∃ v L, o = .returned v ∧ QO_3 Z vA kA w0 w1 w2 w3 w4 w5 w6 w7 w8 w9 h0 n0 v U'.heap L ∧ FrameEnd U o U' L ({ frames := 2, cells := 1, slots := 10, locals := 25 } : Room).cells ({ frames := 2, cells := 1, slots := 10, locals := 25 } : Room).slots) := by
  refine MetFree.of_bodySF (plainFor_of_name pn_LogRecord_Kind) hisR ?_
  intro p e s m args below meth c s₁ Bd hml0 hP hK
  obtain ⟨rfl, hZ, hh⟩ := hP
  have hx := Bd.exec
  have hby := Bd.bytes
  have hml : c.maxLocals = 5 := hml0
  have hown : s.vm.findClass "com/example/concordat/concordat/log/LogRecord$Kind" = some m.cls := findClass_of_methodNamed Bd.named
  have hnm := (name_of_methodNamed Bd.named Bd.method).1
  have X0 : Stand p l e ({ frames := 2, cells := 1, slots := 10, locals := 25 } : Room) s m #[(.int (3 : Int32))] below meth c s₁ [] 0 0 := Stand.of_body Bd
  have e0 : s₁.heap = h0 := by rw [← hh, Bd.state]; rfl
  have N0 := Fr.nil n0
  have pre0 : ∀ t, Steps p.tables e below (s₁.setTop (mkF m 0 #[.val (.int (3 : Int32)), .unset, .unset, .unset, .unset] [])) t → Steps p.tables e below (s₁.setTop (entryFrame m #[(.int (3 : Int32))] 5)) t := fun t k => castTop (ef_1 m (3 : Int32)) k
  obtain ⟨_, _, ⟨T1, L1, k1, n1⟩, -, X1, ⟨Lc1, hQ1, l1, y1, z1⟩, st1⟩ := Jvm.LawKit.callS X0 hx (y := (⟨"com/example/concordat/concordat/log/LogRecord$Kind", "values", "()[Lcom/example/concordat/concordat/log/LogRecord$Kind;"⟩ : MethodName)) hown (mvT hZ (hw _ (List.mem_of_getElem? (i := 4) rfl))) (mvT hZ (hw _ (List.mem_of_getElem? (i := 5) rfl))) (mvT hZ (hw _ (List.mem_of_getElem? (i := 2) rfl))) (mvT hZ (hw _ (List.mem_of_getElem? (i := 6) rfl))) (by decide) (backOf (W := 0) (rmV l Z a0 hw [] vA kA w0 w1 w2 w3 w4 w5 w6 w7 w8 w9 h0 n0 Z0 SV AV EV) hZ (hw _ (List.mem_of_getElem? (i := 6) rfl)) (hw _ (List.mem_of_getElem? (i := 2) rfl)) (by decide) (by decide)) (g := (mkF m 0 #[.val (.int (3 : Int32)), .unset, .unset, .unset, .unset] [])) rfl (by rw [hml]; rfl) (argsL := []) (rest := []) (lenOf pd_0 rfl) rfl (by show 2 * 0 + _ ≤ _; exact Nat.le_of_eq rfl) (hb hby d1_0) (fun _ _ => ⟨rfl, e0, (by decide : 0 + 1 ≤ _), (by decide : 0 + 10 ≤ _)⟩)
  dsimp only [Pt.U, Pt.locs, Pt.cells, Pt.slots] at X1 l1 y1 z1 st1 hQ1
  subst l1 y1 z1
  obtain ⟨rfl, N1q, Ex, Av⟩ := hQ1
  have N1 := Fr.app N0 N1q
  obtain ⟨cl, Ar, -, Sz, Mz, H, -⟩ := Av
  obtain ⟨T2, X2, e2, st2⟩ := getF X1 hx hZ hown (host := "") (Or.inl (hw _ (List.mem_of_getElem? (i := 29) rfl))) Via.refl rfl (FC0.ext Ex) (g := (mkF m 21 #[.val (.int (3 : Int32)), .val (.ref h0.size), .val (.int (10 : Int32)), .val (.int (0 : Int32)), .val (.ref w0)] [(.ref w0)])) rfl rfl (hb hby d1_21)
  obtain ⟨T3, X3, e3, st3⟩ := getF X2 hx hZ hown (host := "") (Or.inl (hw _ (List.mem_of_getElem? (i := 29) rfl))) Via.refl e2 (FC1.ext Ex) (g := (mkF m 21 #[.val (.int (3 : Int32)), .val (.ref h0.size), .val (.int (10 : Int32)), .val (.int ((0 : Int32) + (1 : Int32))), .val (.ref w1)] [(.ref w1)])) rfl rfl (hb hby d1_21)
  obtain ⟨T4, X4, e4, st4⟩ := getF X3 hx hZ hown (host := "") (Or.inl (hw _ (List.mem_of_getElem? (i := 29) rfl))) Via.refl e3 (FC2.ext Ex) (g := (mkF m 21 #[.val (.int (3 : Int32)), .val (.ref h0.size), .val (.int (10 : Int32)), .val (.int (((0 : Int32) + (1 : Int32)) + (1 : Int32))), .val (.ref w2)] [(.ref w2)])) rfl rfl (hb hby d1_21)
  obtain ⟨fs, hr, hrun, hended, hW, hsame⟩ := X4.leave (v := some (.ref w2)) (fun h => by rw [Bd.returns] at h; cases h)
  refine ⟨_, _, pre0 _ ?_, hrun, hended, _, _, rfl, ?_, ⟨_, rfl⟩, hW, hsame.mono (by decide) (by decide)⟩
  · show Steps p.tables e below (s₁.setTop (mkF m 0 #[.val (.int (3 : Int32)), .unset, .unset, .unset, .unset] [])) _
    refine st1 _ ?_
    show Steps p.tables e below (T1.setTop (mkF m 3 #[.val (.int (3 : Int32)), .unset, .unset, .unset, .unset] [(.ref h0.size)])) _
    refine XS.astoreN X1.here hx rfl (hb hby d1_3) rfl rfl (l' := #[.val (.int (3 : Int32)), .val (.ref h0.size), .unset, .unset, .unset]) rfl ?_
    show Steps p.tables e below (T1.setTop (mkF m 4 #[.val (.int (3 : Int32)), .val (.ref h0.size), .unset, .unset, .unset] [])) _
    refine XS.aloadN X1.here hx rfl (hb hby d1_4) rfl rfl ?_
    show Steps p.tables e below (T1.setTop (mkF m 5 #[.val (.int (3 : Int32)), .val (.ref h0.size), .unset, .unset, .unset] [(.ref h0.size)])) _
    refine X1.arraylength hx Ar.1 (State.isArrayOf_alike hZ.alike Ar.2.1) (g := (mkF m 5 #[.val (.int (3 : Int32)), .val (.ref h0.size), .unset, .unset, .unset] [(.ref h0.size)])) rfl rfl (hb hby d1_5) _ ?_
    rw [len_of Sz Mz]
    show Steps p.tables e below (T1.setTop (mkF m 6 #[.val (.int (3 : Int32)), .val (.ref h0.size), .unset, .unset, .unset] [(.int (10 : Int32))])) _
    refine XS.istoreN X1.here hx rfl (hb hby d1_6) rfl (l' := #[.val (.int (3 : Int32)), .val (.ref h0.size), .val (.int (10 : Int32)), .unset, .unset]) rfl ?_
    show Steps p.tables e below (T1.setTop (mkF m 7 #[.val (.int (3 : Int32)), .val (.ref h0.size), .val (.int (10 : Int32)), .unset, .unset] [])) _
    refine XS.iconst X1.here hx rfl (hb hby d1_7) ?_
    show Steps p.tables e below (T1.setTop (mkF m 8 #[.val (.int (3 : Int32)), .val (.ref h0.size), .val (.int (10 : Int32)), .unset, .unset] [(.int (0 : Int32))])) _
    refine XS.istoreN X1.here hx rfl (hb hby d1_8) rfl (l' := #[.val (.int (3 : Int32)), .val (.ref h0.size), .val (.int (10 : Int32)), .val (.int (0 : Int32)), .unset]) rfl ?_
    show Steps p.tables e below (T1.setTop (mkF m 9 #[.val (.int (3 : Int32)), .val (.ref h0.size), .val (.int (10 : Int32)), .val (.int (0 : Int32)), .unset] [])) _
    refine XS.iloadN X1.here hx rfl (hb hby d1_9) rfl ?_
    show Steps p.tables e below (T1.setTop (mkF m 10 #[.val (.int (3 : Int32)), .val (.ref h0.size), .val (.int (10 : Int32)), .val (.int (0 : Int32)), .unset] [(.int (0 : Int32))])) _
    refine XS.iloadN X1.here hx rfl (hb hby d1_10) rfl ?_
    show Steps p.tables e below (T1.setTop (mkF m 11 #[.val (.int (3 : Int32)), .val (.ref h0.size), .val (.int (10 : Int32)), .val (.int (0 : Int32)), .unset] [(.int (10 : Int32)), (.int (0 : Int32))])) _
    refine XS.icmpNo X1.here hx rfl (hb hby d1_11) rfl (tlt (by decide +kernel)).2.1 ?_
    show Steps p.tables e below (T1.setTop (mkF m 14 #[.val (.int (3 : Int32)), .val (.ref h0.size), .val (.int (10 : Int32)), .val (.int (0 : Int32)), .unset] [])) _
    refine XS.aloadN X1.here hx rfl (hb hby d1_14) rfl rfl ?_
    show Steps p.tables e below (T1.setTop (mkF m 15 #[.val (.int (3 : Int32)), .val (.ref h0.size), .val (.int (10 : Int32)), .val (.int (0 : Int32)), .unset] [(.ref h0.size)])) _
    refine XS.iloadN X1.here hx rfl (hb hby d1_15) rfl ?_
    show Steps p.tables e below (T1.setTop (mkF m 16 #[.val (.int (3 : Int32)), .val (.ref h0.size), .val (.int (10 : Int32)), .val (.int (0 : Int32)), .unset] [(.int (0 : Int32)), (.ref h0.size)])) _
    refine X1.aaload hx (j := (0 : Int32)) (v := (.ref w0)) Ar.1 (State.isArrayOf_alike hZ.alike Ar.2.1) rfl Ar.2.2 (inb_of Sz ⟨by decide, by decide⟩) (H.at (inb_of Sz ⟨by decide, by decide⟩) rfl) (g := (mkF m 16 #[.val (.int (3 : Int32)), .val (.ref h0.size), .val (.int (10 : Int32)), .val (.int (0 : Int32)), .unset] [(.int (0 : Int32)), (.ref h0.size)])) rfl rfl (hb hby d1_16) _ ?_
    show Steps p.tables e below (T1.setTop (mkF m 17 #[.val (.int (3 : Int32)), .val (.ref h0.size), .val (.int (10 : Int32)), .val (.int (0 : Int32)), .unset] [(.ref w0)])) _
    refine XS.astore X1.here hx rfl (hb hby d1_17) rfl rfl (l' := #[.val (.int (3 : Int32)), .val (.ref h0.size), .val (.int (10 : Int32)), .val (.int (0 : Int32)), .val (.ref w0)]) rfl ?_
    show Steps p.tables e below (T1.setTop (mkF m 19 #[.val (.int (3 : Int32)), .val (.ref h0.size), .val (.int (10 : Int32)), .val (.int (0 : Int32)), .val (.ref w0)] [])) _
    refine XS.aload X1.here hx rfl (hb hby d1_19) rfl rfl ?_
    show Steps p.tables e below (T1.setTop (mkF m 21 #[.val (.int (3 : Int32)), .val (.ref h0.size), .val (.int (10 : Int32)), .val (.int (0 : Int32)), .val (.ref w0)] [(.ref w0)])) _
    refine st2 _ ?_
    show Steps p.tables e below (T2.setTop (mkF m 24 #[.val (.int (3 : Int32)), .val (.ref h0.size), .val (.int (10 : Int32)), .val (.int (0 : Int32)), .val (.ref w0)] [(.int (1 : Int32))])) _
    refine XS.iloadN X2.here hx rfl (hb hby d1_24) rfl ?_
    show Steps p.tables e below (T2.setTop (mkF m 25 #[.val (.int (3 : Int32)), .val (.ref h0.size), .val (.int (10 : Int32)), .val (.int (0 : Int32)), .val (.ref w0)] [(.int (3 : Int32)), (.int (1 : Int32))])) _
    refine XS.icmpYes X2.here hx rfl (pc0 := 25) (pc' := 31) rfl (hb hby d1_25) rfl (feq (by decide +kernel)).2 (by decide) (by decide) ?_
    show Steps p.tables e below (T2.setTop (mkF m 31 #[.val (.int (3 : Int32)), .val (.ref h0.size), .val (.int (10 : Int32)), .val (.int (0 : Int32)), .val (.ref w0)] [])) _
    refine XS.iinc X2.here hx rfl (hb hby d1_31) rfl (l' := #[.val (.int (3 : Int32)), .val (.ref h0.size), .val (.int (10 : Int32)), .val (.int ((0 : Int32) + (1 : Int32))), .val (.ref w0)]) rfl ?_
    show Steps p.tables e below (T2.setTop (mkF m 34 #[.val (.int (3 : Int32)), .val (.ref h0.size), .val (.int (10 : Int32)), .val (.int ((0 : Int32) + (1 : Int32))), .val (.ref w0)] [])) _
    refine XS.goto X2.here hx rfl (pc0 := 34) (pc' := 9) rfl (hb hby d1_34) (by decide) (by decide) ?_
    show Steps p.tables e below (T2.setTop (mkF m 9 #[.val (.int (3 : Int32)), .val (.ref h0.size), .val (.int (10 : Int32)), .val (.int ((0 : Int32) + (1 : Int32))), .val (.ref w0)] [])) _
    refine XS.iloadN X2.here hx rfl (hb hby d1_9) rfl ?_
    show Steps p.tables e below (T2.setTop (mkF m 10 #[.val (.int (3 : Int32)), .val (.ref h0.size), .val (.int (10 : Int32)), .val (.int ((0 : Int32) + (1 : Int32))), .val (.ref w0)] [(.int ((0 : Int32) + (1 : Int32)))])) _
    refine XS.iloadN X2.here hx rfl (hb hby d1_10) rfl ?_
    show Steps p.tables e below (T2.setTop (mkF m 11 #[.val (.int (3 : Int32)), .val (.ref h0.size), .val (.int (10 : Int32)), .val (.int ((0 : Int32) + (1 : Int32))), .val (.ref w0)] [(.int (10 : Int32)), (.int ((0 : Int32) + (1 : Int32)))])) _
    refine XS.icmpNo X2.here hx rfl (hb hby d1_11) rfl (tlt (by decide +kernel)).2.1 ?_
    show Steps p.tables e below (T2.setTop (mkF m 14 #[.val (.int (3 : Int32)), .val (.ref h0.size), .val (.int (10 : Int32)), .val (.int ((0 : Int32) + (1 : Int32))), .val (.ref w0)] [])) _
    refine XS.aloadN X2.here hx rfl (hb hby d1_14) rfl rfl ?_
    show Steps p.tables e below (T2.setTop (mkF m 15 #[.val (.int (3 : Int32)), .val (.ref h0.size), .val (.int (10 : Int32)), .val (.int ((0 : Int32) + (1 : Int32))), .val (.ref w0)] [(.ref h0.size)])) _
    refine XS.iloadN X2.here hx rfl (hb hby d1_15) rfl ?_
    show Steps p.tables e below (T2.setTop (mkF m 16 #[.val (.int (3 : Int32)), .val (.ref h0.size), .val (.int (10 : Int32)), .val (.int ((0 : Int32) + (1 : Int32))), .val (.ref w0)] [(.int ((0 : Int32) + (1 : Int32))), (.ref h0.size)])) _
    refine X2.aaload hx (j := ((0 : Int32) + (1 : Int32))) (v := (.ref w1)) (by rw [e2]; exact Ar.1) (State.isArrayOf_alike hZ.alike Ar.2.1) rfl Ar.2.2 (inb_of Sz ⟨by decide, by decide⟩) (H.at (inb_of Sz ⟨by decide, by decide⟩) rfl) (g := (mkF m 16 #[.val (.int (3 : Int32)), .val (.ref h0.size), .val (.int (10 : Int32)), .val (.int ((0 : Int32) + (1 : Int32))), .val (.ref w0)] [(.int ((0 : Int32) + (1 : Int32))), (.ref h0.size)])) rfl rfl (hb hby d1_16) _ ?_
    show Steps p.tables e below (T2.setTop (mkF m 17 #[.val (.int (3 : Int32)), .val (.ref h0.size), .val (.int (10 : Int32)), .val (.int ((0 : Int32) + (1 : Int32))), .val (.ref w0)] [(.ref w1)])) _
    refine XS.astore X2.here hx rfl (hb hby d1_17) rfl rfl (l' := #[.val (.int (3 : Int32)), .val (.ref h0.size), .val (.int (10 : Int32)), .val (.int ((0 : Int32) + (1 : Int32))), .val (.ref w1)]) rfl ?_
    show Steps p.tables e below (T2.setTop (mkF m 19 #[.val (.int (3 : Int32)), .val (.ref h0.size), .val (.int (10 : Int32)), .val (.int ((0 : Int32) + (1 : Int32))), .val (.ref w1)] [])) _
    refine XS.aload X2.here hx rfl (hb hby d1_19) rfl rfl ?_
    show Steps p.tables e below (T2.setTop (mkF m 21 #[.val (.int (3 : Int32)), .val (.ref h0.size), .val (.int (10 : Int32)), .val (.int ((0 : Int32) + (1 : Int32))), .val (.ref w1)] [(.ref w1)])) _
    refine st3 _ ?_
    show Steps p.tables e below (T3.setTop (mkF m 24 #[.val (.int (3 : Int32)), .val (.ref h0.size), .val (.int (10 : Int32)), .val (.int ((0 : Int32) + (1 : Int32))), .val (.ref w1)] [(.int (2 : Int32))])) _
    refine XS.iloadN X3.here hx rfl (hb hby d1_24) rfl ?_
    show Steps p.tables e below (T3.setTop (mkF m 25 #[.val (.int (3 : Int32)), .val (.ref h0.size), .val (.int (10 : Int32)), .val (.int ((0 : Int32) + (1 : Int32))), .val (.ref w1)] [(.int (3 : Int32)), (.int (2 : Int32))])) _
    refine XS.icmpYes X3.here hx rfl (pc0 := 25) (pc' := 31) rfl (hb hby d1_25) rfl (feq (by decide +kernel)).2 (by decide) (by decide) ?_
    show Steps p.tables e below (T3.setTop (mkF m 31 #[.val (.int (3 : Int32)), .val (.ref h0.size), .val (.int (10 : Int32)), .val (.int ((0 : Int32) + (1 : Int32))), .val (.ref w1)] [])) _
    refine XS.iinc X3.here hx rfl (hb hby d1_31) rfl (l' := #[.val (.int (3 : Int32)), .val (.ref h0.size), .val (.int (10 : Int32)), .val (.int (((0 : Int32) + (1 : Int32)) + (1 : Int32))), .val (.ref w1)]) rfl ?_
    show Steps p.tables e below (T3.setTop (mkF m 34 #[.val (.int (3 : Int32)), .val (.ref h0.size), .val (.int (10 : Int32)), .val (.int (((0 : Int32) + (1 : Int32)) + (1 : Int32))), .val (.ref w1)] [])) _
    refine XS.goto X3.here hx rfl (pc0 := 34) (pc' := 9) rfl (hb hby d1_34) (by decide) (by decide) ?_
    show Steps p.tables e below (T3.setTop (mkF m 9 #[.val (.int (3 : Int32)), .val (.ref h0.size), .val (.int (10 : Int32)), .val (.int (((0 : Int32) + (1 : Int32)) + (1 : Int32))), .val (.ref w1)] [])) _
    refine XS.iloadN X3.here hx rfl (hb hby d1_9) rfl ?_
    show Steps p.tables e below (T3.setTop (mkF m 10 #[.val (.int (3 : Int32)), .val (.ref h0.size), .val (.int (10 : Int32)), .val (.int (((0 : Int32) + (1 : Int32)) + (1 : Int32))), .val (.ref w1)] [(.int (((0 : Int32) + (1 : Int32)) + (1 : Int32)))])) _
    refine XS.iloadN X3.here hx rfl (hb hby d1_10) rfl ?_
    show Steps p.tables e below (T3.setTop (mkF m 11 #[.val (.int (3 : Int32)), .val (.ref h0.size), .val (.int (10 : Int32)), .val (.int (((0 : Int32) + (1 : Int32)) + (1 : Int32))), .val (.ref w1)] [(.int (10 : Int32)), (.int (((0 : Int32) + (1 : Int32)) + (1 : Int32)))])) _
    refine XS.icmpNo X3.here hx rfl (hb hby d1_11) rfl (tlt (by decide +kernel)).2.1 ?_
    show Steps p.tables e below (T3.setTop (mkF m 14 #[.val (.int (3 : Int32)), .val (.ref h0.size), .val (.int (10 : Int32)), .val (.int (((0 : Int32) + (1 : Int32)) + (1 : Int32))), .val (.ref w1)] [])) _
    refine XS.aloadN X3.here hx rfl (hb hby d1_14) rfl rfl ?_
    show Steps p.tables e below (T3.setTop (mkF m 15 #[.val (.int (3 : Int32)), .val (.ref h0.size), .val (.int (10 : Int32)), .val (.int (((0 : Int32) + (1 : Int32)) + (1 : Int32))), .val (.ref w1)] [(.ref h0.size)])) _
    refine XS.iloadN X3.here hx rfl (hb hby d1_15) rfl ?_
    show Steps p.tables e below (T3.setTop (mkF m 16 #[.val (.int (3 : Int32)), .val (.ref h0.size), .val (.int (10 : Int32)), .val (.int (((0 : Int32) + (1 : Int32)) + (1 : Int32))), .val (.ref w1)] [(.int (((0 : Int32) + (1 : Int32)) + (1 : Int32))), (.ref h0.size)])) _
    refine X3.aaload hx (j := (((0 : Int32) + (1 : Int32)) + (1 : Int32))) (v := (.ref w2)) (by rw [e3]; exact Ar.1) (State.isArrayOf_alike hZ.alike Ar.2.1) rfl Ar.2.2 (inb_of Sz ⟨by decide, by decide⟩) (H.at (inb_of Sz ⟨by decide, by decide⟩) rfl) (g := (mkF m 16 #[.val (.int (3 : Int32)), .val (.ref h0.size), .val (.int (10 : Int32)), .val (.int (((0 : Int32) + (1 : Int32)) + (1 : Int32))), .val (.ref w1)] [(.int (((0 : Int32) + (1 : Int32)) + (1 : Int32))), (.ref h0.size)])) rfl rfl (hb hby d1_16) _ ?_
    show Steps p.tables e below (T3.setTop (mkF m 17 #[.val (.int (3 : Int32)), .val (.ref h0.size), .val (.int (10 : Int32)), .val (.int (((0 : Int32) + (1 : Int32)) + (1 : Int32))), .val (.ref w1)] [(.ref w2)])) _
    refine XS.astore X3.here hx rfl (hb hby d1_17) rfl rfl (l' := #[.val (.int (3 : Int32)), .val (.ref h0.size), .val (.int (10 : Int32)), .val (.int (((0 : Int32) + (1 : Int32)) + (1 : Int32))), .val (.ref w2)]) rfl ?_
    show Steps p.tables e below (T3.setTop (mkF m 19 #[.val (.int (3 : Int32)), .val (.ref h0.size), .val (.int (10 : Int32)), .val (.int (((0 : Int32) + (1 : Int32)) + (1 : Int32))), .val (.ref w2)] [])) _
    refine XS.aload X3.here hx rfl (hb hby d1_19) rfl rfl ?_
    show Steps p.tables e below (T3.setTop (mkF m 21 #[.val (.int (3 : Int32)), .val (.ref h0.size), .val (.int (10 : Int32)), .val (.int (((0 : Int32) + (1 : Int32)) + (1 : Int32))), .val (.ref w2)] [(.ref w2)])) _
    refine st4 _ ?_
    show Steps p.tables e below (T4.setTop (mkF m 24 #[.val (.int (3 : Int32)), .val (.ref h0.size), .val (.int (10 : Int32)), .val (.int (((0 : Int32) + (1 : Int32)) + (1 : Int32))), .val (.ref w2)] [(.int (3 : Int32))])) _
    refine XS.iloadN X4.here hx rfl (hb hby d1_24) rfl ?_
    show Steps p.tables e below (T4.setTop (mkF m 25 #[.val (.int (3 : Int32)), .val (.ref h0.size), .val (.int (10 : Int32)), .val (.int (((0 : Int32) + (1 : Int32)) + (1 : Int32))), .val (.ref w2)] [(.int (3 : Int32)), (.int (3 : Int32))])) _
    refine XS.icmpNo X4.here hx rfl (hb hby d1_25) rfl (teq (by decide +kernel)).2 ?_
    show Steps p.tables e below (T4.setTop (mkF m 28 #[.val (.int (3 : Int32)), .val (.ref h0.size), .val (.int (10 : Int32)), .val (.int (((0 : Int32) + (1 : Int32)) + (1 : Int32))), .val (.ref w2)] [])) _
    refine XS.aload X4.here hx rfl (hb hby d1_28) rfl rfl ?_
    show Steps p.tables e below (T4.setTop (mkF m 30 #[.val (.int (3 : Int32)), .val (.ref h0.size), .val (.int (10 : Int32)), .val (.int (((0 : Int32) + (1 : Int32)) + (1 : Int32))), .val (.ref w2)] [(.ref w2)])) _
    jvm_step X4.here [X4.here.top, hx, (hb hby d1_30), X4.method', Bd.returns, Value.isRef, FieldType.isReference]
    first | (intro acts; rw [hr _ acts rfl rfl rfl]) | rw [hr _ _ rfl rfl rfl]
    exact Steps.refl _
  · show QO_3 Z vA kA w0 w1 w2 w3 w4 w5 w6 w7 w8 w9 h0 n0 _ T4.heap _
    rw [e4]
    exact ⟨rfl, N1, Ex⟩
def QO_4 (Z : State) (vA : Addr) (kA : ClassId) (w0 w1 w2 w3 w4 w5 w6 w7 w8 w9 : Addr) (h0 : Heap) (n0 : Nat) (v : Option Value) (h : Heap) (L : List Loc) : Prop := v = some (.ref w3) ∧ Fr n0 L ∧ Ext h0 h
set_option maxRecDepth 65536 in
set_option maxHeartbeats 40000000 in
theorem rmO_4 (l : Launch) (Z : State) (a0 : Array Value) (hw : ∀ d ∈ tables_1, d.before a0 Z = true) (ws : List Jvm.Cond) (vA : Addr) (kA : ClassId) (w0 w1 w2 w3 w4 w5 w6 w7 w8 w9 : Addr) (h0 : Heap) (n0 : Nat) (Z0 : n0 ≤ h0.size) (SV : Sta Z h0 "com/example/concordat/concordat/log/LogRecord$Kind" "$VALUES" "[Lcom/example/concordat/concordat/log/LogRecord$Kind;" (.ref vA)) (AV : Arv Z h0 vA kA (.object "com/example/concordat/concordat/log/LogRecord$Kind") 10 [.ref w0, .ref w1, .ref w2, .ref w3, .ref w4, .ref w5, .ref w6, .ref w7, .ref w8, .ref w9] .null) (EV : Exa Z h0 vA "[Lcom/example/concordat/concordat/log/LogRecord$Kind;") (FC0 : Fld Z h0 w0 "com/example/concordat/concordat/log/LogRecord$Kind" "code" "B" (.int (1 : Int32))) (FC1 : Fld Z h0 w1 "com/example/concordat/concordat/log/LogRecord$Kind" "code" "B" (.int (2 : Int32))) (FC2 : Fld Z h0 w2 "com/example/concordat/concordat/log/LogRecord$Kind" "code" "B" (.int (3 : Int32))) (FC3 : Fld Z h0 w3 "com/example/concordat/concordat/log/LogRecord$Kind" "code" "B" (.int (4 : Int32))) (FC4 : Fld Z h0 w4 "com/example/concordat/concordat/log/LogRecord$Kind" "code" "B" (.int (5 : Int32))) (FC5 : Fld Z h0 w5 "com/example/concordat/concordat/log/LogRecord$Kind" "code" "B" (.int (6 : Int32))) (FC6 : Fld Z h0 w6 "com/example/concordat/concordat/log/LogRecord$Kind" "code" "B" (.int (7 : Int32))) (FC7 : Fld Z h0 w7 "com/example/concordat/concordat/log/LogRecord$Kind" "code" "B" (.int (8 : Int32))) (FC8 : Fld Z h0 w8 "com/example/concordat/concordat/log/LogRecord$Kind" "code" "B" (.int (9 : Int32))) (FC9 : Fld Z h0 w9 "com/example/concordat/concordat/log/LogRecord$Kind" "code" "B" (.int (10 : Int32))) :
    MetFree l (⟨"com/example/concordat/concordat/log/LogRecord$Kind", "of", "(B)Lcom/example/concordat/concordat/log/LogRecord$Kind;"⟩ : MethodName) (head1 (Jvm.Cond.code (⟨"com/example/concordat/concordat/log/LogRecord$Kind", "of", "(B)Lcom/example/concordat/concordat/log/LogRecord$Kind;"⟩ : MethodName) prog_45_method_4_code 5 (some (.object "com/example/concordat/concordat/log/LogRecord$Kind")) :: ws) ({ frames := 2, cells := 1, slots := 10, locals := 25 } : Room)) (fun a U => a = #[(.int (4 : Int32))] ∧ Z.Warmed39 U.vm ∧ U.heap = h0) (fun _ _ _ _ _ => True) (fun _ U o U' => ∃ v L, o = .returned v ∧ QO_4 Z vA kA w0 w1 w2 w3 w4 w5 w6 w7 w8 w9 h0 n0 v U'.heap L ∧ FrameEnd U o U' L ({ frames := 2, cells := 1, slots := 10, locals := 25 } : Room).cells ({ frames := 2, cells := 1, slots := 10, locals := 25 } : Room).slots) := by
  refine MetFree.of_bodySF (plainFor_of_name pn_LogRecord_Kind) hisR ?_
  intro p e s m args below meth c s₁ Bd hml0 hP hK
  obtain ⟨rfl, hZ, hh⟩ := hP
  have hx := Bd.exec
  have hby := Bd.bytes
  have hml : c.maxLocals = 5 := hml0
  have hown : s.vm.findClass "com/example/concordat/concordat/log/LogRecord$Kind" = some m.cls := findClass_of_methodNamed Bd.named
  have hnm := (name_of_methodNamed Bd.named Bd.method).1
  have X0 : Stand p l e ({ frames := 2, cells := 1, slots := 10, locals := 25 } : Room) s m #[(.int (4 : Int32))] below meth c s₁ [] 0 0 := Stand.of_body Bd
  have e0 : s₁.heap = h0 := by rw [← hh, Bd.state]; rfl
  have N0 := Fr.nil n0
  have pre0 : ∀ t, Steps p.tables e below (s₁.setTop (mkF m 0 #[.val (.int (4 : Int32)), .unset, .unset, .unset, .unset] [])) t → Steps p.tables e below (s₁.setTop (entryFrame m #[(.int (4 : Int32))] 5)) t := fun t k => castTop (ef_1 m (4 : Int32)) k
  obtain ⟨_, _, ⟨T1, L1, k1, n1⟩, -, X1, ⟨Lc1, hQ1, l1, y1, z1⟩, st1⟩ := Jvm.LawKit.callS X0 hx (y := (⟨"com/example/concordat/concordat/log/LogRecord$Kind", "values", "()[Lcom/example/concordat/concordat/log/LogRecord$Kind;"⟩ : MethodName)) hown (mvT hZ (hw _ (List.mem_of_getElem? (i := 4) rfl))) (mvT hZ (hw _ (List.mem_of_getElem? (i := 5) rfl))) (mvT hZ (hw _ (List.mem_of_getElem? (i := 2) rfl))) (mvT hZ (hw _ (List.mem_of_getElem? (i := 6) rfl))) (by decide) (backOf (W := 0) (rmV l Z a0 hw [] vA kA w0 w1 w2 w3 w4 w5 w6 w7 w8 w9 h0 n0 Z0 SV AV EV) hZ (hw _ (List.mem_of_getElem? (i := 6) rfl)) (hw _ (List.mem_of_getElem? (i := 2) rfl)) (by decide) (by decide)) (g := (mkF m 0 #[.val (.int (4 : Int32)), .unset, .unset, .unset, .unset] [])) rfl (by rw [hml]; rfl) (argsL := []) (rest := []) (lenOf pd_0 rfl) rfl (by show 2 * 0 + _ ≤ _; exact Nat.le_of_eq rfl) (hb hby d1_0) (fun _ _ => ⟨rfl, e0, (by decide : 0 + 1 ≤ _), (by decide : 0 + 10 ≤ _)⟩)
  dsimp only [Pt.U, Pt.locs, Pt.cells, Pt.slots] at X1 l1 y1 z1 st1 hQ1
  subst l1 y1 z1
  obtain ⟨rfl, N1q, Ex, Av⟩ := hQ1
  have N1 := Fr.app N0 N1q
  obtain ⟨cl, Ar, -, Sz, Mz, H, -⟩ := Av
  obtain ⟨T2, X2, e2, st2⟩ := getF X1 hx hZ hown (host := "") (Or.inl (hw _ (List.mem_of_getElem? (i := 29) rfl))) Via.refl rfl (FC0.ext Ex) (g := (mkF m 21 #[.val (.int (4 : Int32)), .val (.ref h0.size), .val (.int (10 : Int32)), .val (.int (0 : Int32)), .val (.ref w0)] [(.ref w0)])) rfl rfl (hb hby d1_21)
  obtain ⟨T3, X3, e3, st3⟩ := getF X2 hx hZ hown (host := "") (Or.inl (hw _ (List.mem_of_getElem? (i := 29) rfl))) Via.refl e2 (FC1.ext Ex) (g := (mkF m 21 #[.val (.int (4 : Int32)), .val (.ref h0.size), .val (.int (10 : Int32)), .val (.int ((0 : Int32) + (1 : Int32))), .val (.ref w1)] [(.ref w1)])) rfl rfl (hb hby d1_21)
  obtain ⟨T4, X4, e4, st4⟩ := getF X3 hx hZ hown (host := "") (Or.inl (hw _ (List.mem_of_getElem? (i := 29) rfl))) Via.refl e3 (FC2.ext Ex) (g := (mkF m 21 #[.val (.int (4 : Int32)), .val (.ref h0.size), .val (.int (10 : Int32)), .val (.int (((0 : Int32) + (1 : Int32)) + (1 : Int32))), .val (.ref w2)] [(.ref w2)])) rfl rfl (hb hby d1_21)
  obtain ⟨T5, X5, e5, st5⟩ := getF X4 hx hZ hown (host := "") (Or.inl (hw _ (List.mem_of_getElem? (i := 29) rfl))) Via.refl e4 (FC3.ext Ex) (g := (mkF m 21 #[.val (.int (4 : Int32)), .val (.ref h0.size), .val (.int (10 : Int32)), .val (.int ((((0 : Int32) + (1 : Int32)) + (1 : Int32)) + (1 : Int32))), .val (.ref w3)] [(.ref w3)])) rfl rfl (hb hby d1_21)
  obtain ⟨fs, hr, hrun, hended, hW, hsame⟩ := X5.leave (v := some (.ref w3)) (fun h => by rw [Bd.returns] at h; cases h)
  refine ⟨_, _, pre0 _ ?_, hrun, hended, _, _, rfl, ?_, ⟨_, rfl⟩, hW, hsame.mono (by decide) (by decide)⟩
  · show Steps p.tables e below (s₁.setTop (mkF m 0 #[.val (.int (4 : Int32)), .unset, .unset, .unset, .unset] [])) _
    refine st1 _ ?_
    show Steps p.tables e below (T1.setTop (mkF m 3 #[.val (.int (4 : Int32)), .unset, .unset, .unset, .unset] [(.ref h0.size)])) _
    refine XS.astoreN X1.here hx rfl (hb hby d1_3) rfl rfl (l' := #[.val (.int (4 : Int32)), .val (.ref h0.size), .unset, .unset, .unset]) rfl ?_
    show Steps p.tables e below (T1.setTop (mkF m 4 #[.val (.int (4 : Int32)), .val (.ref h0.size), .unset, .unset, .unset] [])) _
    refine XS.aloadN X1.here hx rfl (hb hby d1_4) rfl rfl ?_
    show Steps p.tables e below (T1.setTop (mkF m 5 #[.val (.int (4 : Int32)), .val (.ref h0.size), .unset, .unset, .unset] [(.ref h0.size)])) _
    refine X1.arraylength hx Ar.1 (State.isArrayOf_alike hZ.alike Ar.2.1) (g := (mkF m 5 #[.val (.int (4 : Int32)), .val (.ref h0.size), .unset, .unset, .unset] [(.ref h0.size)])) rfl rfl (hb hby d1_5) _ ?_
    rw [len_of Sz Mz]
    show Steps p.tables e below (T1.setTop (mkF m 6 #[.val (.int (4 : Int32)), .val (.ref h0.size), .unset, .unset, .unset] [(.int (10 : Int32))])) _
    refine XS.istoreN X1.here hx rfl (hb hby d1_6) rfl (l' := #[.val (.int (4 : Int32)), .val (.ref h0.size), .val (.int (10 : Int32)), .unset, .unset]) rfl ?_
    show Steps p.tables e below (T1.setTop (mkF m 7 #[.val (.int (4 : Int32)), .val (.ref h0.size), .val (.int (10 : Int32)), .unset, .unset] [])) _
    refine XS.iconst X1.here hx rfl (hb hby d1_7) ?_
    show Steps p.tables e below (T1.setTop (mkF m 8 #[.val (.int (4 : Int32)), .val (.ref h0.size), .val (.int (10 : Int32)), .unset, .unset] [(.int (0 : Int32))])) _
    refine XS.istoreN X1.here hx rfl (hb hby d1_8) rfl (l' := #[.val (.int (4 : Int32)), .val (.ref h0.size), .val (.int (10 : Int32)), .val (.int (0 : Int32)), .unset]) rfl ?_
    show Steps p.tables e below (T1.setTop (mkF m 9 #[.val (.int (4 : Int32)), .val (.ref h0.size), .val (.int (10 : Int32)), .val (.int (0 : Int32)), .unset] [])) _
    refine XS.iloadN X1.here hx rfl (hb hby d1_9) rfl ?_
    show Steps p.tables e below (T1.setTop (mkF m 10 #[.val (.int (4 : Int32)), .val (.ref h0.size), .val (.int (10 : Int32)), .val (.int (0 : Int32)), .unset] [(.int (0 : Int32))])) _
    refine XS.iloadN X1.here hx rfl (hb hby d1_10) rfl ?_
    show Steps p.tables e below (T1.setTop (mkF m 11 #[.val (.int (4 : Int32)), .val (.ref h0.size), .val (.int (10 : Int32)), .val (.int (0 : Int32)), .unset] [(.int (10 : Int32)), (.int (0 : Int32))])) _
    refine XS.icmpNo X1.here hx rfl (hb hby d1_11) rfl (tlt (by decide +kernel)).2.1 ?_
    show Steps p.tables e below (T1.setTop (mkF m 14 #[.val (.int (4 : Int32)), .val (.ref h0.size), .val (.int (10 : Int32)), .val (.int (0 : Int32)), .unset] [])) _
    refine XS.aloadN X1.here hx rfl (hb hby d1_14) rfl rfl ?_
    show Steps p.tables e below (T1.setTop (mkF m 15 #[.val (.int (4 : Int32)), .val (.ref h0.size), .val (.int (10 : Int32)), .val (.int (0 : Int32)), .unset] [(.ref h0.size)])) _
    refine XS.iloadN X1.here hx rfl (hb hby d1_15) rfl ?_
    show Steps p.tables e below (T1.setTop (mkF m 16 #[.val (.int (4 : Int32)), .val (.ref h0.size), .val (.int (10 : Int32)), .val (.int (0 : Int32)), .unset] [(.int (0 : Int32)), (.ref h0.size)])) _
    refine X1.aaload hx (j := (0 : Int32)) (v := (.ref w0)) Ar.1 (State.isArrayOf_alike hZ.alike Ar.2.1) rfl Ar.2.2 (inb_of Sz ⟨by decide, by decide⟩) (H.at (inb_of Sz ⟨by decide, by decide⟩) rfl) (g := (mkF m 16 #[.val (.int (4 : Int32)), .val (.ref h0.size), .val (.int (10 : Int32)), .val (.int (0 : Int32)), .unset] [(.int (0 : Int32)), (.ref h0.size)])) rfl rfl (hb hby d1_16) _ ?_
    show Steps p.tables e below (T1.setTop (mkF m 17 #[.val (.int (4 : Int32)), .val (.ref h0.size), .val (.int (10 : Int32)), .val (.int (0 : Int32)), .unset] [(.ref w0)])) _
    refine XS.astore X1.here hx rfl (hb hby d1_17) rfl rfl (l' := #[.val (.int (4 : Int32)), .val (.ref h0.size), .val (.int (10 : Int32)), .val (.int (0 : Int32)), .val (.ref w0)]) rfl ?_
    show Steps p.tables e below (T1.setTop (mkF m 19 #[.val (.int (4 : Int32)), .val (.ref h0.size), .val (.int (10 : Int32)), .val (.int (0 : Int32)), .val (.ref w0)] [])) _
    refine XS.aload X1.here hx rfl (hb hby d1_19) rfl rfl ?_
    show Steps p.tables e below (T1.setTop (mkF m 21 #[.val (.int (4 : Int32)), .val (.ref h0.size), .val (.int (10 : Int32)), .val (.int (0 : Int32)), .val (.ref w0)] [(.ref w0)])) _
    refine st2 _ ?_
    show Steps p.tables e below (T2.setTop (mkF m 24 #[.val (.int (4 : Int32)), .val (.ref h0.size), .val (.int (10 : Int32)), .val (.int (0 : Int32)), .val (.ref w0)] [(.int (1 : Int32))])) _
    refine XS.iloadN X2.here hx rfl (hb hby d1_24) rfl ?_
    show Steps p.tables e below (T2.setTop (mkF m 25 #[.val (.int (4 : Int32)), .val (.ref h0.size), .val (.int (10 : Int32)), .val (.int (0 : Int32)), .val (.ref w0)] [(.int (4 : Int32)), (.int (1 : Int32))])) _
    refine XS.icmpYes X2.here hx rfl (pc0 := 25) (pc' := 31) rfl (hb hby d1_25) rfl (feq (by decide +kernel)).2 (by decide) (by decide) ?_
    show Steps p.tables e below (T2.setTop (mkF m 31 #[.val (.int (4 : Int32)), .val (.ref h0.size), .val (.int (10 : Int32)), .val (.int (0 : Int32)), .val (.ref w0)] [])) _
    refine XS.iinc X2.here hx rfl (hb hby d1_31) rfl (l' := #[.val (.int (4 : Int32)), .val (.ref h0.size), .val (.int (10 : Int32)), .val (.int ((0 : Int32) + (1 : Int32))), .val (.ref w0)]) rfl ?_
    show Steps p.tables e below (T2.setTop (mkF m 34 #[.val (.int (4 : Int32)), .val (.ref h0.size), .val (.int (10 : Int32)), .val (.int ((0 : Int32) + (1 : Int32))), .val (.ref w0)] [])) _
    refine XS.goto X2.here hx rfl (pc0 := 34) (pc' := 9) rfl (hb hby d1_34) (by decide) (by decide) ?_
    show Steps p.tables e below (T2.setTop (mkF m 9 #[.val (.int (4 : Int32)), .val (.ref h0.size), .val (.int (10 : Int32)), .val (.int ((0 : Int32) + (1 : Int32))), .val (.ref w0)] [])) _
    refine XS.iloadN X2.here hx rfl (hb hby d1_9) rfl ?_
    show Steps p.tables e below (T2.setTop (mkF m 10 #[.val (.int (4 : Int32)), .val (.ref h0.size), .val (.int (10 : Int32)), .val (.int ((0 : Int32) + (1 : Int32))), .val (.ref w0)] [(.int ((0 : Int32) + (1 : Int32)))])) _
    refine XS.iloadN X2.here hx rfl (hb hby d1_10) rfl ?_
    show Steps p.tables e below (T2.setTop (mkF m 11 #[.val (.int (4 : Int32)), .val (.ref h0.size), .val (.int (10 : Int32)), .val (.int ((0 : Int32) + (1 : Int32))), .val (.ref w0)] [(.int (10 : Int32)), (.int ((0 : Int32) + (1 : Int32)))])) _
    refine XS.icmpNo X2.here hx rfl (hb hby d1_11) rfl (tlt (by decide +kernel)).2.1 ?_
    show Steps p.tables e below (T2.setTop (mkF m 14 #[.val (.int (4 : Int32)), .val (.ref h0.size), .val (.int (10 : Int32)), .val (.int ((0 : Int32) + (1 : Int32))), .val (.ref w0)] [])) _
    refine XS.aloadN X2.here hx rfl (hb hby d1_14) rfl rfl ?_
    show Steps p.tables e below (T2.setTop (mkF m 15 #[.val (.int (4 : Int32)), .val (.ref h0.size), .val (.int (10 : Int32)), .val (.int ((0 : Int32) + (1 : Int32))), .val (.ref w0)] [(.ref h0.size)])) _
    refine XS.iloadN X2.here hx rfl (hb hby d1_15) rfl ?_
    show Steps p.tables e below (T2.setTop (mkF m 16 #[.val (.int (4 : Int32)), .val (.ref h0.size), .val (.int (10 : Int32)), .val (.int ((0 : Int32) + (1 : Int32))), .val (.ref w0)] [(.int ((0 : Int32) + (1 : Int32))), (.ref h0.size)])) _
    refine X2.aaload hx (j := ((0 : Int32) + (1 : Int32))) (v := (.ref w1)) (by rw [e2]; exact Ar.1) (State.isArrayOf_alike hZ.alike Ar.2.1) rfl Ar.2.2 (inb_of Sz ⟨by decide, by decide⟩) (H.at (inb_of Sz ⟨by decide, by decide⟩) rfl) (g := (mkF m 16 #[.val (.int (4 : Int32)), .val (.ref h0.size), .val (.int (10 : Int32)), .val (.int ((0 : Int32) + (1 : Int32))), .val (.ref w0)] [(.int ((0 : Int32) + (1 : Int32))), (.ref h0.size)])) rfl rfl (hb hby d1_16) _ ?_
    show Steps p.tables e below (T2.setTop (mkF m 17 #[.val (.int (4 : Int32)), .val (.ref h0.size), .val (.int (10 : Int32)), .val (.int ((0 : Int32) + (1 : Int32))), .val (.ref w0)] [(.ref w1)])) _
    refine XS.astore X2.here hx rfl (hb hby d1_17) rfl rfl (l' := #[.val (.int (4 : Int32)), .val (.ref h0.size), .val (.int (10 : Int32)), .val (.int ((0 : Int32) + (1 : Int32))), .val (.ref w1)]) rfl ?_
    show Steps p.tables e below (T2.setTop (mkF m 19 #[.val (.int (4 : Int32)), .val (.ref h0.size), .val (.int (10 : Int32)), .val (.int ((0 : Int32) + (1 : Int32))), .val (.ref w1)] [])) _
    refine XS.aload X2.here hx rfl (hb hby d1_19) rfl rfl ?_
    show Steps p.tables e below (T2.setTop (mkF m 21 #[.val (.int (4 : Int32)), .val (.ref h0.size), .val (.int (10 : Int32)), .val (.int ((0 : Int32) + (1 : Int32))), .val (.ref w1)] [(.ref w1)])) _
    refine st3 _ ?_
    show Steps p.tables e below (T3.setTop (mkF m 24 #[.val (.int (4 : Int32)), .val (.ref h0.size), .val (.int (10 : Int32)), .val (.int ((0 : Int32) + (1 : Int32))), .val (.ref w1)] [(.int (2 : Int32))])) _
    refine XS.iloadN X3.here hx rfl (hb hby d1_24) rfl ?_
    show Steps p.tables e below (T3.setTop (mkF m 25 #[.val (.int (4 : Int32)), .val (.ref h0.size), .val (.int (10 : Int32)), .val (.int ((0 : Int32) + (1 : Int32))), .val (.ref w1)] [(.int (4 : Int32)), (.int (2 : Int32))])) _
    refine XS.icmpYes X3.here hx rfl (pc0 := 25) (pc' := 31) rfl (hb hby d1_25) rfl (feq (by decide +kernel)).2 (by decide) (by decide) ?_
    show Steps p.tables e below (T3.setTop (mkF m 31 #[.val (.int (4 : Int32)), .val (.ref h0.size), .val (.int (10 : Int32)), .val (.int ((0 : Int32) + (1 : Int32))), .val (.ref w1)] [])) _
    refine XS.iinc X3.here hx rfl (hb hby d1_31) rfl (l' := #[.val (.int (4 : Int32)), .val (.ref h0.size), .val (.int (10 : Int32)), .val (.int (((0 : Int32) + (1 : Int32)) + (1 : Int32))), .val (.ref w1)]) rfl ?_
    show Steps p.tables e below (T3.setTop (mkF m 34 #[.val (.int (4 : Int32)), .val (.ref h0.size), .val (.int (10 : Int32)), .val (.int (((0 : Int32) + (1 : Int32)) + (1 : Int32))), .val (.ref w1)] [])) _
    refine XS.goto X3.here hx rfl (pc0 := 34) (pc' := 9) rfl (hb hby d1_34) (by decide) (by decide) ?_
    show Steps p.tables e below (T3.setTop (mkF m 9 #[.val (.int (4 : Int32)), .val (.ref h0.size), .val (.int (10 : Int32)), .val (.int (((0 : Int32) + (1 : Int32)) + (1 : Int32))), .val (.ref w1)] [])) _
    refine XS.iloadN X3.here hx rfl (hb hby d1_9) rfl ?_
    show Steps p.tables e below (T3.setTop (mkF m 10 #[.val (.int (4 : Int32)), .val (.ref h0.size), .val (.int (10 : Int32)), .val (.int (((0 : Int32) + (1 : Int32)) + (1 : Int32))), .val (.ref w1)] [(.int (((0 : Int32) + (1 : Int32)) + (1 : Int32)))])) _
    refine XS.iloadN X3.here hx rfl (hb hby d1_10) rfl ?_
    show Steps p.tables e below (T3.setTop (mkF m 11 #[.val (.int (4 : Int32)), .val (.ref h0.size), .val (.int (10 : Int32)), .val (.int (((0 : Int32) + (1 : Int32)) + (1 : Int32))), .val (.ref w1)] [(.int (10 : Int32)), (.int (((0 : Int32) + (1 : Int32)) + (1 : Int32)))])) _
    refine XS.icmpNo X3.here hx rfl (hb hby d1_11) rfl (tlt (by decide +kernel)).2.1 ?_
    show Steps p.tables e below (T3.setTop (mkF m 14 #[.val (.int (4 : Int32)), .val (.ref h0.size), .val (.int (10 : Int32)), .val (.int (((0 : Int32) + (1 : Int32)) + (1 : Int32))), .val (.ref w1)] [])) _
    refine XS.aloadN X3.here hx rfl (hb hby d1_14) rfl rfl ?_
    show Steps p.tables e below (T3.setTop (mkF m 15 #[.val (.int (4 : Int32)), .val (.ref h0.size), .val (.int (10 : Int32)), .val (.int (((0 : Int32) + (1 : Int32)) + (1 : Int32))), .val (.ref w1)] [(.ref h0.size)])) _
    refine XS.iloadN X3.here hx rfl (hb hby d1_15) rfl ?_
    show Steps p.tables e below (T3.setTop (mkF m 16 #[.val (.int (4 : Int32)), .val (.ref h0.size), .val (.int (10 : Int32)), .val (.int (((0 : Int32) + (1 : Int32)) + (1 : Int32))), .val (.ref w1)] [(.int (((0 : Int32) + (1 : Int32)) + (1 : Int32))), (.ref h0.size)])) _
    refine X3.aaload hx (j := (((0 : Int32) + (1 : Int32)) + (1 : Int32))) (v := (.ref w2)) (by rw [e3]; exact Ar.1) (State.isArrayOf_alike hZ.alike Ar.2.1) rfl Ar.2.2 (inb_of Sz ⟨by decide, by decide⟩) (H.at (inb_of Sz ⟨by decide, by decide⟩) rfl) (g := (mkF m 16 #[.val (.int (4 : Int32)), .val (.ref h0.size), .val (.int (10 : Int32)), .val (.int (((0 : Int32) + (1 : Int32)) + (1 : Int32))), .val (.ref w1)] [(.int (((0 : Int32) + (1 : Int32)) + (1 : Int32))), (.ref h0.size)])) rfl rfl (hb hby d1_16) _ ?_
    show Steps p.tables e below (T3.setTop (mkF m 17 #[.val (.int (4 : Int32)), .val (.ref h0.size), .val (.int (10 : Int32)), .val (.int (((0 : Int32) + (1 : Int32)) + (1 : Int32))), .val (.ref w1)] [(.ref w2)])) _
    refine XS.astore X3.here hx rfl (hb hby d1_17) rfl rfl (l' := #[.val (.int (4 : Int32)), .val (.ref h0.size), .val (.int (10 : Int32)), .val (.int (((0 : Int32) + (1 : Int32)) + (1 : Int32))), .val (.ref w2)]) rfl ?_
    show Steps p.tables e below (T3.setTop (mkF m 19 #[.val (.int (4 : Int32)), .val (.ref h0.size), .val (.int (10 : Int32)), .val (.int (((0 : Int32) + (1 : Int32)) + (1 : Int32))), .val (.ref w2)] [])) _
    refine XS.aload X3.here hx rfl (hb hby d1_19) rfl rfl ?_
    show Steps p.tables e below (T3.setTop (mkF m 21 #[.val (.int (4 : Int32)), .val (.ref h0.size), .val (.int (10 : Int32)), .val (.int (((0 : Int32) + (1 : Int32)) + (1 : Int32))), .val (.ref w2)] [(.ref w2)])) _
    refine st4 _ ?_
    show Steps p.tables e below (T4.setTop (mkF m 24 #[.val (.int (4 : Int32)), .val (.ref h0.size), .val (.int (10 : Int32)), .val (.int (((0 : Int32) + (1 : Int32)) + (1 : Int32))), .val (.ref w2)] [(.int (3 : Int32))])) _
    refine XS.iloadN X4.here hx rfl (hb hby d1_24) rfl ?_
    show Steps p.tables e below (T4.setTop (mkF m 25 #[.val (.int (4 : Int32)), .val (.ref h0.size), .val (.int (10 : Int32)), .val (.int (((0 : Int32) + (1 : Int32)) + (1 : Int32))), .val (.ref w2)] [(.int (4 : Int32)), (.int (3 : Int32))])) _
    refine XS.icmpYes X4.here hx rfl (pc0 := 25) (pc' := 31) rfl (hb hby d1_25) rfl (feq (by decide +kernel)).2 (by decide) (by decide) ?_
    show Steps p.tables e below (T4.setTop (mkF m 31 #[.val (.int (4 : Int32)), .val (.ref h0.size), .val (.int (10 : Int32)), .val (.int (((0 : Int32) + (1 : Int32)) + (1 : Int32))), .val (.ref w2)] [])) _
    refine XS.iinc X4.here hx rfl (hb hby d1_31) rfl (l' := #[.val (.int (4 : Int32)), .val (.ref h0.size), .val (.int (10 : Int32)), .val (.int ((((0 : Int32) + (1 : Int32)) + (1 : Int32)) + (1 : Int32))), .val (.ref w2)]) rfl ?_
    show Steps p.tables e below (T4.setTop (mkF m 34 #[.val (.int (4 : Int32)), .val (.ref h0.size), .val (.int (10 : Int32)), .val (.int ((((0 : Int32) + (1 : Int32)) + (1 : Int32)) + (1 : Int32))), .val (.ref w2)] [])) _
    refine XS.goto X4.here hx rfl (pc0 := 34) (pc' := 9) rfl (hb hby d1_34) (by decide) (by decide) ?_
    show Steps p.tables e below (T4.setTop (mkF m 9 #[.val (.int (4 : Int32)), .val (.ref h0.size), .val (.int (10 : Int32)), .val (.int ((((0 : Int32) + (1 : Int32)) + (1 : Int32)) + (1 : Int32))), .val (.ref w2)] [])) _
    refine XS.iloadN X4.here hx rfl (hb hby d1_9) rfl ?_
    show Steps p.tables e below (T4.setTop (mkF m 10 #[.val (.int (4 : Int32)), .val (.ref h0.size), .val (.int (10 : Int32)), .val (.int ((((0 : Int32) + (1 : Int32)) + (1 : Int32)) + (1 : Int32))), .val (.ref w2)] [(.int ((((0 : Int32) + (1 : Int32)) + (1 : Int32)) + (1 : Int32)))])) _
    refine XS.iloadN X4.here hx rfl (hb hby d1_10) rfl ?_
    show Steps p.tables e below (T4.setTop (mkF m 11 #[.val (.int (4 : Int32)), .val (.ref h0.size), .val (.int (10 : Int32)), .val (.int ((((0 : Int32) + (1 : Int32)) + (1 : Int32)) + (1 : Int32))), .val (.ref w2)] [(.int (10 : Int32)), (.int ((((0 : Int32) + (1 : Int32)) + (1 : Int32)) + (1 : Int32)))])) _
    refine XS.icmpNo X4.here hx rfl (hb hby d1_11) rfl (tlt (by decide +kernel)).2.1 ?_
    show Steps p.tables e below (T4.setTop (mkF m 14 #[.val (.int (4 : Int32)), .val (.ref h0.size), .val (.int (10 : Int32)), .val (.int ((((0 : Int32) + (1 : Int32)) + (1 : Int32)) + (1 : Int32))), .val (.ref w2)] [])) _
    refine XS.aloadN X4.here hx rfl (hb hby d1_14) rfl rfl ?_
    show Steps p.tables e below (T4.setTop (mkF m 15 #[.val (.int (4 : Int32)), .val (.ref h0.size), .val (.int (10 : Int32)), .val (.int ((((0 : Int32) + (1 : Int32)) + (1 : Int32)) + (1 : Int32))), .val (.ref w2)] [(.ref h0.size)])) _
    refine XS.iloadN X4.here hx rfl (hb hby d1_15) rfl ?_
    show Steps p.tables e below (T4.setTop (mkF m 16 #[.val (.int (4 : Int32)), .val (.ref h0.size), .val (.int (10 : Int32)), .val (.int ((((0 : Int32) + (1 : Int32)) + (1 : Int32)) + (1 : Int32))), .val (.ref w2)] [(.int ((((0 : Int32) + (1 : Int32)) + (1 : Int32)) + (1 : Int32))), (.ref h0.size)])) _
    refine X4.aaload hx (j := ((((0 : Int32) + (1 : Int32)) + (1 : Int32)) + (1 : Int32))) (v := (.ref w3)) (by rw [e4]; exact Ar.1) (State.isArrayOf_alike hZ.alike Ar.2.1) rfl Ar.2.2 (inb_of Sz ⟨by decide, by decide⟩) (H.at (inb_of Sz ⟨by decide, by decide⟩) rfl) (g := (mkF m 16 #[.val (.int (4 : Int32)), .val (.ref h0.size), .val (.int (10 : Int32)), .val (.int ((((0 : Int32) + (1 : Int32)) + (1 : Int32)) + (1 : Int32))), .val (.ref w2)] [(.int ((((0 : Int32) + (1 : Int32)) + (1 : Int32)) + (1 : Int32))), (.ref h0.size)])) rfl rfl (hb hby d1_16) _ ?_
    show Steps p.tables e below (T4.setTop (mkF m 17 #[.val (.int (4 : Int32)), .val (.ref h0.size), .val (.int (10 : Int32)), .val (.int ((((0 : Int32) + (1 : Int32)) + (1 : Int32)) + (1 : Int32))), .val (.ref w2)] [(.ref w3)])) _
    refine XS.astore X4.here hx rfl (hb hby d1_17) rfl rfl (l' := #[.val (.int (4 : Int32)), .val (.ref h0.size), .val (.int (10 : Int32)), .val (.int ((((0 : Int32) + (1 : Int32)) + (1 : Int32)) + (1 : Int32))), .val (.ref w3)]) rfl ?_
    show Steps p.tables e below (T4.setTop (mkF m 19 #[.val (.int (4 : Int32)), .val (.ref h0.size), .val (.int (10 : Int32)), .val (.int ((((0 : Int32) + (1 : Int32)) + (1 : Int32)) + (1 : Int32))), .val (.ref w3)] [])) _
    refine XS.aload X4.here hx rfl (hb hby d1_19) rfl rfl ?_
    show Steps p.tables e below (T4.setTop (mkF m 21 #[.val (.int (4 : Int32)), .val (.ref h0.size), .val (.int (10 : Int32)), .val (.int ((((0 : Int32) + (1 : Int32)) + (1 : Int32)) + (1 : Int32))), .val (.ref w3)] [(.ref w3)])) _
    refine st5 _ ?_
    show Steps p.tables e below (T5.setTop (mkF m 24 #[.val (.int (4 : Int32)), .val (.ref h0.size), .val (.int (10 : Int32)), .val (.int ((((0 : Int32) + (1 : Int32)) + (1 : Int32)) + (1 : Int32))), .val (.ref w3)] [(.int (4 : Int32))])) _
    refine XS.iloadN X5.here hx rfl (hb hby d1_24) rfl ?_
    show Steps p.tables e below (T5.setTop (mkF m 25 #[.val (.int (4 : Int32)), .val (.ref h0.size), .val (.int (10 : Int32)), .val (.int ((((0 : Int32) + (1 : Int32)) + (1 : Int32)) + (1 : Int32))), .val (.ref w3)] [(.int (4 : Int32)), (.int (4 : Int32))])) _
    refine XS.icmpNo X5.here hx rfl (hb hby d1_25) rfl (teq (by decide +kernel)).2 ?_
    show Steps p.tables e below (T5.setTop (mkF m 28 #[.val (.int (4 : Int32)), .val (.ref h0.size), .val (.int (10 : Int32)), .val (.int ((((0 : Int32) + (1 : Int32)) + (1 : Int32)) + (1 : Int32))), .val (.ref w3)] [])) _
    refine XS.aload X5.here hx rfl (hb hby d1_28) rfl rfl ?_
    show Steps p.tables e below (T5.setTop (mkF m 30 #[.val (.int (4 : Int32)), .val (.ref h0.size), .val (.int (10 : Int32)), .val (.int ((((0 : Int32) + (1 : Int32)) + (1 : Int32)) + (1 : Int32))), .val (.ref w3)] [(.ref w3)])) _
    jvm_step X5.here [X5.here.top, hx, (hb hby d1_30), X5.method', Bd.returns, Value.isRef, FieldType.isReference]
    first | (intro acts; rw [hr _ acts rfl rfl rfl]) | rw [hr _ _ rfl rfl rfl]
    exact Steps.refl _
  · show QO_4 Z vA kA w0 w1 w2 w3 w4 w5 w6 w7 w8 w9 h0 n0 _ T5.heap _
    rw [e5]
    exact ⟨rfl, N1, Ex⟩
def QO_5 (Z : State) (vA : Addr) (kA : ClassId) (w0 w1 w2 w3 w4 w5 w6 w7 w8 w9 : Addr) (h0 : Heap) (n0 : Nat) (v : Option Value) (h : Heap) (L : List Loc) : Prop := v = some (.ref w4) ∧ Fr n0 L ∧ Ext h0 h
set_option maxRecDepth 65536 in
set_option maxHeartbeats 40000000 in
theorem rmO_5 (l : Launch) (Z : State) (a0 : Array Value) (hw : ∀ d ∈ tables_1, d.before a0 Z = true) (ws : List Jvm.Cond) (vA : Addr) (kA : ClassId) (w0 w1 w2 w3 w4 w5 w6 w7 w8 w9 : Addr) (h0 : Heap) (n0 : Nat) (Z0 : n0 ≤ h0.size) (SV : Sta Z h0 "com/example/concordat/concordat/log/LogRecord$Kind" "$VALUES" "[Lcom/example/concordat/concordat/log/LogRecord$Kind;" (.ref vA)) (AV : Arv Z h0 vA kA (.object "com/example/concordat/concordat/log/LogRecord$Kind") 10 [.ref w0, .ref w1, .ref w2, .ref w3, .ref w4, .ref w5, .ref w6, .ref w7, .ref w8, .ref w9] .null) (EV : Exa Z h0 vA "[Lcom/example/concordat/concordat/log/LogRecord$Kind;") (FC0 : Fld Z h0 w0 "com/example/concordat/concordat/log/LogRecord$Kind" "code" "B" (.int (1 : Int32))) (FC1 : Fld Z h0 w1 "com/example/concordat/concordat/log/LogRecord$Kind" "code" "B" (.int (2 : Int32))) (FC2 : Fld Z h0 w2 "com/example/concordat/concordat/log/LogRecord$Kind" "code" "B" (.int (3 : Int32))) (FC3 : Fld Z h0 w3 "com/example/concordat/concordat/log/LogRecord$Kind" "code" "B" (.int (4 : Int32))) (FC4 : Fld Z h0 w4 "com/example/concordat/concordat/log/LogRecord$Kind" "code" "B" (.int (5 : Int32))) (FC5 : Fld Z h0 w5 "com/example/concordat/concordat/log/LogRecord$Kind" "code" "B" (.int (6 : Int32))) (FC6 : Fld Z h0 w6 "com/example/concordat/concordat/log/LogRecord$Kind" "code" "B" (.int (7 : Int32))) (FC7 : Fld Z h0 w7 "com/example/concordat/concordat/log/LogRecord$Kind" "code" "B" (.int (8 : Int32))) (FC8 : Fld Z h0 w8 "com/example/concordat/concordat/log/LogRecord$Kind" "code" "B" (.int (9 : Int32))) (FC9 : Fld Z h0 w9 "com/example/concordat/concordat/log/LogRecord$Kind" "code" "B" (.int (10 : Int32))) :
    MetFree l (⟨"com/example/concordat/concordat/log/LogRecord$Kind", "of", "(B)Lcom/example/concordat/concordat/log/LogRecord$Kind;"⟩ : MethodName) (head1 (Jvm.Cond.code (⟨"com/example/concordat/concordat/log/LogRecord$Kind", "of", "(B)Lcom/example/concordat/concordat/log/LogRecord$Kind;"⟩ : MethodName) prog_45_method_4_code 5 (some (.object "com/example/concordat/concordat/log/LogRecord$Kind")) :: ws) ({ frames := 2, cells := 1, slots := 10, locals := 25 } : Room)) (fun a U => a = #[(.int (5 : Int32))] ∧ Z.Warmed39 U.vm ∧ U.heap = h0) (fun _ _ _ _ _ => True) (fun _ U o U' => ∃ v L, o = .returned v ∧ QO_5 Z vA kA w0 w1 w2 w3 w4 w5 w6 w7 w8 w9 h0 n0 v U'.heap L ∧ FrameEnd U o U' L ({ frames := 2, cells := 1, slots := 10, locals := 25 } : Room).cells ({ frames := 2, cells := 1, slots := 10, locals := 25 } : Room).slots) := by
  refine MetFree.of_bodySF (plainFor_of_name pn_LogRecord_Kind) hisR ?_
  intro p e s m args below meth c s₁ Bd hml0 hP hK
  obtain ⟨rfl, hZ, hh⟩ := hP
  have hx := Bd.exec
  have hby := Bd.bytes
  have hml : c.maxLocals = 5 := hml0
  have hown : s.vm.findClass "com/example/concordat/concordat/log/LogRecord$Kind" = some m.cls := findClass_of_methodNamed Bd.named
  have hnm := (name_of_methodNamed Bd.named Bd.method).1
  have X0 : Stand p l e ({ frames := 2, cells := 1, slots := 10, locals := 25 } : Room) s m #[(.int (5 : Int32))] below meth c s₁ [] 0 0 := Stand.of_body Bd
  have e0 : s₁.heap = h0 := by rw [← hh, Bd.state]; rfl
  have N0 := Fr.nil n0
  have pre0 : ∀ t, Steps p.tables e below (s₁.setTop (mkF m 0 #[.val (.int (5 : Int32)), .unset, .unset, .unset, .unset] [])) t → Steps p.tables e below (s₁.setTop (entryFrame m #[(.int (5 : Int32))] 5)) t := fun t k => castTop (ef_1 m (5 : Int32)) k
  obtain ⟨_, _, ⟨T1, L1, k1, n1⟩, -, X1, ⟨Lc1, hQ1, l1, y1, z1⟩, st1⟩ := Jvm.LawKit.callS X0 hx (y := (⟨"com/example/concordat/concordat/log/LogRecord$Kind", "values", "()[Lcom/example/concordat/concordat/log/LogRecord$Kind;"⟩ : MethodName)) hown (mvT hZ (hw _ (List.mem_of_getElem? (i := 4) rfl))) (mvT hZ (hw _ (List.mem_of_getElem? (i := 5) rfl))) (mvT hZ (hw _ (List.mem_of_getElem? (i := 2) rfl))) (mvT hZ (hw _ (List.mem_of_getElem? (i := 6) rfl))) (by decide) (backOf (W := 0) (rmV l Z a0 hw [] vA kA w0 w1 w2 w3 w4 w5 w6 w7 w8 w9 h0 n0 Z0 SV AV EV) hZ (hw _ (List.mem_of_getElem? (i := 6) rfl)) (hw _ (List.mem_of_getElem? (i := 2) rfl)) (by decide) (by decide)) (g := (mkF m 0 #[.val (.int (5 : Int32)), .unset, .unset, .unset, .unset] [])) rfl (by rw [hml]; rfl) (argsL := []) (rest := []) (lenOf pd_0 rfl) rfl (by show 2 * 0 + _ ≤ _; exact Nat.le_of_eq rfl) (hb hby d1_0) (fun _ _ => ⟨rfl, e0, (by decide : 0 + 1 ≤ _), (by decide : 0 + 10 ≤ _)⟩)
  dsimp only [Pt.U, Pt.locs, Pt.cells, Pt.slots] at X1 l1 y1 z1 st1 hQ1
  subst l1 y1 z1
  obtain ⟨rfl, N1q, Ex, Av⟩ := hQ1
  have N1 := Fr.app N0 N1q
  obtain ⟨cl, Ar, -, Sz, Mz, H, -⟩ := Av
  obtain ⟨T2, X2, e2, st2⟩ := getF X1 hx hZ hown (host := "") (Or.inl (hw _ (List.mem_of_getElem? (i := 29) rfl))) Via.refl rfl (FC0.ext Ex) (g := (mkF m 21 #[.val (.int (5 : Int32)), .val (.ref h0.size), .val (.int (10 : Int32)), .val (.int (0 : Int32)), .val (.ref w0)] [(.ref w0)])) rfl rfl (hb hby d1_21)
  obtain ⟨T3, X3, e3, st3⟩ := getF X2 hx hZ hown (host := "") (Or.inl (hw _ (List.mem_of_getElem? (i := 29) rfl))) Via.refl e2 (FC1.ext Ex) (g := (mkF m 21 #[.val (.int (5 : Int32)), .val (.ref h0.size), .val (.int (10 : Int32)), .val (.int ((0 : Int32) + (1 : Int32))), .val (.ref w1)] [(.ref w1)])) rfl rfl (hb hby d1_21)
  obtain ⟨T4, X4, e4, st4⟩ := getF X3 hx hZ hown (host := "") (Or.inl (hw _ (List.mem_of_getElem? (i := 29) rfl))) Via.refl e3 (FC2.ext Ex) (g := (mkF m 21 #[.val (.int (5 : Int32)), .val (.ref h0.size), .val (.int (10 : Int32)), .val (.int (((0 : Int32) + (1 : Int32)) + (1 : Int32))), .val (.ref w2)] [(.ref w2)])) rfl rfl (hb hby d1_21)
  obtain ⟨T5, X5, e5, st5⟩ := getF X4 hx hZ hown (host := "") (Or.inl (hw _ (List.mem_of_getElem? (i := 29) rfl))) Via.refl e4 (FC3.ext Ex) (g := (mkF m 21 #[.val (.int (5 : Int32)), .val (.ref h0.size), .val (.int (10 : Int32)), .val (.int ((((0 : Int32) + (1 : Int32)) + (1 : Int32)) + (1 : Int32))), .val (.ref w3)] [(.ref w3)])) rfl rfl (hb hby d1_21)
  obtain ⟨T6, X6, e6, st6⟩ := getF X5 hx hZ hown (host := "") (Or.inl (hw _ (List.mem_of_getElem? (i := 29) rfl))) Via.refl e5 (FC4.ext Ex) (g := (mkF m 21 #[.val (.int (5 : Int32)), .val (.ref h0.size), .val (.int (10 : Int32)), .val (.int (((((0 : Int32) + (1 : Int32)) + (1 : Int32)) + (1 : Int32)) + (1 : Int32))), .val (.ref w4)] [(.ref w4)])) rfl rfl (hb hby d1_21)
  obtain ⟨fs, hr, hrun, hended, hW, hsame⟩ := X6.leave (v := some (.ref w4)) (fun h => by rw [Bd.returns] at h; cases h)
  refine ⟨_, _, pre0 _ ?_, hrun, hended, _, _, rfl, ?_, ⟨_, rfl⟩, hW, hsame.mono (by decide) (by decide)⟩
  · show Steps p.tables e below (s₁.setTop (mkF m 0 #[.val (.int (5 : Int32)), .unset, .unset, .unset, .unset] [])) _
    refine st1 _ ?_
    show Steps p.tables e below (T1.setTop (mkF m 3 #[.val (.int (5 : Int32)), .unset, .unset, .unset, .unset] [(.ref h0.size)])) _
    refine XS.astoreN X1.here hx rfl (hb hby d1_3) rfl rfl (l' := #[.val (.int (5 : Int32)), .val (.ref h0.size), .unset, .unset, .unset]) rfl ?_
    show Steps p.tables e below (T1.setTop (mkF m 4 #[.val (.int (5 : Int32)), .val (.ref h0.size), .unset, .unset, .unset] [])) _
    refine XS.aloadN X1.here hx rfl (hb hby d1_4) rfl rfl ?_
    show Steps p.tables e below (T1.setTop (mkF m 5 #[.val (.int (5 : Int32)), .val (.ref h0.size), .unset, .unset, .unset] [(.ref h0.size)])) _
    refine X1.arraylength hx Ar.1 (State.isArrayOf_alike hZ.alike Ar.2.1) (g := (mkF m 5 #[.val (.int (5 : Int32)), .val (.ref h0.size), .unset, .unset, .unset] [(.ref h0.size)])) rfl rfl (hb hby d1_5) _ ?_
    rw [len_of Sz Mz]
    show Steps p.tables e below (T1.setTop (mkF m 6 #[.val (.int (5 : Int32)), .val (.ref h0.size), .unset, .unset, .unset] [(.int (10 : Int32))])) _
    refine XS.istoreN X1.here hx rfl (hb hby d1_6) rfl (l' := #[.val (.int (5 : Int32)), .val (.ref h0.size), .val (.int (10 : Int32)), .unset, .unset]) rfl ?_
    show Steps p.tables e below (T1.setTop (mkF m 7 #[.val (.int (5 : Int32)), .val (.ref h0.size), .val (.int (10 : Int32)), .unset, .unset] [])) _
    refine XS.iconst X1.here hx rfl (hb hby d1_7) ?_
    show Steps p.tables e below (T1.setTop (mkF m 8 #[.val (.int (5 : Int32)), .val (.ref h0.size), .val (.int (10 : Int32)), .unset, .unset] [(.int (0 : Int32))])) _
    refine XS.istoreN X1.here hx rfl (hb hby d1_8) rfl (l' := #[.val (.int (5 : Int32)), .val (.ref h0.size), .val (.int (10 : Int32)), .val (.int (0 : Int32)), .unset]) rfl ?_
    show Steps p.tables e below (T1.setTop (mkF m 9 #[.val (.int (5 : Int32)), .val (.ref h0.size), .val (.int (10 : Int32)), .val (.int (0 : Int32)), .unset] [])) _
    refine XS.iloadN X1.here hx rfl (hb hby d1_9) rfl ?_
    show Steps p.tables e below (T1.setTop (mkF m 10 #[.val (.int (5 : Int32)), .val (.ref h0.size), .val (.int (10 : Int32)), .val (.int (0 : Int32)), .unset] [(.int (0 : Int32))])) _
    refine XS.iloadN X1.here hx rfl (hb hby d1_10) rfl ?_
    show Steps p.tables e below (T1.setTop (mkF m 11 #[.val (.int (5 : Int32)), .val (.ref h0.size), .val (.int (10 : Int32)), .val (.int (0 : Int32)), .unset] [(.int (10 : Int32)), (.int (0 : Int32))])) _
    refine XS.icmpNo X1.here hx rfl (hb hby d1_11) rfl (tlt (by decide +kernel)).2.1 ?_
    show Steps p.tables e below (T1.setTop (mkF m 14 #[.val (.int (5 : Int32)), .val (.ref h0.size), .val (.int (10 : Int32)), .val (.int (0 : Int32)), .unset] [])) _
    refine XS.aloadN X1.here hx rfl (hb hby d1_14) rfl rfl ?_
    show Steps p.tables e below (T1.setTop (mkF m 15 #[.val (.int (5 : Int32)), .val (.ref h0.size), .val (.int (10 : Int32)), .val (.int (0 : Int32)), .unset] [(.ref h0.size)])) _
    refine XS.iloadN X1.here hx rfl (hb hby d1_15) rfl ?_
    show Steps p.tables e below (T1.setTop (mkF m 16 #[.val (.int (5 : Int32)), .val (.ref h0.size), .val (.int (10 : Int32)), .val (.int (0 : Int32)), .unset] [(.int (0 : Int32)), (.ref h0.size)])) _
    refine X1.aaload hx (j := (0 : Int32)) (v := (.ref w0)) Ar.1 (State.isArrayOf_alike hZ.alike Ar.2.1) rfl Ar.2.2 (inb_of Sz ⟨by decide, by decide⟩) (H.at (inb_of Sz ⟨by decide, by decide⟩) rfl) (g := (mkF m 16 #[.val (.int (5 : Int32)), .val (.ref h0.size), .val (.int (10 : Int32)), .val (.int (0 : Int32)), .unset] [(.int (0 : Int32)), (.ref h0.size)])) rfl rfl (hb hby d1_16) _ ?_
    show Steps p.tables e below (T1.setTop (mkF m 17 #[.val (.int (5 : Int32)), .val (.ref h0.size), .val (.int (10 : Int32)), .val (.int (0 : Int32)), .unset] [(.ref w0)])) _
    refine XS.astore X1.here hx rfl (hb hby d1_17) rfl rfl (l' := #[.val (.int (5 : Int32)), .val (.ref h0.size), .val (.int (10 : Int32)), .val (.int (0 : Int32)), .val (.ref w0)]) rfl ?_
    show Steps p.tables e below (T1.setTop (mkF m 19 #[.val (.int (5 : Int32)), .val (.ref h0.size), .val (.int (10 : Int32)), .val (.int (0 : Int32)), .val (.ref w0)] [])) _
    refine XS.aload X1.here hx rfl (hb hby d1_19) rfl rfl ?_
    show Steps p.tables e below (T1.setTop (mkF m 21 #[.val (.int (5 : Int32)), .val (.ref h0.size), .val (.int (10 : Int32)), .val (.int (0 : Int32)), .val (.ref w0)] [(.ref w0)])) _
    refine st2 _ ?_
    show Steps p.tables e below (T2.setTop (mkF m 24 #[.val (.int (5 : Int32)), .val (.ref h0.size), .val (.int (10 : Int32)), .val (.int (0 : Int32)), .val (.ref w0)] [(.int (1 : Int32))])) _
    refine XS.iloadN X2.here hx rfl (hb hby d1_24) rfl ?_
    show Steps p.tables e below (T2.setTop (mkF m 25 #[.val (.int (5 : Int32)), .val (.ref h0.size), .val (.int (10 : Int32)), .val (.int (0 : Int32)), .val (.ref w0)] [(.int (5 : Int32)), (.int (1 : Int32))])) _
    refine XS.icmpYes X2.here hx rfl (pc0 := 25) (pc' := 31) rfl (hb hby d1_25) rfl (feq (by decide +kernel)).2 (by decide) (by decide) ?_
    show Steps p.tables e below (T2.setTop (mkF m 31 #[.val (.int (5 : Int32)), .val (.ref h0.size), .val (.int (10 : Int32)), .val (.int (0 : Int32)), .val (.ref w0)] [])) _
    refine XS.iinc X2.here hx rfl (hb hby d1_31) rfl (l' := #[.val (.int (5 : Int32)), .val (.ref h0.size), .val (.int (10 : Int32)), .val (.int ((0 : Int32) + (1 : Int32))), .val (.ref w0)]) rfl ?_
    show Steps p.tables e below (T2.setTop (mkF m 34 #[.val (.int (5 : Int32)), .val (.ref h0.size), .val (.int (10 : Int32)), .val (.int ((0 : Int32) + (1 : Int32))), .val (.ref w0)] [])) _
    refine XS.goto X2.here hx rfl (pc0 := 34) (pc' := 9) rfl (hb hby d1_34) (by decide) (by decide) ?_
    show Steps p.tables e below (T2.setTop (mkF m 9 #[.val (.int (5 : Int32)), .val (.ref h0.size), .val (.int (10 : Int32)), .val (.int ((0 : Int32) + (1 : Int32))), .val (.ref w0)] [])) _
    refine XS.iloadN X2.here hx rfl (hb hby d1_9) rfl ?_
    show Steps p.tables e below (T2.setTop (mkF m 10 #[.val (.int (5 : Int32)), .val (.ref h0.size), .val (.int (10 : Int32)), .val (.int ((0 : Int32) + (1 : Int32))), .val (.ref w0)] [(.int ((0 : Int32) + (1 : Int32)))])) _
    refine XS.iloadN X2.here hx rfl (hb hby d1_10) rfl ?_
    show Steps p.tables e below (T2.setTop (mkF m 11 #[.val (.int (5 : Int32)), .val (.ref h0.size), .val (.int (10 : Int32)), .val (.int ((0 : Int32) + (1 : Int32))), .val (.ref w0)] [(.int (10 : Int32)), (.int ((0 : Int32) + (1 : Int32)))])) _
    refine XS.icmpNo X2.here hx rfl (hb hby d1_11) rfl (tlt (by decide +kernel)).2.1 ?_
    show Steps p.tables e below (T2.setTop (mkF m 14 #[.val (.int (5 : Int32)), .val (.ref h0.size), .val (.int (10 : Int32)), .val (.int ((0 : Int32) + (1 : Int32))), .val (.ref w0)] [])) _
    refine XS.aloadN X2.here hx rfl (hb hby d1_14) rfl rfl ?_
    show Steps p.tables e below (T2.setTop (mkF m 15 #[.val (.int (5 : Int32)), .val (.ref h0.size), .val (.int (10 : Int32)), .val (.int ((0 : Int32) + (1 : Int32))), .val (.ref w0)] [(.ref h0.size)])) _
    refine XS.iloadN X2.here hx rfl (hb hby d1_15) rfl ?_
    show Steps p.tables e below (T2.setTop (mkF m 16 #[.val (.int (5 : Int32)), .val (.ref h0.size), .val (.int (10 : Int32)), .val (.int ((0 : Int32) + (1 : Int32))), .val (.ref w0)] [(.int ((0 : Int32) + (1 : Int32))), (.ref h0.size)])) _
    refine X2.aaload hx (j := ((0 : Int32) + (1 : Int32))) (v := (.ref w1)) (by rw [e2]; exact Ar.1) (State.isArrayOf_alike hZ.alike Ar.2.1) rfl Ar.2.2 (inb_of Sz ⟨by decide, by decide⟩) (H.at (inb_of Sz ⟨by decide, by decide⟩) rfl) (g := (mkF m 16 #[.val (.int (5 : Int32)), .val (.ref h0.size), .val (.int (10 : Int32)), .val (.int ((0 : Int32) + (1 : Int32))), .val (.ref w0)] [(.int ((0 : Int32) + (1 : Int32))), (.ref h0.size)])) rfl rfl (hb hby d1_16) _ ?_
    show Steps p.tables e below (T2.setTop (mkF m 17 #[.val (.int (5 : Int32)), .val (.ref h0.size), .val (.int (10 : Int32)), .val (.int ((0 : Int32) + (1 : Int32))), .val (.ref w0)] [(.ref w1)])) _
    refine XS.astore X2.here hx rfl (hb hby d1_17) rfl rfl (l' := #[.val (.int (5 : Int32)), .val (.ref h0.size), .val (.int (10 : Int32)), .val (.int ((0 : Int32) + (1 : Int32))), .val (.ref w1)]) rfl ?_
    show Steps p.tables e below (T2.setTop (mkF m 19 #[.val (.int (5 : Int32)), .val (.ref h0.size), .val (.int (10 : Int32)), .val (.int ((0 : Int32) + (1 : Int32))), .val (.ref w1)] [])) _
    refine XS.aload X2.here hx rfl (hb hby d1_19) rfl rfl ?_
    show Steps p.tables e below (T2.setTop (mkF m 21 #[.val (.int (5 : Int32)), .val (.ref h0.size), .val (.int (10 : Int32)), .val (.int ((0 : Int32) + (1 : Int32))), .val (.ref w1)] [(.ref w1)])) _
    refine st3 _ ?_
    show Steps p.tables e below (T3.setTop (mkF m 24 #[.val (.int (5 : Int32)), .val (.ref h0.size), .val (.int (10 : Int32)), .val (.int ((0 : Int32) + (1 : Int32))), .val (.ref w1)] [(.int (2 : Int32))])) _
    refine XS.iloadN X3.here hx rfl (hb hby d1_24) rfl ?_
    show Steps p.tables e below (T3.setTop (mkF m 25 #[.val (.int (5 : Int32)), .val (.ref h0.size), .val (.int (10 : Int32)), .val (.int ((0 : Int32) + (1 : Int32))), .val (.ref w1)] [(.int (5 : Int32)), (.int (2 : Int32))])) _
    refine XS.icmpYes X3.here hx rfl (pc0 := 25) (pc' := 31) rfl (hb hby d1_25) rfl (feq (by decide +kernel)).2 (by decide) (by decide) ?_
    show Steps p.tables e below (T3.setTop (mkF m 31 #[.val (.int (5 : Int32)), .val (.ref h0.size), .val (.int (10 : Int32)), .val (.int ((0 : Int32) + (1 : Int32))), .val (.ref w1)] [])) _
    refine XS.iinc X3.here hx rfl (hb hby d1_31) rfl (l' := #[.val (.int (5 : Int32)), .val (.ref h0.size), .val (.int (10 : Int32)), .val (.int (((0 : Int32) + (1 : Int32)) + (1 : Int32))), .val (.ref w1)]) rfl ?_
    show Steps p.tables e below (T3.setTop (mkF m 34 #[.val (.int (5 : Int32)), .val (.ref h0.size), .val (.int (10 : Int32)), .val (.int (((0 : Int32) + (1 : Int32)) + (1 : Int32))), .val (.ref w1)] [])) _
    refine XS.goto X3.here hx rfl (pc0 := 34) (pc' := 9) rfl (hb hby d1_34) (by decide) (by decide) ?_
    show Steps p.tables e below (T3.setTop (mkF m 9 #[.val (.int (5 : Int32)), .val (.ref h0.size), .val (.int (10 : Int32)), .val (.int (((0 : Int32) + (1 : Int32)) + (1 : Int32))), .val (.ref w1)] [])) _
    refine XS.iloadN X3.here hx rfl (hb hby d1_9) rfl ?_
    show Steps p.tables e below (T3.setTop (mkF m 10 #[.val (.int (5 : Int32)), .val (.ref h0.size), .val (.int (10 : Int32)), .val (.int (((0 : Int32) + (1 : Int32)) + (1 : Int32))), .val (.ref w1)] [(.int (((0 : Int32) + (1 : Int32)) + (1 : Int32)))])) _
    refine XS.iloadN X3.here hx rfl (hb hby d1_10) rfl ?_
    show Steps p.tables e below (T3.setTop (mkF m 11 #[.val (.int (5 : Int32)), .val (.ref h0.size), .val (.int (10 : Int32)), .val (.int (((0 : Int32) + (1 : Int32)) + (1 : Int32))), .val (.ref w1)] [(.int (10 : Int32)), (.int (((0 : Int32) + (1 : Int32)) + (1 : Int32)))])) _
    refine XS.icmpNo X3.here hx rfl (hb hby d1_11) rfl (tlt (by decide +kernel)).2.1 ?_
    show Steps p.tables e below (T3.setTop (mkF m 14 #[.val (.int (5 : Int32)), .val (.ref h0.size), .val (.int (10 : Int32)), .val (.int (((0 : Int32) + (1 : Int32)) + (1 : Int32))), .val (.ref w1)] [])) _
    refine XS.aloadN X3.here hx rfl (hb hby d1_14) rfl rfl ?_
    show Steps p.tables e below (T3.setTop (mkF m 15 #[.val (.int (5 : Int32)), .val (.ref h0.size), .val (.int (10 : Int32)), .val (.int (((0 : Int32) + (1 : Int32)) + (1 : Int32))), .val (.ref w1)] [(.ref h0.size)])) _
    refine XS.iloadN X3.here hx rfl (hb hby d1_15) rfl ?_
    show Steps p.tables e below (T3.setTop (mkF m 16 #[.val (.int (5 : Int32)), .val (.ref h0.size), .val (.int (10 : Int32)), .val (.int (((0 : Int32) + (1 : Int32)) + (1 : Int32))), .val (.ref w1)] [(.int (((0 : Int32) + (1 : Int32)) + (1 : Int32))), (.ref h0.size)])) _
    refine X3.aaload hx (j := (((0 : Int32) + (1 : Int32)) + (1 : Int32))) (v := (.ref w2)) (by rw [e3]; exact Ar.1) (State.isArrayOf_alike hZ.alike Ar.2.1) rfl Ar.2.2 (inb_of Sz ⟨by decide, by decide⟩) (H.at (inb_of Sz ⟨by decide, by decide⟩) rfl) (g := (mkF m 16 #[.val (.int (5 : Int32)), .val (.ref h0.size), .val (.int (10 : Int32)), .val (.int (((0 : Int32) + (1 : Int32)) + (1 : Int32))), .val (.ref w1)] [(.int (((0 : Int32) + (1 : Int32)) + (1 : Int32))), (.ref h0.size)])) rfl rfl (hb hby d1_16) _ ?_
    show Steps p.tables e below (T3.setTop (mkF m 17 #[.val (.int (5 : Int32)), .val (.ref h0.size), .val (.int (10 : Int32)), .val (.int (((0 : Int32) + (1 : Int32)) + (1 : Int32))), .val (.ref w1)] [(.ref w2)])) _
    refine XS.astore X3.here hx rfl (hb hby d1_17) rfl rfl (l' := #[.val (.int (5 : Int32)), .val (.ref h0.size), .val (.int (10 : Int32)), .val (.int (((0 : Int32) + (1 : Int32)) + (1 : Int32))), .val (.ref w2)]) rfl ?_
    show Steps p.tables e below (T3.setTop (mkF m 19 #[.val (.int (5 : Int32)), .val (.ref h0.size), .val (.int (10 : Int32)), .val (.int (((0 : Int32) + (1 : Int32)) + (1 : Int32))), .val (.ref w2)] [])) _
    refine XS.aload X3.here hx rfl (hb hby d1_19) rfl rfl ?_
    show Steps p.tables e below (T3.setTop (mkF m 21 #[.val (.int (5 : Int32)), .val (.ref h0.size), .val (.int (10 : Int32)), .val (.int (((0 : Int32) + (1 : Int32)) + (1 : Int32))), .val (.ref w2)] [(.ref w2)])) _
    refine st4 _ ?_
    show Steps p.tables e below (T4.setTop (mkF m 24 #[.val (.int (5 : Int32)), .val (.ref h0.size), .val (.int (10 : Int32)), .val (.int (((0 : Int32) + (1 : Int32)) + (1 : Int32))), .val (.ref w2)] [(.int (3 : Int32))])) _
    refine XS.iloadN X4.here hx rfl (hb hby d1_24) rfl ?_
    show Steps p.tables e below (T4.setTop (mkF m 25 #[.val (.int (5 : Int32)), .val (.ref h0.size), .val (.int (10 : Int32)), .val (.int (((0 : Int32) + (1 : Int32)) + (1 : Int32))), .val (.ref w2)] [(.int (5 : Int32)), (.int (3 : Int32))])) _
    refine XS.icmpYes X4.here hx rfl (pc0 := 25) (pc' := 31) rfl (hb hby d1_25) rfl (feq (by decide +kernel)).2 (by decide) (by decide) ?_
    show Steps p.tables e below (T4.setTop (mkF m 31 #[.val (.int (5 : Int32)), .val (.ref h0.size), .val (.int (10 : Int32)), .val (.int (((0 : Int32) + (1 : Int32)) + (1 : Int32))), .val (.ref w2)] [])) _
    refine XS.iinc X4.here hx rfl (hb hby d1_31) rfl (l' := #[.val (.int (5 : Int32)), .val (.ref h0.size), .val (.int (10 : Int32)), .val (.int ((((0 : Int32) + (1 : Int32)) + (1 : Int32)) + (1 : Int32))), .val (.ref w2)]) rfl ?_
    show Steps p.tables e below (T4.setTop (mkF m 34 #[.val (.int (5 : Int32)), .val (.ref h0.size), .val (.int (10 : Int32)), .val (.int ((((0 : Int32) + (1 : Int32)) + (1 : Int32)) + (1 : Int32))), .val (.ref w2)] [])) _
    refine XS.goto X4.here hx rfl (pc0 := 34) (pc' := 9) rfl (hb hby d1_34) (by decide) (by decide) ?_
    show Steps p.tables e below (T4.setTop (mkF m 9 #[.val (.int (5 : Int32)), .val (.ref h0.size), .val (.int (10 : Int32)), .val (.int ((((0 : Int32) + (1 : Int32)) + (1 : Int32)) + (1 : Int32))), .val (.ref w2)] [])) _
    refine XS.iloadN X4.here hx rfl (hb hby d1_9) rfl ?_
    show Steps p.tables e below (T4.setTop (mkF m 10 #[.val (.int (5 : Int32)), .val (.ref h0.size), .val (.int (10 : Int32)), .val (.int ((((0 : Int32) + (1 : Int32)) + (1 : Int32)) + (1 : Int32))), .val (.ref w2)] [(.int ((((0 : Int32) + (1 : Int32)) + (1 : Int32)) + (1 : Int32)))])) _
    refine XS.iloadN X4.here hx rfl (hb hby d1_10) rfl ?_
    show Steps p.tables e below (T4.setTop (mkF m 11 #[.val (.int (5 : Int32)), .val (.ref h0.size), .val (.int (10 : Int32)), .val (.int ((((0 : Int32) + (1 : Int32)) + (1 : Int32)) + (1 : Int32))), .val (.ref w2)] [(.int (10 : Int32)), (.int ((((0 : Int32) + (1 : Int32)) + (1 : Int32)) + (1 : Int32)))])) _
    refine XS.icmpNo X4.here hx rfl (hb hby d1_11) rfl (tlt (by decide +kernel)).2.1 ?_
    show Steps p.tables e below (T4.setTop (mkF m 14 #[.val (.int (5 : Int32)), .val (.ref h0.size), .val (.int (10 : Int32)), .val (.int ((((0 : Int32) + (1 : Int32)) + (1 : Int32)) + (1 : Int32))), .val (.ref w2)] [])) _
    refine XS.aloadN X4.here hx rfl (hb hby d1_14) rfl rfl ?_
    show Steps p.tables e below (T4.setTop (mkF m 15 #[.val (.int (5 : Int32)), .val (.ref h0.size), .val (.int (10 : Int32)), .val (.int ((((0 : Int32) + (1 : Int32)) + (1 : Int32)) + (1 : Int32))), .val (.ref w2)] [(.ref h0.size)])) _
    refine XS.iloadN X4.here hx rfl (hb hby d1_15) rfl ?_
    show Steps p.tables e below (T4.setTop (mkF m 16 #[.val (.int (5 : Int32)), .val (.ref h0.size), .val (.int (10 : Int32)), .val (.int ((((0 : Int32) + (1 : Int32)) + (1 : Int32)) + (1 : Int32))), .val (.ref w2)] [(.int ((((0 : Int32) + (1 : Int32)) + (1 : Int32)) + (1 : Int32))), (.ref h0.size)])) _
    refine X4.aaload hx (j := ((((0 : Int32) + (1 : Int32)) + (1 : Int32)) + (1 : Int32))) (v := (.ref w3)) (by rw [e4]; exact Ar.1) (State.isArrayOf_alike hZ.alike Ar.2.1) rfl Ar.2.2 (inb_of Sz ⟨by decide, by decide⟩) (H.at (inb_of Sz ⟨by decide, by decide⟩) rfl) (g := (mkF m 16 #[.val (.int (5 : Int32)), .val (.ref h0.size), .val (.int (10 : Int32)), .val (.int ((((0 : Int32) + (1 : Int32)) + (1 : Int32)) + (1 : Int32))), .val (.ref w2)] [(.int ((((0 : Int32) + (1 : Int32)) + (1 : Int32)) + (1 : Int32))), (.ref h0.size)])) rfl rfl (hb hby d1_16) _ ?_
    show Steps p.tables e below (T4.setTop (mkF m 17 #[.val (.int (5 : Int32)), .val (.ref h0.size), .val (.int (10 : Int32)), .val (.int ((((0 : Int32) + (1 : Int32)) + (1 : Int32)) + (1 : Int32))), .val (.ref w2)] [(.ref w3)])) _
    refine XS.astore X4.here hx rfl (hb hby d1_17) rfl rfl (l' := #[.val (.int (5 : Int32)), .val (.ref h0.size), .val (.int (10 : Int32)), .val (.int ((((0 : Int32) + (1 : Int32)) + (1 : Int32)) + (1 : Int32))), .val (.ref w3)]) rfl ?_
    show Steps p.tables e below (T4.setTop (mkF m 19 #[.val (.int (5 : Int32)), .val (.ref h0.size), .val (.int (10 : Int32)), .val (.int ((((0 : Int32) + (1 : Int32)) + (1 : Int32)) + (1 : Int32))), .val (.ref w3)] [])) _
    refine XS.aload X4.here hx rfl (hb hby d1_19) rfl rfl ?_
    show Steps p.tables e below (T4.setTop (mkF m 21 #[.val (.int (5 : Int32)), .val (.ref h0.size), .val (.int (10 : Int32)), .val (.int ((((0 : Int32) + (1 : Int32)) + (1 : Int32)) + (1 : Int32))), .val (.ref w3)] [(.ref w3)])) _
    refine st5 _ ?_
    show Steps p.tables e below (T5.setTop (mkF m 24 #[.val (.int (5 : Int32)), .val (.ref h0.size), .val (.int (10 : Int32)), .val (.int ((((0 : Int32) + (1 : Int32)) + (1 : Int32)) + (1 : Int32))), .val (.ref w3)] [(.int (4 : Int32))])) _
    refine XS.iloadN X5.here hx rfl (hb hby d1_24) rfl ?_
    show Steps p.tables e below (T5.setTop (mkF m 25 #[.val (.int (5 : Int32)), .val (.ref h0.size), .val (.int (10 : Int32)), .val (.int ((((0 : Int32) + (1 : Int32)) + (1 : Int32)) + (1 : Int32))), .val (.ref w3)] [(.int (5 : Int32)), (.int (4 : Int32))])) _
    refine XS.icmpYes X5.here hx rfl (pc0 := 25) (pc' := 31) rfl (hb hby d1_25) rfl (feq (by decide +kernel)).2 (by decide) (by decide) ?_
    show Steps p.tables e below (T5.setTop (mkF m 31 #[.val (.int (5 : Int32)), .val (.ref h0.size), .val (.int (10 : Int32)), .val (.int ((((0 : Int32) + (1 : Int32)) + (1 : Int32)) + (1 : Int32))), .val (.ref w3)] [])) _
    refine XS.iinc X5.here hx rfl (hb hby d1_31) rfl (l' := #[.val (.int (5 : Int32)), .val (.ref h0.size), .val (.int (10 : Int32)), .val (.int (((((0 : Int32) + (1 : Int32)) + (1 : Int32)) + (1 : Int32)) + (1 : Int32))), .val (.ref w3)]) rfl ?_
    show Steps p.tables e below (T5.setTop (mkF m 34 #[.val (.int (5 : Int32)), .val (.ref h0.size), .val (.int (10 : Int32)), .val (.int (((((0 : Int32) + (1 : Int32)) + (1 : Int32)) + (1 : Int32)) + (1 : Int32))), .val (.ref w3)] [])) _
    refine XS.goto X5.here hx rfl (pc0 := 34) (pc' := 9) rfl (hb hby d1_34) (by decide) (by decide) ?_
    show Steps p.tables e below (T5.setTop (mkF m 9 #[.val (.int (5 : Int32)), .val (.ref h0.size), .val (.int (10 : Int32)), .val (.int (((((0 : Int32) + (1 : Int32)) + (1 : Int32)) + (1 : Int32)) + (1 : Int32))), .val (.ref w3)] [])) _
    refine XS.iloadN X5.here hx rfl (hb hby d1_9) rfl ?_
    show Steps p.tables e below (T5.setTop (mkF m 10 #[.val (.int (5 : Int32)), .val (.ref h0.size), .val (.int (10 : Int32)), .val (.int (((((0 : Int32) + (1 : Int32)) + (1 : Int32)) + (1 : Int32)) + (1 : Int32))), .val (.ref w3)] [(.int (((((0 : Int32) + (1 : Int32)) + (1 : Int32)) + (1 : Int32)) + (1 : Int32)))])) _
    refine XS.iloadN X5.here hx rfl (hb hby d1_10) rfl ?_
    show Steps p.tables e below (T5.setTop (mkF m 11 #[.val (.int (5 : Int32)), .val (.ref h0.size), .val (.int (10 : Int32)), .val (.int (((((0 : Int32) + (1 : Int32)) + (1 : Int32)) + (1 : Int32)) + (1 : Int32))), .val (.ref w3)] [(.int (10 : Int32)), (.int (((((0 : Int32) + (1 : Int32)) + (1 : Int32)) + (1 : Int32)) + (1 : Int32)))])) _
    refine XS.icmpNo X5.here hx rfl (hb hby d1_11) rfl (tlt (by decide +kernel)).2.1 ?_
    show Steps p.tables e below (T5.setTop (mkF m 14 #[.val (.int (5 : Int32)), .val (.ref h0.size), .val (.int (10 : Int32)), .val (.int (((((0 : Int32) + (1 : Int32)) + (1 : Int32)) + (1 : Int32)) + (1 : Int32))), .val (.ref w3)] [])) _
    refine XS.aloadN X5.here hx rfl (hb hby d1_14) rfl rfl ?_
    show Steps p.tables e below (T5.setTop (mkF m 15 #[.val (.int (5 : Int32)), .val (.ref h0.size), .val (.int (10 : Int32)), .val (.int (((((0 : Int32) + (1 : Int32)) + (1 : Int32)) + (1 : Int32)) + (1 : Int32))), .val (.ref w3)] [(.ref h0.size)])) _
    refine XS.iloadN X5.here hx rfl (hb hby d1_15) rfl ?_
    show Steps p.tables e below (T5.setTop (mkF m 16 #[.val (.int (5 : Int32)), .val (.ref h0.size), .val (.int (10 : Int32)), .val (.int (((((0 : Int32) + (1 : Int32)) + (1 : Int32)) + (1 : Int32)) + (1 : Int32))), .val (.ref w3)] [(.int (((((0 : Int32) + (1 : Int32)) + (1 : Int32)) + (1 : Int32)) + (1 : Int32))), (.ref h0.size)])) _
    refine X5.aaload hx (j := (((((0 : Int32) + (1 : Int32)) + (1 : Int32)) + (1 : Int32)) + (1 : Int32))) (v := (.ref w4)) (by rw [e5]; exact Ar.1) (State.isArrayOf_alike hZ.alike Ar.2.1) rfl Ar.2.2 (inb_of Sz ⟨by decide, by decide⟩) (H.at (inb_of Sz ⟨by decide, by decide⟩) rfl) (g := (mkF m 16 #[.val (.int (5 : Int32)), .val (.ref h0.size), .val (.int (10 : Int32)), .val (.int (((((0 : Int32) + (1 : Int32)) + (1 : Int32)) + (1 : Int32)) + (1 : Int32))), .val (.ref w3)] [(.int (((((0 : Int32) + (1 : Int32)) + (1 : Int32)) + (1 : Int32)) + (1 : Int32))), (.ref h0.size)])) rfl rfl (hb hby d1_16) _ ?_
    show Steps p.tables e below (T5.setTop (mkF m 17 #[.val (.int (5 : Int32)), .val (.ref h0.size), .val (.int (10 : Int32)), .val (.int (((((0 : Int32) + (1 : Int32)) + (1 : Int32)) + (1 : Int32)) + (1 : Int32))), .val (.ref w3)] [(.ref w4)])) _
    refine XS.astore X5.here hx rfl (hb hby d1_17) rfl rfl (l' := #[.val (.int (5 : Int32)), .val (.ref h0.size), .val (.int (10 : Int32)), .val (.int (((((0 : Int32) + (1 : Int32)) + (1 : Int32)) + (1 : Int32)) + (1 : Int32))), .val (.ref w4)]) rfl ?_
    show Steps p.tables e below (T5.setTop (mkF m 19 #[.val (.int (5 : Int32)), .val (.ref h0.size), .val (.int (10 : Int32)), .val (.int (((((0 : Int32) + (1 : Int32)) + (1 : Int32)) + (1 : Int32)) + (1 : Int32))), .val (.ref w4)] [])) _
    refine XS.aload X5.here hx rfl (hb hby d1_19) rfl rfl ?_
    show Steps p.tables e below (T5.setTop (mkF m 21 #[.val (.int (5 : Int32)), .val (.ref h0.size), .val (.int (10 : Int32)), .val (.int (((((0 : Int32) + (1 : Int32)) + (1 : Int32)) + (1 : Int32)) + (1 : Int32))), .val (.ref w4)] [(.ref w4)])) _
    refine st6 _ ?_
    show Steps p.tables e below (T6.setTop (mkF m 24 #[.val (.int (5 : Int32)), .val (.ref h0.size), .val (.int (10 : Int32)), .val (.int (((((0 : Int32) + (1 : Int32)) + (1 : Int32)) + (1 : Int32)) + (1 : Int32))), .val (.ref w4)] [(.int (5 : Int32))])) _
    refine XS.iloadN X6.here hx rfl (hb hby d1_24) rfl ?_
    show Steps p.tables e below (T6.setTop (mkF m 25 #[.val (.int (5 : Int32)), .val (.ref h0.size), .val (.int (10 : Int32)), .val (.int (((((0 : Int32) + (1 : Int32)) + (1 : Int32)) + (1 : Int32)) + (1 : Int32))), .val (.ref w4)] [(.int (5 : Int32)), (.int (5 : Int32))])) _
    refine XS.icmpNo X6.here hx rfl (hb hby d1_25) rfl (teq (by decide +kernel)).2 ?_
    show Steps p.tables e below (T6.setTop (mkF m 28 #[.val (.int (5 : Int32)), .val (.ref h0.size), .val (.int (10 : Int32)), .val (.int (((((0 : Int32) + (1 : Int32)) + (1 : Int32)) + (1 : Int32)) + (1 : Int32))), .val (.ref w4)] [])) _
    refine XS.aload X6.here hx rfl (hb hby d1_28) rfl rfl ?_
    show Steps p.tables e below (T6.setTop (mkF m 30 #[.val (.int (5 : Int32)), .val (.ref h0.size), .val (.int (10 : Int32)), .val (.int (((((0 : Int32) + (1 : Int32)) + (1 : Int32)) + (1 : Int32)) + (1 : Int32))), .val (.ref w4)] [(.ref w4)])) _
    jvm_step X6.here [X6.here.top, hx, (hb hby d1_30), X6.method', Bd.returns, Value.isRef, FieldType.isReference]
    first | (intro acts; rw [hr _ acts rfl rfl rfl]) | rw [hr _ _ rfl rfl rfl]
    exact Steps.refl _
  · show QO_5 Z vA kA w0 w1 w2 w3 w4 w5 w6 w7 w8 w9 h0 n0 _ T6.heap _
    rw [e6]
    exact ⟨rfl, N1, Ex⟩
def QO_6 (Z : State) (vA : Addr) (kA : ClassId) (w0 w1 w2 w3 w4 w5 w6 w7 w8 w9 : Addr) (h0 : Heap) (n0 : Nat) (v : Option Value) (h : Heap) (L : List Loc) : Prop := v = some (.ref w5) ∧ Fr n0 L ∧ Ext h0 h
set_option maxRecDepth 65536 in
set_option maxHeartbeats 40000000 in
theorem rmO_6 (l : Launch) (Z : State) (a0 : Array Value) (hw : ∀ d ∈ tables_1, d.before a0 Z = true) (ws : List Jvm.Cond) (vA : Addr) (kA : ClassId) (w0 w1 w2 w3 w4 w5 w6 w7 w8 w9 : Addr) (h0 : Heap) (n0 : Nat) (Z0 : n0 ≤ h0.size) (SV : Sta Z h0 "com/example/concordat/concordat/log/LogRecord$Kind" "$VALUES" "[Lcom/example/concordat/concordat/log/LogRecord$Kind;" (.ref vA)) (AV : Arv Z h0 vA kA (.object "com/example/concordat/concordat/log/LogRecord$Kind") 10 [.ref w0, .ref w1, .ref w2, .ref w3, .ref w4, .ref w5, .ref w6, .ref w7, .ref w8, .ref w9] .null) (EV : Exa Z h0 vA "[Lcom/example/concordat/concordat/log/LogRecord$Kind;") (FC0 : Fld Z h0 w0 "com/example/concordat/concordat/log/LogRecord$Kind" "code" "B" (.int (1 : Int32))) (FC1 : Fld Z h0 w1 "com/example/concordat/concordat/log/LogRecord$Kind" "code" "B" (.int (2 : Int32))) (FC2 : Fld Z h0 w2 "com/example/concordat/concordat/log/LogRecord$Kind" "code" "B" (.int (3 : Int32))) (FC3 : Fld Z h0 w3 "com/example/concordat/concordat/log/LogRecord$Kind" "code" "B" (.int (4 : Int32))) (FC4 : Fld Z h0 w4 "com/example/concordat/concordat/log/LogRecord$Kind" "code" "B" (.int (5 : Int32))) (FC5 : Fld Z h0 w5 "com/example/concordat/concordat/log/LogRecord$Kind" "code" "B" (.int (6 : Int32))) (FC6 : Fld Z h0 w6 "com/example/concordat/concordat/log/LogRecord$Kind" "code" "B" (.int (7 : Int32))) (FC7 : Fld Z h0 w7 "com/example/concordat/concordat/log/LogRecord$Kind" "code" "B" (.int (8 : Int32))) (FC8 : Fld Z h0 w8 "com/example/concordat/concordat/log/LogRecord$Kind" "code" "B" (.int (9 : Int32))) (FC9 : Fld Z h0 w9 "com/example/concordat/concordat/log/LogRecord$Kind" "code" "B" (.int (10 : Int32))) :
    MetFree l (⟨"com/example/concordat/concordat/log/LogRecord$Kind", "of", "(B)Lcom/example/concordat/concordat/log/LogRecord$Kind;"⟩ : MethodName) (head1 (Jvm.Cond.code (⟨"com/example/concordat/concordat/log/LogRecord$Kind", "of", "(B)Lcom/example/concordat/concordat/log/LogRecord$Kind;"⟩ : MethodName) prog_45_method_4_code 5 (some (.object "com/example/concordat/concordat/log/LogRecord$Kind")) :: ws) ({ frames := 2, cells := 1, slots := 10, locals := 25 } : Room)) (fun a U => a = #[(.int (6 : Int32))] ∧ Z.Warmed39 U.vm ∧ U.heap = h0) (fun _ _ _ _ _ => True) (fun _ U o U' => ∃ v L, o = .returned v ∧ QO_6 Z vA kA w0 w1 w2 w3 w4 w5 w6 w7 w8 w9 h0 n0 v U'.heap L ∧ FrameEnd U o U' L ({ frames := 2, cells := 1, slots := 10, locals := 25 } : Room).cells ({ frames := 2, cells := 1, slots := 10, locals := 25 } : Room).slots) := by
  refine MetFree.of_bodySF (plainFor_of_name pn_LogRecord_Kind) hisR ?_
  intro p e s m args below meth c s₁ Bd hml0 hP hK
  obtain ⟨rfl, hZ, hh⟩ := hP
  have hx := Bd.exec
  have hby := Bd.bytes
  have hml : c.maxLocals = 5 := hml0
  have hown : s.vm.findClass "com/example/concordat/concordat/log/LogRecord$Kind" = some m.cls := findClass_of_methodNamed Bd.named
  have hnm := (name_of_methodNamed Bd.named Bd.method).1
  have X0 : Stand p l e ({ frames := 2, cells := 1, slots := 10, locals := 25 } : Room) s m #[(.int (6 : Int32))] below meth c s₁ [] 0 0 := Stand.of_body Bd
  have e0 : s₁.heap = h0 := by rw [← hh, Bd.state]; rfl
  have N0 := Fr.nil n0
  have pre0 : ∀ t, Steps p.tables e below (s₁.setTop (mkF m 0 #[.val (.int (6 : Int32)), .unset, .unset, .unset, .unset] [])) t → Steps p.tables e below (s₁.setTop (entryFrame m #[(.int (6 : Int32))] 5)) t := fun t k => castTop (ef_1 m (6 : Int32)) k
  obtain ⟨_, _, ⟨T1, L1, k1, n1⟩, -, X1, ⟨Lc1, hQ1, l1, y1, z1⟩, st1⟩ := Jvm.LawKit.callS X0 hx (y := (⟨"com/example/concordat/concordat/log/LogRecord$Kind", "values", "()[Lcom/example/concordat/concordat/log/LogRecord$Kind;"⟩ : MethodName)) hown (mvT hZ (hw _ (List.mem_of_getElem? (i := 4) rfl))) (mvT hZ (hw _ (List.mem_of_getElem? (i := 5) rfl))) (mvT hZ (hw _ (List.mem_of_getElem? (i := 2) rfl))) (mvT hZ (hw _ (List.mem_of_getElem? (i := 6) rfl))) (by decide) (backOf (W := 0) (rmV l Z a0 hw [] vA kA w0 w1 w2 w3 w4 w5 w6 w7 w8 w9 h0 n0 Z0 SV AV EV) hZ (hw _ (List.mem_of_getElem? (i := 6) rfl)) (hw _ (List.mem_of_getElem? (i := 2) rfl)) (by decide) (by decide)) (g := (mkF m 0 #[.val (.int (6 : Int32)), .unset, .unset, .unset, .unset] [])) rfl (by rw [hml]; rfl) (argsL := []) (rest := []) (lenOf pd_0 rfl) rfl (by show 2 * 0 + _ ≤ _; exact Nat.le_of_eq rfl) (hb hby d1_0) (fun _ _ => ⟨rfl, e0, (by decide : 0 + 1 ≤ _), (by decide : 0 + 10 ≤ _)⟩)
  dsimp only [Pt.U, Pt.locs, Pt.cells, Pt.slots] at X1 l1 y1 z1 st1 hQ1
  subst l1 y1 z1
  obtain ⟨rfl, N1q, Ex, Av⟩ := hQ1
  have N1 := Fr.app N0 N1q
  obtain ⟨cl, Ar, -, Sz, Mz, H, -⟩ := Av
  obtain ⟨T2, X2, e2, st2⟩ := getF X1 hx hZ hown (host := "") (Or.inl (hw _ (List.mem_of_getElem? (i := 29) rfl))) Via.refl rfl (FC0.ext Ex) (g := (mkF m 21 #[.val (.int (6 : Int32)), .val (.ref h0.size), .val (.int (10 : Int32)), .val (.int (0 : Int32)), .val (.ref w0)] [(.ref w0)])) rfl rfl (hb hby d1_21)
  obtain ⟨T3, X3, e3, st3⟩ := getF X2 hx hZ hown (host := "") (Or.inl (hw _ (List.mem_of_getElem? (i := 29) rfl))) Via.refl e2 (FC1.ext Ex) (g := (mkF m 21 #[.val (.int (6 : Int32)), .val (.ref h0.size), .val (.int (10 : Int32)), .val (.int ((0 : Int32) + (1 : Int32))), .val (.ref w1)] [(.ref w1)])) rfl rfl (hb hby d1_21)
  obtain ⟨T4, X4, e4, st4⟩ := getF X3 hx hZ hown (host := "") (Or.inl (hw _ (List.mem_of_getElem? (i := 29) rfl))) Via.refl e3 (FC2.ext Ex) (g := (mkF m 21 #[.val (.int (6 : Int32)), .val (.ref h0.size), .val (.int (10 : Int32)), .val (.int (((0 : Int32) + (1 : Int32)) + (1 : Int32))), .val (.ref w2)] [(.ref w2)])) rfl rfl (hb hby d1_21)
  obtain ⟨T5, X5, e5, st5⟩ := getF X4 hx hZ hown (host := "") (Or.inl (hw _ (List.mem_of_getElem? (i := 29) rfl))) Via.refl e4 (FC3.ext Ex) (g := (mkF m 21 #[.val (.int (6 : Int32)), .val (.ref h0.size), .val (.int (10 : Int32)), .val (.int ((((0 : Int32) + (1 : Int32)) + (1 : Int32)) + (1 : Int32))), .val (.ref w3)] [(.ref w3)])) rfl rfl (hb hby d1_21)
  obtain ⟨T6, X6, e6, st6⟩ := getF X5 hx hZ hown (host := "") (Or.inl (hw _ (List.mem_of_getElem? (i := 29) rfl))) Via.refl e5 (FC4.ext Ex) (g := (mkF m 21 #[.val (.int (6 : Int32)), .val (.ref h0.size), .val (.int (10 : Int32)), .val (.int (((((0 : Int32) + (1 : Int32)) + (1 : Int32)) + (1 : Int32)) + (1 : Int32))), .val (.ref w4)] [(.ref w4)])) rfl rfl (hb hby d1_21)
  obtain ⟨T7, X7, e7, st7⟩ := getF X6 hx hZ hown (host := "") (Or.inl (hw _ (List.mem_of_getElem? (i := 29) rfl))) Via.refl e6 (FC5.ext Ex) (g := (mkF m 21 #[.val (.int (6 : Int32)), .val (.ref h0.size), .val (.int (10 : Int32)), .val (.int ((((((0 : Int32) + (1 : Int32)) + (1 : Int32)) + (1 : Int32)) + (1 : Int32)) + (1 : Int32))), .val (.ref w5)] [(.ref w5)])) rfl rfl (hb hby d1_21)
  obtain ⟨fs, hr, hrun, hended, hW, hsame⟩ := X7.leave (v := some (.ref w5)) (fun h => by rw [Bd.returns] at h; cases h)
  refine ⟨_, _, pre0 _ ?_, hrun, hended, _, _, rfl, ?_, ⟨_, rfl⟩, hW, hsame.mono (by decide) (by decide)⟩
  · show Steps p.tables e below (s₁.setTop (mkF m 0 #[.val (.int (6 : Int32)), .unset, .unset, .unset, .unset] [])) _
    refine st1 _ ?_
    show Steps p.tables e below (T1.setTop (mkF m 3 #[.val (.int (6 : Int32)), .unset, .unset, .unset, .unset] [(.ref h0.size)])) _
    refine XS.astoreN X1.here hx rfl (hb hby d1_3) rfl rfl (l' := #[.val (.int (6 : Int32)), .val (.ref h0.size), .unset, .unset, .unset]) rfl ?_
    show Steps p.tables e below (T1.setTop (mkF m 4 #[.val (.int (6 : Int32)), .val (.ref h0.size), .unset, .unset, .unset] [])) _
    refine XS.aloadN X1.here hx rfl (hb hby d1_4) rfl rfl ?_
    show Steps p.tables e below (T1.setTop (mkF m 5 #[.val (.int (6 : Int32)), .val (.ref h0.size), .unset, .unset, .unset] [(.ref h0.size)])) _
    refine X1.arraylength hx Ar.1 (State.isArrayOf_alike hZ.alike Ar.2.1) (g := (mkF m 5 #[.val (.int (6 : Int32)), .val (.ref h0.size), .unset, .unset, .unset] [(.ref h0.size)])) rfl rfl (hb hby d1_5) _ ?_
    rw [len_of Sz Mz]
    show Steps p.tables e below (T1.setTop (mkF m 6 #[.val (.int (6 : Int32)), .val (.ref h0.size), .unset, .unset, .unset] [(.int (10 : Int32))])) _
    refine XS.istoreN X1.here hx rfl (hb hby d1_6) rfl (l' := #[.val (.int (6 : Int32)), .val (.ref h0.size), .val (.int (10 : Int32)), .unset, .unset]) rfl ?_
    show Steps p.tables e below (T1.setTop (mkF m 7 #[.val (.int (6 : Int32)), .val (.ref h0.size), .val (.int (10 : Int32)), .unset, .unset] [])) _
    refine XS.iconst X1.here hx rfl (hb hby d1_7) ?_
    show Steps p.tables e below (T1.setTop (mkF m 8 #[.val (.int (6 : Int32)), .val (.ref h0.size), .val (.int (10 : Int32)), .unset, .unset] [(.int (0 : Int32))])) _
    refine XS.istoreN X1.here hx rfl (hb hby d1_8) rfl (l' := #[.val (.int (6 : Int32)), .val (.ref h0.size), .val (.int (10 : Int32)), .val (.int (0 : Int32)), .unset]) rfl ?_
    show Steps p.tables e below (T1.setTop (mkF m 9 #[.val (.int (6 : Int32)), .val (.ref h0.size), .val (.int (10 : Int32)), .val (.int (0 : Int32)), .unset] [])) _
    refine XS.iloadN X1.here hx rfl (hb hby d1_9) rfl ?_
    show Steps p.tables e below (T1.setTop (mkF m 10 #[.val (.int (6 : Int32)), .val (.ref h0.size), .val (.int (10 : Int32)), .val (.int (0 : Int32)), .unset] [(.int (0 : Int32))])) _
    refine XS.iloadN X1.here hx rfl (hb hby d1_10) rfl ?_
    show Steps p.tables e below (T1.setTop (mkF m 11 #[.val (.int (6 : Int32)), .val (.ref h0.size), .val (.int (10 : Int32)), .val (.int (0 : Int32)), .unset] [(.int (10 : Int32)), (.int (0 : Int32))])) _
    refine XS.icmpNo X1.here hx rfl (hb hby d1_11) rfl (tlt (by decide +kernel)).2.1 ?_
    show Steps p.tables e below (T1.setTop (mkF m 14 #[.val (.int (6 : Int32)), .val (.ref h0.size), .val (.int (10 : Int32)), .val (.int (0 : Int32)), .unset] [])) _
    refine XS.aloadN X1.here hx rfl (hb hby d1_14) rfl rfl ?_
    show Steps p.tables e below (T1.setTop (mkF m 15 #[.val (.int (6 : Int32)), .val (.ref h0.size), .val (.int (10 : Int32)), .val (.int (0 : Int32)), .unset] [(.ref h0.size)])) _
    refine XS.iloadN X1.here hx rfl (hb hby d1_15) rfl ?_
    show Steps p.tables e below (T1.setTop (mkF m 16 #[.val (.int (6 : Int32)), .val (.ref h0.size), .val (.int (10 : Int32)), .val (.int (0 : Int32)), .unset] [(.int (0 : Int32)), (.ref h0.size)])) _
    refine X1.aaload hx (j := (0 : Int32)) (v := (.ref w0)) Ar.1 (State.isArrayOf_alike hZ.alike Ar.2.1) rfl Ar.2.2 (inb_of Sz ⟨by decide, by decide⟩) (H.at (inb_of Sz ⟨by decide, by decide⟩) rfl) (g := (mkF m 16 #[.val (.int (6 : Int32)), .val (.ref h0.size), .val (.int (10 : Int32)), .val (.int (0 : Int32)), .unset] [(.int (0 : Int32)), (.ref h0.size)])) rfl rfl (hb hby d1_16) _ ?_
    show Steps p.tables e below (T1.setTop (mkF m 17 #[.val (.int (6 : Int32)), .val (.ref h0.size), .val (.int (10 : Int32)), .val (.int (0 : Int32)), .unset] [(.ref w0)])) _
    refine XS.astore X1.here hx rfl (hb hby d1_17) rfl rfl (l' := #[.val (.int (6 : Int32)), .val (.ref h0.size), .val (.int (10 : Int32)), .val (.int (0 : Int32)), .val (.ref w0)]) rfl ?_
    show Steps p.tables e below (T1.setTop (mkF m 19 #[.val (.int (6 : Int32)), .val (.ref h0.size), .val (.int (10 : Int32)), .val (.int (0 : Int32)), .val (.ref w0)] [])) _
    refine XS.aload X1.here hx rfl (hb hby d1_19) rfl rfl ?_
    show Steps p.tables e below (T1.setTop (mkF m 21 #[.val (.int (6 : Int32)), .val (.ref h0.size), .val (.int (10 : Int32)), .val (.int (0 : Int32)), .val (.ref w0)] [(.ref w0)])) _
    refine st2 _ ?_
    show Steps p.tables e below (T2.setTop (mkF m 24 #[.val (.int (6 : Int32)), .val (.ref h0.size), .val (.int (10 : Int32)), .val (.int (0 : Int32)), .val (.ref w0)] [(.int (1 : Int32))])) _
    refine XS.iloadN X2.here hx rfl (hb hby d1_24) rfl ?_
    show Steps p.tables e below (T2.setTop (mkF m 25 #[.val (.int (6 : Int32)), .val (.ref h0.size), .val (.int (10 : Int32)), .val (.int (0 : Int32)), .val (.ref w0)] [(.int (6 : Int32)), (.int (1 : Int32))])) _
    refine XS.icmpYes X2.here hx rfl (pc0 := 25) (pc' := 31) rfl (hb hby d1_25) rfl (feq (by decide +kernel)).2 (by decide) (by decide) ?_
    show Steps p.tables e below (T2.setTop (mkF m 31 #[.val (.int (6 : Int32)), .val (.ref h0.size), .val (.int (10 : Int32)), .val (.int (0 : Int32)), .val (.ref w0)] [])) _
    refine XS.iinc X2.here hx rfl (hb hby d1_31) rfl (l' := #[.val (.int (6 : Int32)), .val (.ref h0.size), .val (.int (10 : Int32)), .val (.int ((0 : Int32) + (1 : Int32))), .val (.ref w0)]) rfl ?_
    show Steps p.tables e below (T2.setTop (mkF m 34 #[.val (.int (6 : Int32)), .val (.ref h0.size), .val (.int (10 : Int32)), .val (.int ((0 : Int32) + (1 : Int32))), .val (.ref w0)] [])) _
    refine XS.goto X2.here hx rfl (pc0 := 34) (pc' := 9) rfl (hb hby d1_34) (by decide) (by decide) ?_
    show Steps p.tables e below (T2.setTop (mkF m 9 #[.val (.int (6 : Int32)), .val (.ref h0.size), .val (.int (10 : Int32)), .val (.int ((0 : Int32) + (1 : Int32))), .val (.ref w0)] [])) _
    refine XS.iloadN X2.here hx rfl (hb hby d1_9) rfl ?_
    show Steps p.tables e below (T2.setTop (mkF m 10 #[.val (.int (6 : Int32)), .val (.ref h0.size), .val (.int (10 : Int32)), .val (.int ((0 : Int32) + (1 : Int32))), .val (.ref w0)] [(.int ((0 : Int32) + (1 : Int32)))])) _
    refine XS.iloadN X2.here hx rfl (hb hby d1_10) rfl ?_
    show Steps p.tables e below (T2.setTop (mkF m 11 #[.val (.int (6 : Int32)), .val (.ref h0.size), .val (.int (10 : Int32)), .val (.int ((0 : Int32) + (1 : Int32))), .val (.ref w0)] [(.int (10 : Int32)), (.int ((0 : Int32) + (1 : Int32)))])) _
    refine XS.icmpNo X2.here hx rfl (hb hby d1_11) rfl (tlt (by decide +kernel)).2.1 ?_
    show Steps p.tables e below (T2.setTop (mkF m 14 #[.val (.int (6 : Int32)), .val (.ref h0.size), .val (.int (10 : Int32)), .val (.int ((0 : Int32) + (1 : Int32))), .val (.ref w0)] [])) _
    refine XS.aloadN X2.here hx rfl (hb hby d1_14) rfl rfl ?_
    show Steps p.tables e below (T2.setTop (mkF m 15 #[.val (.int (6 : Int32)), .val (.ref h0.size), .val (.int (10 : Int32)), .val (.int ((0 : Int32) + (1 : Int32))), .val (.ref w0)] [(.ref h0.size)])) _
    refine XS.iloadN X2.here hx rfl (hb hby d1_15) rfl ?_
    show Steps p.tables e below (T2.setTop (mkF m 16 #[.val (.int (6 : Int32)), .val (.ref h0.size), .val (.int (10 : Int32)), .val (.int ((0 : Int32) + (1 : Int32))), .val (.ref w0)] [(.int ((0 : Int32) + (1 : Int32))), (.ref h0.size)])) _
    refine X2.aaload hx (j := ((0 : Int32) + (1 : Int32))) (v := (.ref w1)) (by rw [e2]; exact Ar.1) (State.isArrayOf_alike hZ.alike Ar.2.1) rfl Ar.2.2 (inb_of Sz ⟨by decide, by decide⟩) (H.at (inb_of Sz ⟨by decide, by decide⟩) rfl) (g := (mkF m 16 #[.val (.int (6 : Int32)), .val (.ref h0.size), .val (.int (10 : Int32)), .val (.int ((0 : Int32) + (1 : Int32))), .val (.ref w0)] [(.int ((0 : Int32) + (1 : Int32))), (.ref h0.size)])) rfl rfl (hb hby d1_16) _ ?_
    show Steps p.tables e below (T2.setTop (mkF m 17 #[.val (.int (6 : Int32)), .val (.ref h0.size), .val (.int (10 : Int32)), .val (.int ((0 : Int32) + (1 : Int32))), .val (.ref w0)] [(.ref w1)])) _
    refine XS.astore X2.here hx rfl (hb hby d1_17) rfl rfl (l' := #[.val (.int (6 : Int32)), .val (.ref h0.size), .val (.int (10 : Int32)), .val (.int ((0 : Int32) + (1 : Int32))), .val (.ref w1)]) rfl ?_
    show Steps p.tables e below (T2.setTop (mkF m 19 #[.val (.int (6 : Int32)), .val (.ref h0.size), .val (.int (10 : Int32)), .val (.int ((0 : Int32) + (1 : Int32))), .val (.ref w1)] [])) _
    refine XS.aload X2.here hx rfl (hb hby d1_19) rfl rfl ?_
    show Steps p.tables e below (T2.setTop (mkF m 21 #[.val (.int (6 : Int32)), .val (.ref h0.size), .val (.int (10 : Int32)), .val (.int ((0 : Int32) + (1 : Int32))), .val (.ref w1)] [(.ref w1)])) _
    refine st3 _ ?_
    show Steps p.tables e below (T3.setTop (mkF m 24 #[.val (.int (6 : Int32)), .val (.ref h0.size), .val (.int (10 : Int32)), .val (.int ((0 : Int32) + (1 : Int32))), .val (.ref w1)] [(.int (2 : Int32))])) _
    refine XS.iloadN X3.here hx rfl (hb hby d1_24) rfl ?_
    show Steps p.tables e below (T3.setTop (mkF m 25 #[.val (.int (6 : Int32)), .val (.ref h0.size), .val (.int (10 : Int32)), .val (.int ((0 : Int32) + (1 : Int32))), .val (.ref w1)] [(.int (6 : Int32)), (.int (2 : Int32))])) _
    refine XS.icmpYes X3.here hx rfl (pc0 := 25) (pc' := 31) rfl (hb hby d1_25) rfl (feq (by decide +kernel)).2 (by decide) (by decide) ?_
    show Steps p.tables e below (T3.setTop (mkF m 31 #[.val (.int (6 : Int32)), .val (.ref h0.size), .val (.int (10 : Int32)), .val (.int ((0 : Int32) + (1 : Int32))), .val (.ref w1)] [])) _
    refine XS.iinc X3.here hx rfl (hb hby d1_31) rfl (l' := #[.val (.int (6 : Int32)), .val (.ref h0.size), .val (.int (10 : Int32)), .val (.int (((0 : Int32) + (1 : Int32)) + (1 : Int32))), .val (.ref w1)]) rfl ?_
    show Steps p.tables e below (T3.setTop (mkF m 34 #[.val (.int (6 : Int32)), .val (.ref h0.size), .val (.int (10 : Int32)), .val (.int (((0 : Int32) + (1 : Int32)) + (1 : Int32))), .val (.ref w1)] [])) _
    refine XS.goto X3.here hx rfl (pc0 := 34) (pc' := 9) rfl (hb hby d1_34) (by decide) (by decide) ?_
    show Steps p.tables e below (T3.setTop (mkF m 9 #[.val (.int (6 : Int32)), .val (.ref h0.size), .val (.int (10 : Int32)), .val (.int (((0 : Int32) + (1 : Int32)) + (1 : Int32))), .val (.ref w1)] [])) _
    refine XS.iloadN X3.here hx rfl (hb hby d1_9) rfl ?_
    show Steps p.tables e below (T3.setTop (mkF m 10 #[.val (.int (6 : Int32)), .val (.ref h0.size), .val (.int (10 : Int32)), .val (.int (((0 : Int32) + (1 : Int32)) + (1 : Int32))), .val (.ref w1)] [(.int (((0 : Int32) + (1 : Int32)) + (1 : Int32)))])) _
    refine XS.iloadN X3.here hx rfl (hb hby d1_10) rfl ?_
    show Steps p.tables e below (T3.setTop (mkF m 11 #[.val (.int (6 : Int32)), .val (.ref h0.size), .val (.int (10 : Int32)), .val (.int (((0 : Int32) + (1 : Int32)) + (1 : Int32))), .val (.ref w1)] [(.int (10 : Int32)), (.int (((0 : Int32) + (1 : Int32)) + (1 : Int32)))])) _
    refine XS.icmpNo X3.here hx rfl (hb hby d1_11) rfl (tlt (by decide +kernel)).2.1 ?_
    show Steps p.tables e below (T3.setTop (mkF m 14 #[.val (.int (6 : Int32)), .val (.ref h0.size), .val (.int (10 : Int32)), .val (.int (((0 : Int32) + (1 : Int32)) + (1 : Int32))), .val (.ref w1)] [])) _
    refine XS.aloadN X3.here hx rfl (hb hby d1_14) rfl rfl ?_
    show Steps p.tables e below (T3.setTop (mkF m 15 #[.val (.int (6 : Int32)), .val (.ref h0.size), .val (.int (10 : Int32)), .val (.int (((0 : Int32) + (1 : Int32)) + (1 : Int32))), .val (.ref w1)] [(.ref h0.size)])) _
    refine XS.iloadN X3.here hx rfl (hb hby d1_15) rfl ?_
    show Steps p.tables e below (T3.setTop (mkF m 16 #[.val (.int (6 : Int32)), .val (.ref h0.size), .val (.int (10 : Int32)), .val (.int (((0 : Int32) + (1 : Int32)) + (1 : Int32))), .val (.ref w1)] [(.int (((0 : Int32) + (1 : Int32)) + (1 : Int32))), (.ref h0.size)])) _
    refine X3.aaload hx (j := (((0 : Int32) + (1 : Int32)) + (1 : Int32))) (v := (.ref w2)) (by rw [e3]; exact Ar.1) (State.isArrayOf_alike hZ.alike Ar.2.1) rfl Ar.2.2 (inb_of Sz ⟨by decide, by decide⟩) (H.at (inb_of Sz ⟨by decide, by decide⟩) rfl) (g := (mkF m 16 #[.val (.int (6 : Int32)), .val (.ref h0.size), .val (.int (10 : Int32)), .val (.int (((0 : Int32) + (1 : Int32)) + (1 : Int32))), .val (.ref w1)] [(.int (((0 : Int32) + (1 : Int32)) + (1 : Int32))), (.ref h0.size)])) rfl rfl (hb hby d1_16) _ ?_
    show Steps p.tables e below (T3.setTop (mkF m 17 #[.val (.int (6 : Int32)), .val (.ref h0.size), .val (.int (10 : Int32)), .val (.int (((0 : Int32) + (1 : Int32)) + (1 : Int32))), .val (.ref w1)] [(.ref w2)])) _
    refine XS.astore X3.here hx rfl (hb hby d1_17) rfl rfl (l' := #[.val (.int (6 : Int32)), .val (.ref h0.size), .val (.int (10 : Int32)), .val (.int (((0 : Int32) + (1 : Int32)) + (1 : Int32))), .val (.ref w2)]) rfl ?_
    show Steps p.tables e below (T3.setTop (mkF m 19 #[.val (.int (6 : Int32)), .val (.ref h0.size), .val (.int (10 : Int32)), .val (.int (((0 : Int32) + (1 : Int32)) + (1 : Int32))), .val (.ref w2)] [])) _
    refine XS.aload X3.here hx rfl (hb hby d1_19) rfl rfl ?_
    show Steps p.tables e below (T3.setTop (mkF m 21 #[.val (.int (6 : Int32)), .val (.ref h0.size), .val (.int (10 : Int32)), .val (.int (((0 : Int32) + (1 : Int32)) + (1 : Int32))), .val (.ref w2)] [(.ref w2)])) _
    refine st4 _ ?_
    show Steps p.tables e below (T4.setTop (mkF m 24 #[.val (.int (6 : Int32)), .val (.ref h0.size), .val (.int (10 : Int32)), .val (.int (((0 : Int32) + (1 : Int32)) + (1 : Int32))), .val (.ref w2)] [(.int (3 : Int32))])) _
    refine XS.iloadN X4.here hx rfl (hb hby d1_24) rfl ?_
    show Steps p.tables e below (T4.setTop (mkF m 25 #[.val (.int (6 : Int32)), .val (.ref h0.size), .val (.int (10 : Int32)), .val (.int (((0 : Int32) + (1 : Int32)) + (1 : Int32))), .val (.ref w2)] [(.int (6 : Int32)), (.int (3 : Int32))])) _
    refine XS.icmpYes X4.here hx rfl (pc0 := 25) (pc' := 31) rfl (hb hby d1_25) rfl (feq (by decide +kernel)).2 (by decide) (by decide) ?_
    show Steps p.tables e below (T4.setTop (mkF m 31 #[.val (.int (6 : Int32)), .val (.ref h0.size), .val (.int (10 : Int32)), .val (.int (((0 : Int32) + (1 : Int32)) + (1 : Int32))), .val (.ref w2)] [])) _
    refine XS.iinc X4.here hx rfl (hb hby d1_31) rfl (l' := #[.val (.int (6 : Int32)), .val (.ref h0.size), .val (.int (10 : Int32)), .val (.int ((((0 : Int32) + (1 : Int32)) + (1 : Int32)) + (1 : Int32))), .val (.ref w2)]) rfl ?_
    show Steps p.tables e below (T4.setTop (mkF m 34 #[.val (.int (6 : Int32)), .val (.ref h0.size), .val (.int (10 : Int32)), .val (.int ((((0 : Int32) + (1 : Int32)) + (1 : Int32)) + (1 : Int32))), .val (.ref w2)] [])) _
    refine XS.goto X4.here hx rfl (pc0 := 34) (pc' := 9) rfl (hb hby d1_34) (by decide) (by decide) ?_
    show Steps p.tables e below (T4.setTop (mkF m 9 #[.val (.int (6 : Int32)), .val (.ref h0.size), .val (.int (10 : Int32)), .val (.int ((((0 : Int32) + (1 : Int32)) + (1 : Int32)) + (1 : Int32))), .val (.ref w2)] [])) _
    refine XS.iloadN X4.here hx rfl (hb hby d1_9) rfl ?_
    show Steps p.tables e below (T4.setTop (mkF m 10 #[.val (.int (6 : Int32)), .val (.ref h0.size), .val (.int (10 : Int32)), .val (.int ((((0 : Int32) + (1 : Int32)) + (1 : Int32)) + (1 : Int32))), .val (.ref w2)] [(.int ((((0 : Int32) + (1 : Int32)) + (1 : Int32)) + (1 : Int32)))])) _
    refine XS.iloadN X4.here hx rfl (hb hby d1_10) rfl ?_
    show Steps p.tables e below (T4.setTop (mkF m 11 #[.val (.int (6 : Int32)), .val (.ref h0.size), .val (.int (10 : Int32)), .val (.int ((((0 : Int32) + (1 : Int32)) + (1 : Int32)) + (1 : Int32))), .val (.ref w2)] [(.int (10 : Int32)), (.int ((((0 : Int32) + (1 : Int32)) + (1 : Int32)) + (1 : Int32)))])) _
    refine XS.icmpNo X4.here hx rfl (hb hby d1_11) rfl (tlt (by decide +kernel)).2.1 ?_
    show Steps p.tables e below (T4.setTop (mkF m 14 #[.val (.int (6 : Int32)), .val (.ref h0.size), .val (.int (10 : Int32)), .val (.int ((((0 : Int32) + (1 : Int32)) + (1 : Int32)) + (1 : Int32))), .val (.ref w2)] [])) _
    refine XS.aloadN X4.here hx rfl (hb hby d1_14) rfl rfl ?_
    show Steps p.tables e below (T4.setTop (mkF m 15 #[.val (.int (6 : Int32)), .val (.ref h0.size), .val (.int (10 : Int32)), .val (.int ((((0 : Int32) + (1 : Int32)) + (1 : Int32)) + (1 : Int32))), .val (.ref w2)] [(.ref h0.size)])) _
    refine XS.iloadN X4.here hx rfl (hb hby d1_15) rfl ?_
    show Steps p.tables e below (T4.setTop (mkF m 16 #[.val (.int (6 : Int32)), .val (.ref h0.size), .val (.int (10 : Int32)), .val (.int ((((0 : Int32) + (1 : Int32)) + (1 : Int32)) + (1 : Int32))), .val (.ref w2)] [(.int ((((0 : Int32) + (1 : Int32)) + (1 : Int32)) + (1 : Int32))), (.ref h0.size)])) _
    refine X4.aaload hx (j := ((((0 : Int32) + (1 : Int32)) + (1 : Int32)) + (1 : Int32))) (v := (.ref w3)) (by rw [e4]; exact Ar.1) (State.isArrayOf_alike hZ.alike Ar.2.1) rfl Ar.2.2 (inb_of Sz ⟨by decide, by decide⟩) (H.at (inb_of Sz ⟨by decide, by decide⟩) rfl) (g := (mkF m 16 #[.val (.int (6 : Int32)), .val (.ref h0.size), .val (.int (10 : Int32)), .val (.int ((((0 : Int32) + (1 : Int32)) + (1 : Int32)) + (1 : Int32))), .val (.ref w2)] [(.int ((((0 : Int32) + (1 : Int32)) + (1 : Int32)) + (1 : Int32))), (.ref h0.size)])) rfl rfl (hb hby d1_16) _ ?_
    show Steps p.tables e below (T4.setTop (mkF m 17 #[.val (.int (6 : Int32)), .val (.ref h0.size), .val (.int (10 : Int32)), .val (.int ((((0 : Int32) + (1 : Int32)) + (1 : Int32)) + (1 : Int32))), .val (.ref w2)] [(.ref w3)])) _
    refine XS.astore X4.here hx rfl (hb hby d1_17) rfl rfl (l' := #[.val (.int (6 : Int32)), .val (.ref h0.size), .val (.int (10 : Int32)), .val (.int ((((0 : Int32) + (1 : Int32)) + (1 : Int32)) + (1 : Int32))), .val (.ref w3)]) rfl ?_
    show Steps p.tables e below (T4.setTop (mkF m 19 #[.val (.int (6 : Int32)), .val (.ref h0.size), .val (.int (10 : Int32)), .val (.int ((((0 : Int32) + (1 : Int32)) + (1 : Int32)) + (1 : Int32))), .val (.ref w3)] [])) _
    refine XS.aload X4.here hx rfl (hb hby d1_19) rfl rfl ?_
    show Steps p.tables e below (T4.setTop (mkF m 21 #[.val (.int (6 : Int32)), .val (.ref h0.size), .val (.int (10 : Int32)), .val (.int ((((0 : Int32) + (1 : Int32)) + (1 : Int32)) + (1 : Int32))), .val (.ref w3)] [(.ref w3)])) _
    refine st5 _ ?_
    show Steps p.tables e below (T5.setTop (mkF m 24 #[.val (.int (6 : Int32)), .val (.ref h0.size), .val (.int (10 : Int32)), .val (.int ((((0 : Int32) + (1 : Int32)) + (1 : Int32)) + (1 : Int32))), .val (.ref w3)] [(.int (4 : Int32))])) _
    refine XS.iloadN X5.here hx rfl (hb hby d1_24) rfl ?_
    show Steps p.tables e below (T5.setTop (mkF m 25 #[.val (.int (6 : Int32)), .val (.ref h0.size), .val (.int (10 : Int32)), .val (.int ((((0 : Int32) + (1 : Int32)) + (1 : Int32)) + (1 : Int32))), .val (.ref w3)] [(.int (6 : Int32)), (.int (4 : Int32))])) _
    refine XS.icmpYes X5.here hx rfl (pc0 := 25) (pc' := 31) rfl (hb hby d1_25) rfl (feq (by decide +kernel)).2 (by decide) (by decide) ?_
    show Steps p.tables e below (T5.setTop (mkF m 31 #[.val (.int (6 : Int32)), .val (.ref h0.size), .val (.int (10 : Int32)), .val (.int ((((0 : Int32) + (1 : Int32)) + (1 : Int32)) + (1 : Int32))), .val (.ref w3)] [])) _
    refine XS.iinc X5.here hx rfl (hb hby d1_31) rfl (l' := #[.val (.int (6 : Int32)), .val (.ref h0.size), .val (.int (10 : Int32)), .val (.int (((((0 : Int32) + (1 : Int32)) + (1 : Int32)) + (1 : Int32)) + (1 : Int32))), .val (.ref w3)]) rfl ?_
    show Steps p.tables e below (T5.setTop (mkF m 34 #[.val (.int (6 : Int32)), .val (.ref h0.size), .val (.int (10 : Int32)), .val (.int (((((0 : Int32) + (1 : Int32)) + (1 : Int32)) + (1 : Int32)) + (1 : Int32))), .val (.ref w3)] [])) _
    refine XS.goto X5.here hx rfl (pc0 := 34) (pc' := 9) rfl (hb hby d1_34) (by decide) (by decide) ?_
    show Steps p.tables e below (T5.setTop (mkF m 9 #[.val (.int (6 : Int32)), .val (.ref h0.size), .val (.int (10 : Int32)), .val (.int (((((0 : Int32) + (1 : Int32)) + (1 : Int32)) + (1 : Int32)) + (1 : Int32))), .val (.ref w3)] [])) _
    refine XS.iloadN X5.here hx rfl (hb hby d1_9) rfl ?_
    show Steps p.tables e below (T5.setTop (mkF m 10 #[.val (.int (6 : Int32)), .val (.ref h0.size), .val (.int (10 : Int32)), .val (.int (((((0 : Int32) + (1 : Int32)) + (1 : Int32)) + (1 : Int32)) + (1 : Int32))), .val (.ref w3)] [(.int (((((0 : Int32) + (1 : Int32)) + (1 : Int32)) + (1 : Int32)) + (1 : Int32)))])) _
    refine XS.iloadN X5.here hx rfl (hb hby d1_10) rfl ?_
    show Steps p.tables e below (T5.setTop (mkF m 11 #[.val (.int (6 : Int32)), .val (.ref h0.size), .val (.int (10 : Int32)), .val (.int (((((0 : Int32) + (1 : Int32)) + (1 : Int32)) + (1 : Int32)) + (1 : Int32))), .val (.ref w3)] [(.int (10 : Int32)), (.int (((((0 : Int32) + (1 : Int32)) + (1 : Int32)) + (1 : Int32)) + (1 : Int32)))])) _
    refine XS.icmpNo X5.here hx rfl (hb hby d1_11) rfl (tlt (by decide +kernel)).2.1 ?_
    show Steps p.tables e below (T5.setTop (mkF m 14 #[.val (.int (6 : Int32)), .val (.ref h0.size), .val (.int (10 : Int32)), .val (.int (((((0 : Int32) + (1 : Int32)) + (1 : Int32)) + (1 : Int32)) + (1 : Int32))), .val (.ref w3)] [])) _
    refine XS.aloadN X5.here hx rfl (hb hby d1_14) rfl rfl ?_
    show Steps p.tables e below (T5.setTop (mkF m 15 #[.val (.int (6 : Int32)), .val (.ref h0.size), .val (.int (10 : Int32)), .val (.int (((((0 : Int32) + (1 : Int32)) + (1 : Int32)) + (1 : Int32)) + (1 : Int32))), .val (.ref w3)] [(.ref h0.size)])) _
    refine XS.iloadN X5.here hx rfl (hb hby d1_15) rfl ?_
    show Steps p.tables e below (T5.setTop (mkF m 16 #[.val (.int (6 : Int32)), .val (.ref h0.size), .val (.int (10 : Int32)), .val (.int (((((0 : Int32) + (1 : Int32)) + (1 : Int32)) + (1 : Int32)) + (1 : Int32))), .val (.ref w3)] [(.int (((((0 : Int32) + (1 : Int32)) + (1 : Int32)) + (1 : Int32)) + (1 : Int32))), (.ref h0.size)])) _
    refine X5.aaload hx (j := (((((0 : Int32) + (1 : Int32)) + (1 : Int32)) + (1 : Int32)) + (1 : Int32))) (v := (.ref w4)) (by rw [e5]; exact Ar.1) (State.isArrayOf_alike hZ.alike Ar.2.1) rfl Ar.2.2 (inb_of Sz ⟨by decide, by decide⟩) (H.at (inb_of Sz ⟨by decide, by decide⟩) rfl) (g := (mkF m 16 #[.val (.int (6 : Int32)), .val (.ref h0.size), .val (.int (10 : Int32)), .val (.int (((((0 : Int32) + (1 : Int32)) + (1 : Int32)) + (1 : Int32)) + (1 : Int32))), .val (.ref w3)] [(.int (((((0 : Int32) + (1 : Int32)) + (1 : Int32)) + (1 : Int32)) + (1 : Int32))), (.ref h0.size)])) rfl rfl (hb hby d1_16) _ ?_
    show Steps p.tables e below (T5.setTop (mkF m 17 #[.val (.int (6 : Int32)), .val (.ref h0.size), .val (.int (10 : Int32)), .val (.int (((((0 : Int32) + (1 : Int32)) + (1 : Int32)) + (1 : Int32)) + (1 : Int32))), .val (.ref w3)] [(.ref w4)])) _
    refine XS.astore X5.here hx rfl (hb hby d1_17) rfl rfl (l' := #[.val (.int (6 : Int32)), .val (.ref h0.size), .val (.int (10 : Int32)), .val (.int (((((0 : Int32) + (1 : Int32)) + (1 : Int32)) + (1 : Int32)) + (1 : Int32))), .val (.ref w4)]) rfl ?_
    show Steps p.tables e below (T5.setTop (mkF m 19 #[.val (.int (6 : Int32)), .val (.ref h0.size), .val (.int (10 : Int32)), .val (.int (((((0 : Int32) + (1 : Int32)) + (1 : Int32)) + (1 : Int32)) + (1 : Int32))), .val (.ref w4)] [])) _
    refine XS.aload X5.here hx rfl (hb hby d1_19) rfl rfl ?_
    show Steps p.tables e below (T5.setTop (mkF m 21 #[.val (.int (6 : Int32)), .val (.ref h0.size), .val (.int (10 : Int32)), .val (.int (((((0 : Int32) + (1 : Int32)) + (1 : Int32)) + (1 : Int32)) + (1 : Int32))), .val (.ref w4)] [(.ref w4)])) _
    refine st6 _ ?_
    show Steps p.tables e below (T6.setTop (mkF m 24 #[.val (.int (6 : Int32)), .val (.ref h0.size), .val (.int (10 : Int32)), .val (.int (((((0 : Int32) + (1 : Int32)) + (1 : Int32)) + (1 : Int32)) + (1 : Int32))), .val (.ref w4)] [(.int (5 : Int32))])) _
    refine XS.iloadN X6.here hx rfl (hb hby d1_24) rfl ?_
    show Steps p.tables e below (T6.setTop (mkF m 25 #[.val (.int (6 : Int32)), .val (.ref h0.size), .val (.int (10 : Int32)), .val (.int (((((0 : Int32) + (1 : Int32)) + (1 : Int32)) + (1 : Int32)) + (1 : Int32))), .val (.ref w4)] [(.int (6 : Int32)), (.int (5 : Int32))])) _
    refine XS.icmpYes X6.here hx rfl (pc0 := 25) (pc' := 31) rfl (hb hby d1_25) rfl (feq (by decide +kernel)).2 (by decide) (by decide) ?_
    show Steps p.tables e below (T6.setTop (mkF m 31 #[.val (.int (6 : Int32)), .val (.ref h0.size), .val (.int (10 : Int32)), .val (.int (((((0 : Int32) + (1 : Int32)) + (1 : Int32)) + (1 : Int32)) + (1 : Int32))), .val (.ref w4)] [])) _
    refine XS.iinc X6.here hx rfl (hb hby d1_31) rfl (l' := #[.val (.int (6 : Int32)), .val (.ref h0.size), .val (.int (10 : Int32)), .val (.int ((((((0 : Int32) + (1 : Int32)) + (1 : Int32)) + (1 : Int32)) + (1 : Int32)) + (1 : Int32))), .val (.ref w4)]) rfl ?_
    show Steps p.tables e below (T6.setTop (mkF m 34 #[.val (.int (6 : Int32)), .val (.ref h0.size), .val (.int (10 : Int32)), .val (.int ((((((0 : Int32) + (1 : Int32)) + (1 : Int32)) + (1 : Int32)) + (1 : Int32)) + (1 : Int32))), .val (.ref w4)] [])) _
    refine XS.goto X6.here hx rfl (pc0 := 34) (pc' := 9) rfl (hb hby d1_34) (by decide) (by decide) ?_
    show Steps p.tables e below (T6.setTop (mkF m 9 #[.val (.int (6 : Int32)), .val (.ref h0.size), .val (.int (10 : Int32)), .val (.int ((((((0 : Int32) + (1 : Int32)) + (1 : Int32)) + (1 : Int32)) + (1 : Int32)) + (1 : Int32))), .val (.ref w4)] [])) _
    refine XS.iloadN X6.here hx rfl (hb hby d1_9) rfl ?_
    show Steps p.tables e below (T6.setTop (mkF m 10 #[.val (.int (6 : Int32)), .val (.ref h0.size), .val (.int (10 : Int32)), .val (.int ((((((0 : Int32) + (1 : Int32)) + (1 : Int32)) + (1 : Int32)) + (1 : Int32)) + (1 : Int32))), .val (.ref w4)] [(.int ((((((0 : Int32) + (1 : Int32)) + (1 : Int32)) + (1 : Int32)) + (1 : Int32)) + (1 : Int32)))])) _
    refine XS.iloadN X6.here hx rfl (hb hby d1_10) rfl ?_
    show Steps p.tables e below (T6.setTop (mkF m 11 #[.val (.int (6 : Int32)), .val (.ref h0.size), .val (.int (10 : Int32)), .val (.int ((((((0 : Int32) + (1 : Int32)) + (1 : Int32)) + (1 : Int32)) + (1 : Int32)) + (1 : Int32))), .val (.ref w4)] [(.int (10 : Int32)), (.int ((((((0 : Int32) + (1 : Int32)) + (1 : Int32)) + (1 : Int32)) + (1 : Int32)) + (1 : Int32)))])) _
    refine XS.icmpNo X6.here hx rfl (hb hby d1_11) rfl (tlt (by decide +kernel)).2.1 ?_
    show Steps p.tables e below (T6.setTop (mkF m 14 #[.val (.int (6 : Int32)), .val (.ref h0.size), .val (.int (10 : Int32)), .val (.int ((((((0 : Int32) + (1 : Int32)) + (1 : Int32)) + (1 : Int32)) + (1 : Int32)) + (1 : Int32))), .val (.ref w4)] [])) _
    refine XS.aloadN X6.here hx rfl (hb hby d1_14) rfl rfl ?_
    show Steps p.tables e below (T6.setTop (mkF m 15 #[.val (.int (6 : Int32)), .val (.ref h0.size), .val (.int (10 : Int32)), .val (.int ((((((0 : Int32) + (1 : Int32)) + (1 : Int32)) + (1 : Int32)) + (1 : Int32)) + (1 : Int32))), .val (.ref w4)] [(.ref h0.size)])) _
    refine XS.iloadN X6.here hx rfl (hb hby d1_15) rfl ?_
    show Steps p.tables e below (T6.setTop (mkF m 16 #[.val (.int (6 : Int32)), .val (.ref h0.size), .val (.int (10 : Int32)), .val (.int ((((((0 : Int32) + (1 : Int32)) + (1 : Int32)) + (1 : Int32)) + (1 : Int32)) + (1 : Int32))), .val (.ref w4)] [(.int ((((((0 : Int32) + (1 : Int32)) + (1 : Int32)) + (1 : Int32)) + (1 : Int32)) + (1 : Int32))), (.ref h0.size)])) _
    refine X6.aaload hx (j := ((((((0 : Int32) + (1 : Int32)) + (1 : Int32)) + (1 : Int32)) + (1 : Int32)) + (1 : Int32))) (v := (.ref w5)) (by rw [e6]; exact Ar.1) (State.isArrayOf_alike hZ.alike Ar.2.1) rfl Ar.2.2 (inb_of Sz ⟨by decide, by decide⟩) (H.at (inb_of Sz ⟨by decide, by decide⟩) rfl) (g := (mkF m 16 #[.val (.int (6 : Int32)), .val (.ref h0.size), .val (.int (10 : Int32)), .val (.int ((((((0 : Int32) + (1 : Int32)) + (1 : Int32)) + (1 : Int32)) + (1 : Int32)) + (1 : Int32))), .val (.ref w4)] [(.int ((((((0 : Int32) + (1 : Int32)) + (1 : Int32)) + (1 : Int32)) + (1 : Int32)) + (1 : Int32))), (.ref h0.size)])) rfl rfl (hb hby d1_16) _ ?_
    show Steps p.tables e below (T6.setTop (mkF m 17 #[.val (.int (6 : Int32)), .val (.ref h0.size), .val (.int (10 : Int32)), .val (.int ((((((0 : Int32) + (1 : Int32)) + (1 : Int32)) + (1 : Int32)) + (1 : Int32)) + (1 : Int32))), .val (.ref w4)] [(.ref w5)])) _
    refine XS.astore X6.here hx rfl (hb hby d1_17) rfl rfl (l' := #[.val (.int (6 : Int32)), .val (.ref h0.size), .val (.int (10 : Int32)), .val (.int ((((((0 : Int32) + (1 : Int32)) + (1 : Int32)) + (1 : Int32)) + (1 : Int32)) + (1 : Int32))), .val (.ref w5)]) rfl ?_
    show Steps p.tables e below (T6.setTop (mkF m 19 #[.val (.int (6 : Int32)), .val (.ref h0.size), .val (.int (10 : Int32)), .val (.int ((((((0 : Int32) + (1 : Int32)) + (1 : Int32)) + (1 : Int32)) + (1 : Int32)) + (1 : Int32))), .val (.ref w5)] [])) _
    refine XS.aload X6.here hx rfl (hb hby d1_19) rfl rfl ?_
    show Steps p.tables e below (T6.setTop (mkF m 21 #[.val (.int (6 : Int32)), .val (.ref h0.size), .val (.int (10 : Int32)), .val (.int ((((((0 : Int32) + (1 : Int32)) + (1 : Int32)) + (1 : Int32)) + (1 : Int32)) + (1 : Int32))), .val (.ref w5)] [(.ref w5)])) _
    refine st7 _ ?_
    show Steps p.tables e below (T7.setTop (mkF m 24 #[.val (.int (6 : Int32)), .val (.ref h0.size), .val (.int (10 : Int32)), .val (.int ((((((0 : Int32) + (1 : Int32)) + (1 : Int32)) + (1 : Int32)) + (1 : Int32)) + (1 : Int32))), .val (.ref w5)] [(.int (6 : Int32))])) _
    refine XS.iloadN X7.here hx rfl (hb hby d1_24) rfl ?_
    show Steps p.tables e below (T7.setTop (mkF m 25 #[.val (.int (6 : Int32)), .val (.ref h0.size), .val (.int (10 : Int32)), .val (.int ((((((0 : Int32) + (1 : Int32)) + (1 : Int32)) + (1 : Int32)) + (1 : Int32)) + (1 : Int32))), .val (.ref w5)] [(.int (6 : Int32)), (.int (6 : Int32))])) _
    refine XS.icmpNo X7.here hx rfl (hb hby d1_25) rfl (teq (by decide +kernel)).2 ?_
    show Steps p.tables e below (T7.setTop (mkF m 28 #[.val (.int (6 : Int32)), .val (.ref h0.size), .val (.int (10 : Int32)), .val (.int ((((((0 : Int32) + (1 : Int32)) + (1 : Int32)) + (1 : Int32)) + (1 : Int32)) + (1 : Int32))), .val (.ref w5)] [])) _
    refine XS.aload X7.here hx rfl (hb hby d1_28) rfl rfl ?_
    show Steps p.tables e below (T7.setTop (mkF m 30 #[.val (.int (6 : Int32)), .val (.ref h0.size), .val (.int (10 : Int32)), .val (.int ((((((0 : Int32) + (1 : Int32)) + (1 : Int32)) + (1 : Int32)) + (1 : Int32)) + (1 : Int32))), .val (.ref w5)] [(.ref w5)])) _
    jvm_step X7.here [X7.here.top, hx, (hb hby d1_30), X7.method', Bd.returns, Value.isRef, FieldType.isReference]
    first | (intro acts; rw [hr _ acts rfl rfl rfl]) | rw [hr _ _ rfl rfl rfl]
    exact Steps.refl _
  · show QO_6 Z vA kA w0 w1 w2 w3 w4 w5 w6 w7 w8 w9 h0 n0 _ T7.heap _
    rw [e7]
    exact ⟨rfl, N1, Ex⟩
def QO_7 (Z : State) (vA : Addr) (kA : ClassId) (w0 w1 w2 w3 w4 w5 w6 w7 w8 w9 : Addr) (h0 : Heap) (n0 : Nat) (v : Option Value) (h : Heap) (L : List Loc) : Prop := v = some (.ref w6) ∧ Fr n0 L ∧ Ext h0 h
set_option maxRecDepth 65536 in
set_option maxHeartbeats 40000000 in
theorem rmO_7 (l : Launch) (Z : State) (a0 : Array Value) (hw : ∀ d ∈ tables_1, d.before a0 Z = true) (ws : List Jvm.Cond) (vA : Addr) (kA : ClassId) (w0 w1 w2 w3 w4 w5 w6 w7 w8 w9 : Addr) (h0 : Heap) (n0 : Nat) (Z0 : n0 ≤ h0.size) (SV : Sta Z h0 "com/example/concordat/concordat/log/LogRecord$Kind" "$VALUES" "[Lcom/example/concordat/concordat/log/LogRecord$Kind;" (.ref vA)) (AV : Arv Z h0 vA kA (.object "com/example/concordat/concordat/log/LogRecord$Kind") 10 [.ref w0, .ref w1, .ref w2, .ref w3, .ref w4, .ref w5, .ref w6, .ref w7, .ref w8, .ref w9] .null) (EV : Exa Z h0 vA "[Lcom/example/concordat/concordat/log/LogRecord$Kind;") (FC0 : Fld Z h0 w0 "com/example/concordat/concordat/log/LogRecord$Kind" "code" "B" (.int (1 : Int32))) (FC1 : Fld Z h0 w1 "com/example/concordat/concordat/log/LogRecord$Kind" "code" "B" (.int (2 : Int32))) (FC2 : Fld Z h0 w2 "com/example/concordat/concordat/log/LogRecord$Kind" "code" "B" (.int (3 : Int32))) (FC3 : Fld Z h0 w3 "com/example/concordat/concordat/log/LogRecord$Kind" "code" "B" (.int (4 : Int32))) (FC4 : Fld Z h0 w4 "com/example/concordat/concordat/log/LogRecord$Kind" "code" "B" (.int (5 : Int32))) (FC5 : Fld Z h0 w5 "com/example/concordat/concordat/log/LogRecord$Kind" "code" "B" (.int (6 : Int32))) (FC6 : Fld Z h0 w6 "com/example/concordat/concordat/log/LogRecord$Kind" "code" "B" (.int (7 : Int32))) (FC7 : Fld Z h0 w7 "com/example/concordat/concordat/log/LogRecord$Kind" "code" "B" (.int (8 : Int32))) (FC8 : Fld Z h0 w8 "com/example/concordat/concordat/log/LogRecord$Kind" "code" "B" (.int (9 : Int32))) (FC9 : Fld Z h0 w9 "com/example/concordat/concordat/log/LogRecord$Kind" "code" "B" (.int (10 : Int32))) :
    MetFree l (⟨"com/example/concordat/concordat/log/LogRecord$Kind", "of", "(B)Lcom/example/concordat/concordat/log/LogRecord$Kind;"⟩ : MethodName) (head1 (Jvm.Cond.code (⟨"com/example/concordat/concordat/log/LogRecord$Kind", "of", "(B)Lcom/example/concordat/concordat/log/LogRecord$Kind;"⟩ : MethodName) prog_45_method_4_code 5 (some (.object "com/example/concordat/concordat/log/LogRecord$Kind")) :: ws) ({ frames := 2, cells := 1, slots := 10, locals := 25 } : Room)) (fun a U => a = #[(.int (7 : Int32))] ∧ Z.Warmed39 U.vm ∧ U.heap = h0) (fun _ _ _ _ _ => True) (fun _ U o U' => ∃ v L, o = .returned v ∧ QO_7 Z vA kA w0 w1 w2 w3 w4 w5 w6 w7 w8 w9 h0 n0 v U'.heap L ∧ FrameEnd U o U' L ({ frames := 2, cells := 1, slots := 10, locals := 25 } : Room).cells ({ frames := 2, cells := 1, slots := 10, locals := 25 } : Room).slots) := by
  refine MetFree.of_bodySF (plainFor_of_name pn_LogRecord_Kind) hisR ?_
  intro p e s m args below meth c s₁ Bd hml0 hP hK
  obtain ⟨rfl, hZ, hh⟩ := hP
  have hx := Bd.exec
  have hby := Bd.bytes
  have hml : c.maxLocals = 5 := hml0
  have hown : s.vm.findClass "com/example/concordat/concordat/log/LogRecord$Kind" = some m.cls := findClass_of_methodNamed Bd.named
  have hnm := (name_of_methodNamed Bd.named Bd.method).1
  have X0 : Stand p l e ({ frames := 2, cells := 1, slots := 10, locals := 25 } : Room) s m #[(.int (7 : Int32))] below meth c s₁ [] 0 0 := Stand.of_body Bd
  have e0 : s₁.heap = h0 := by rw [← hh, Bd.state]; rfl
  have N0 := Fr.nil n0
  have pre0 : ∀ t, Steps p.tables e below (s₁.setTop (mkF m 0 #[.val (.int (7 : Int32)), .unset, .unset, .unset, .unset] [])) t → Steps p.tables e below (s₁.setTop (entryFrame m #[(.int (7 : Int32))] 5)) t := fun t k => castTop (ef_1 m (7 : Int32)) k
  obtain ⟨_, _, ⟨T1, L1, k1, n1⟩, -, X1, ⟨Lc1, hQ1, l1, y1, z1⟩, st1⟩ := Jvm.LawKit.callS X0 hx (y := (⟨"com/example/concordat/concordat/log/LogRecord$Kind", "values", "()[Lcom/example/concordat/concordat/log/LogRecord$Kind;"⟩ : MethodName)) hown (mvT hZ (hw _ (List.mem_of_getElem? (i := 4) rfl))) (mvT hZ (hw _ (List.mem_of_getElem? (i := 5) rfl))) (mvT hZ (hw _ (List.mem_of_getElem? (i := 2) rfl))) (mvT hZ (hw _ (List.mem_of_getElem? (i := 6) rfl))) (by decide) (backOf (W := 0) (rmV l Z a0 hw [] vA kA w0 w1 w2 w3 w4 w5 w6 w7 w8 w9 h0 n0 Z0 SV AV EV) hZ (hw _ (List.mem_of_getElem? (i := 6) rfl)) (hw _ (List.mem_of_getElem? (i := 2) rfl)) (by decide) (by decide)) (g := (mkF m 0 #[.val (.int (7 : Int32)), .unset, .unset, .unset, .unset] [])) rfl (by rw [hml]; rfl) (argsL := []) (rest := []) (lenOf pd_0 rfl) rfl (by show 2 * 0 + _ ≤ _; exact Nat.le_of_eq rfl) (hb hby d1_0) (fun _ _ => ⟨rfl, e0, (by decide : 0 + 1 ≤ _), (by decide : 0 + 10 ≤ _)⟩)
  dsimp only [Pt.U, Pt.locs, Pt.cells, Pt.slots] at X1 l1 y1 z1 st1 hQ1
  subst l1 y1 z1
  obtain ⟨rfl, N1q, Ex, Av⟩ := hQ1
  have N1 := Fr.app N0 N1q
  obtain ⟨cl, Ar, -, Sz, Mz, H, -⟩ := Av
  obtain ⟨T2, X2, e2, st2⟩ := getF X1 hx hZ hown (host := "") (Or.inl (hw _ (List.mem_of_getElem? (i := 29) rfl))) Via.refl rfl (FC0.ext Ex) (g := (mkF m 21 #[.val (.int (7 : Int32)), .val (.ref h0.size), .val (.int (10 : Int32)), .val (.int (0 : Int32)), .val (.ref w0)] [(.ref w0)])) rfl rfl (hb hby d1_21)
  obtain ⟨T3, X3, e3, st3⟩ := getF X2 hx hZ hown (host := "") (Or.inl (hw _ (List.mem_of_getElem? (i := 29) rfl))) Via.refl e2 (FC1.ext Ex) (g := (mkF m 21 #[.val (.int (7 : Int32)), .val (.ref h0.size), .val (.int (10 : Int32)), .val (.int ((0 : Int32) + (1 : Int32))), .val (.ref w1)] [(.ref w1)])) rfl rfl (hb hby d1_21)
  obtain ⟨T4, X4, e4, st4⟩ := getF X3 hx hZ hown (host := "") (Or.inl (hw _ (List.mem_of_getElem? (i := 29) rfl))) Via.refl e3 (FC2.ext Ex) (g := (mkF m 21 #[.val (.int (7 : Int32)), .val (.ref h0.size), .val (.int (10 : Int32)), .val (.int (((0 : Int32) + (1 : Int32)) + (1 : Int32))), .val (.ref w2)] [(.ref w2)])) rfl rfl (hb hby d1_21)
  obtain ⟨T5, X5, e5, st5⟩ := getF X4 hx hZ hown (host := "") (Or.inl (hw _ (List.mem_of_getElem? (i := 29) rfl))) Via.refl e4 (FC3.ext Ex) (g := (mkF m 21 #[.val (.int (7 : Int32)), .val (.ref h0.size), .val (.int (10 : Int32)), .val (.int ((((0 : Int32) + (1 : Int32)) + (1 : Int32)) + (1 : Int32))), .val (.ref w3)] [(.ref w3)])) rfl rfl (hb hby d1_21)
  obtain ⟨T6, X6, e6, st6⟩ := getF X5 hx hZ hown (host := "") (Or.inl (hw _ (List.mem_of_getElem? (i := 29) rfl))) Via.refl e5 (FC4.ext Ex) (g := (mkF m 21 #[.val (.int (7 : Int32)), .val (.ref h0.size), .val (.int (10 : Int32)), .val (.int (((((0 : Int32) + (1 : Int32)) + (1 : Int32)) + (1 : Int32)) + (1 : Int32))), .val (.ref w4)] [(.ref w4)])) rfl rfl (hb hby d1_21)
  obtain ⟨T7, X7, e7, st7⟩ := getF X6 hx hZ hown (host := "") (Or.inl (hw _ (List.mem_of_getElem? (i := 29) rfl))) Via.refl e6 (FC5.ext Ex) (g := (mkF m 21 #[.val (.int (7 : Int32)), .val (.ref h0.size), .val (.int (10 : Int32)), .val (.int ((((((0 : Int32) + (1 : Int32)) + (1 : Int32)) + (1 : Int32)) + (1 : Int32)) + (1 : Int32))), .val (.ref w5)] [(.ref w5)])) rfl rfl (hb hby d1_21)
  obtain ⟨T8, X8, e8, st8⟩ := getF X7 hx hZ hown (host := "") (Or.inl (hw _ (List.mem_of_getElem? (i := 29) rfl))) Via.refl e7 (FC6.ext Ex) (g := (mkF m 21 #[.val (.int (7 : Int32)), .val (.ref h0.size), .val (.int (10 : Int32)), .val (.int (((((((0 : Int32) + (1 : Int32)) + (1 : Int32)) + (1 : Int32)) + (1 : Int32)) + (1 : Int32)) + (1 : Int32))), .val (.ref w6)] [(.ref w6)])) rfl rfl (hb hby d1_21)
  obtain ⟨fs, hr, hrun, hended, hW, hsame⟩ := X8.leave (v := some (.ref w6)) (fun h => by rw [Bd.returns] at h; cases h)
  refine ⟨_, _, pre0 _ ?_, hrun, hended, _, _, rfl, ?_, ⟨_, rfl⟩, hW, hsame.mono (by decide) (by decide)⟩
  · show Steps p.tables e below (s₁.setTop (mkF m 0 #[.val (.int (7 : Int32)), .unset, .unset, .unset, .unset] [])) _
    refine st1 _ ?_
    show Steps p.tables e below (T1.setTop (mkF m 3 #[.val (.int (7 : Int32)), .unset, .unset, .unset, .unset] [(.ref h0.size)])) _
    refine XS.astoreN X1.here hx rfl (hb hby d1_3) rfl rfl (l' := #[.val (.int (7 : Int32)), .val (.ref h0.size), .unset, .unset, .unset]) rfl ?_
    show Steps p.tables e below (T1.setTop (mkF m 4 #[.val (.int (7 : Int32)), .val (.ref h0.size), .unset, .unset, .unset] [])) _
    refine XS.aloadN X1.here hx rfl (hb hby d1_4) rfl rfl ?_
    show Steps p.tables e below (T1.setTop (mkF m 5 #[.val (.int (7 : Int32)), .val (.ref h0.size), .unset, .unset, .unset] [(.ref h0.size)])) _
    refine X1.arraylength hx Ar.1 (State.isArrayOf_alike hZ.alike Ar.2.1) (g := (mkF m 5 #[.val (.int (7 : Int32)), .val (.ref h0.size), .unset, .unset, .unset] [(.ref h0.size)])) rfl rfl (hb hby d1_5) _ ?_
    rw [len_of Sz Mz]
    show Steps p.tables e below (T1.setTop (mkF m 6 #[.val (.int (7 : Int32)), .val (.ref h0.size), .unset, .unset, .unset] [(.int (10 : Int32))])) _
    refine XS.istoreN X1.here hx rfl (hb hby d1_6) rfl (l' := #[.val (.int (7 : Int32)), .val (.ref h0.size), .val (.int (10 : Int32)), .unset, .unset]) rfl ?_
    show Steps p.tables e below (T1.setTop (mkF m 7 #[.val (.int (7 : Int32)), .val (.ref h0.size), .val (.int (10 : Int32)), .unset, .unset] [])) _
    refine XS.iconst X1.here hx rfl (hb hby d1_7) ?_
    show Steps p.tables e below (T1.setTop (mkF m 8 #[.val (.int (7 : Int32)), .val (.ref h0.size), .val (.int (10 : Int32)), .unset, .unset] [(.int (0 : Int32))])) _
    refine XS.istoreN X1.here hx rfl (hb hby d1_8) rfl (l' := #[.val (.int (7 : Int32)), .val (.ref h0.size), .val (.int (10 : Int32)), .val (.int (0 : Int32)), .unset]) rfl ?_
    show Steps p.tables e below (T1.setTop (mkF m 9 #[.val (.int (7 : Int32)), .val (.ref h0.size), .val (.int (10 : Int32)), .val (.int (0 : Int32)), .unset] [])) _
    refine XS.iloadN X1.here hx rfl (hb hby d1_9) rfl ?_
    show Steps p.tables e below (T1.setTop (mkF m 10 #[.val (.int (7 : Int32)), .val (.ref h0.size), .val (.int (10 : Int32)), .val (.int (0 : Int32)), .unset] [(.int (0 : Int32))])) _
    refine XS.iloadN X1.here hx rfl (hb hby d1_10) rfl ?_
    show Steps p.tables e below (T1.setTop (mkF m 11 #[.val (.int (7 : Int32)), .val (.ref h0.size), .val (.int (10 : Int32)), .val (.int (0 : Int32)), .unset] [(.int (10 : Int32)), (.int (0 : Int32))])) _
    refine XS.icmpNo X1.here hx rfl (hb hby d1_11) rfl (tlt (by decide +kernel)).2.1 ?_
    show Steps p.tables e below (T1.setTop (mkF m 14 #[.val (.int (7 : Int32)), .val (.ref h0.size), .val (.int (10 : Int32)), .val (.int (0 : Int32)), .unset] [])) _
    refine XS.aloadN X1.here hx rfl (hb hby d1_14) rfl rfl ?_
    show Steps p.tables e below (T1.setTop (mkF m 15 #[.val (.int (7 : Int32)), .val (.ref h0.size), .val (.int (10 : Int32)), .val (.int (0 : Int32)), .unset] [(.ref h0.size)])) _
    refine XS.iloadN X1.here hx rfl (hb hby d1_15) rfl ?_
    show Steps p.tables e below (T1.setTop (mkF m 16 #[.val (.int (7 : Int32)), .val (.ref h0.size), .val (.int (10 : Int32)), .val (.int (0 : Int32)), .unset] [(.int (0 : Int32)), (.ref h0.size)])) _
    refine X1.aaload hx (j := (0 : Int32)) (v := (.ref w0)) Ar.1 (State.isArrayOf_alike hZ.alike Ar.2.1) rfl Ar.2.2 (inb_of Sz ⟨by decide, by decide⟩) (H.at (inb_of Sz ⟨by decide, by decide⟩) rfl) (g := (mkF m 16 #[.val (.int (7 : Int32)), .val (.ref h0.size), .val (.int (10 : Int32)), .val (.int (0 : Int32)), .unset] [(.int (0 : Int32)), (.ref h0.size)])) rfl rfl (hb hby d1_16) _ ?_
    show Steps p.tables e below (T1.setTop (mkF m 17 #[.val (.int (7 : Int32)), .val (.ref h0.size), .val (.int (10 : Int32)), .val (.int (0 : Int32)), .unset] [(.ref w0)])) _
    refine XS.astore X1.here hx rfl (hb hby d1_17) rfl rfl (l' := #[.val (.int (7 : Int32)), .val (.ref h0.size), .val (.int (10 : Int32)), .val (.int (0 : Int32)), .val (.ref w0)]) rfl ?_
    show Steps p.tables e below (T1.setTop (mkF m 19 #[.val (.int (7 : Int32)), .val (.ref h0.size), .val (.int (10 : Int32)), .val (.int (0 : Int32)), .val (.ref w0)] [])) _
    refine XS.aload X1.here hx rfl (hb hby d1_19) rfl rfl ?_
    show Steps p.tables e below (T1.setTop (mkF m 21 #[.val (.int (7 : Int32)), .val (.ref h0.size), .val (.int (10 : Int32)), .val (.int (0 : Int32)), .val (.ref w0)] [(.ref w0)])) _
    refine st2 _ ?_
    show Steps p.tables e below (T2.setTop (mkF m 24 #[.val (.int (7 : Int32)), .val (.ref h0.size), .val (.int (10 : Int32)), .val (.int (0 : Int32)), .val (.ref w0)] [(.int (1 : Int32))])) _
    refine XS.iloadN X2.here hx rfl (hb hby d1_24) rfl ?_
    show Steps p.tables e below (T2.setTop (mkF m 25 #[.val (.int (7 : Int32)), .val (.ref h0.size), .val (.int (10 : Int32)), .val (.int (0 : Int32)), .val (.ref w0)] [(.int (7 : Int32)), (.int (1 : Int32))])) _
    refine XS.icmpYes X2.here hx rfl (pc0 := 25) (pc' := 31) rfl (hb hby d1_25) rfl (feq (by decide +kernel)).2 (by decide) (by decide) ?_
    show Steps p.tables e below (T2.setTop (mkF m 31 #[.val (.int (7 : Int32)), .val (.ref h0.size), .val (.int (10 : Int32)), .val (.int (0 : Int32)), .val (.ref w0)] [])) _
    refine XS.iinc X2.here hx rfl (hb hby d1_31) rfl (l' := #[.val (.int (7 : Int32)), .val (.ref h0.size), .val (.int (10 : Int32)), .val (.int ((0 : Int32) + (1 : Int32))), .val (.ref w0)]) rfl ?_
    show Steps p.tables e below (T2.setTop (mkF m 34 #[.val (.int (7 : Int32)), .val (.ref h0.size), .val (.int (10 : Int32)), .val (.int ((0 : Int32) + (1 : Int32))), .val (.ref w0)] [])) _
    refine XS.goto X2.here hx rfl (pc0 := 34) (pc' := 9) rfl (hb hby d1_34) (by decide) (by decide) ?_
    show Steps p.tables e below (T2.setTop (mkF m 9 #[.val (.int (7 : Int32)), .val (.ref h0.size), .val (.int (10 : Int32)), .val (.int ((0 : Int32) + (1 : Int32))), .val (.ref w0)] [])) _
    refine XS.iloadN X2.here hx rfl (hb hby d1_9) rfl ?_
    show Steps p.tables e below (T2.setTop (mkF m 10 #[.val (.int (7 : Int32)), .val (.ref h0.size), .val (.int (10 : Int32)), .val (.int ((0 : Int32) + (1 : Int32))), .val (.ref w0)] [(.int ((0 : Int32) + (1 : Int32)))])) _
    refine XS.iloadN X2.here hx rfl (hb hby d1_10) rfl ?_
    show Steps p.tables e below (T2.setTop (mkF m 11 #[.val (.int (7 : Int32)), .val (.ref h0.size), .val (.int (10 : Int32)), .val (.int ((0 : Int32) + (1 : Int32))), .val (.ref w0)] [(.int (10 : Int32)), (.int ((0 : Int32) + (1 : Int32)))])) _
    refine XS.icmpNo X2.here hx rfl (hb hby d1_11) rfl (tlt (by decide +kernel)).2.1 ?_
    show Steps p.tables e below (T2.setTop (mkF m 14 #[.val (.int (7 : Int32)), .val (.ref h0.size), .val (.int (10 : Int32)), .val (.int ((0 : Int32) + (1 : Int32))), .val (.ref w0)] [])) _
    refine XS.aloadN X2.here hx rfl (hb hby d1_14) rfl rfl ?_
    show Steps p.tables e below (T2.setTop (mkF m 15 #[.val (.int (7 : Int32)), .val (.ref h0.size), .val (.int (10 : Int32)), .val (.int ((0 : Int32) + (1 : Int32))), .val (.ref w0)] [(.ref h0.size)])) _
    refine XS.iloadN X2.here hx rfl (hb hby d1_15) rfl ?_
    show Steps p.tables e below (T2.setTop (mkF m 16 #[.val (.int (7 : Int32)), .val (.ref h0.size), .val (.int (10 : Int32)), .val (.int ((0 : Int32) + (1 : Int32))), .val (.ref w0)] [(.int ((0 : Int32) + (1 : Int32))), (.ref h0.size)])) _
    refine X2.aaload hx (j := ((0 : Int32) + (1 : Int32))) (v := (.ref w1)) (by rw [e2]; exact Ar.1) (State.isArrayOf_alike hZ.alike Ar.2.1) rfl Ar.2.2 (inb_of Sz ⟨by decide, by decide⟩) (H.at (inb_of Sz ⟨by decide, by decide⟩) rfl) (g := (mkF m 16 #[.val (.int (7 : Int32)), .val (.ref h0.size), .val (.int (10 : Int32)), .val (.int ((0 : Int32) + (1 : Int32))), .val (.ref w0)] [(.int ((0 : Int32) + (1 : Int32))), (.ref h0.size)])) rfl rfl (hb hby d1_16) _ ?_
    show Steps p.tables e below (T2.setTop (mkF m 17 #[.val (.int (7 : Int32)), .val (.ref h0.size), .val (.int (10 : Int32)), .val (.int ((0 : Int32) + (1 : Int32))), .val (.ref w0)] [(.ref w1)])) _
    refine XS.astore X2.here hx rfl (hb hby d1_17) rfl rfl (l' := #[.val (.int (7 : Int32)), .val (.ref h0.size), .val (.int (10 : Int32)), .val (.int ((0 : Int32) + (1 : Int32))), .val (.ref w1)]) rfl ?_
    show Steps p.tables e below (T2.setTop (mkF m 19 #[.val (.int (7 : Int32)), .val (.ref h0.size), .val (.int (10 : Int32)), .val (.int ((0 : Int32) + (1 : Int32))), .val (.ref w1)] [])) _
    refine XS.aload X2.here hx rfl (hb hby d1_19) rfl rfl ?_
    show Steps p.tables e below (T2.setTop (mkF m 21 #[.val (.int (7 : Int32)), .val (.ref h0.size), .val (.int (10 : Int32)), .val (.int ((0 : Int32) + (1 : Int32))), .val (.ref w1)] [(.ref w1)])) _
    refine st3 _ ?_
    show Steps p.tables e below (T3.setTop (mkF m 24 #[.val (.int (7 : Int32)), .val (.ref h0.size), .val (.int (10 : Int32)), .val (.int ((0 : Int32) + (1 : Int32))), .val (.ref w1)] [(.int (2 : Int32))])) _
    refine XS.iloadN X3.here hx rfl (hb hby d1_24) rfl ?_
    show Steps p.tables e below (T3.setTop (mkF m 25 #[.val (.int (7 : Int32)), .val (.ref h0.size), .val (.int (10 : Int32)), .val (.int ((0 : Int32) + (1 : Int32))), .val (.ref w1)] [(.int (7 : Int32)), (.int (2 : Int32))])) _
    refine XS.icmpYes X3.here hx rfl (pc0 := 25) (pc' := 31) rfl (hb hby d1_25) rfl (feq (by decide +kernel)).2 (by decide) (by decide) ?_
    show Steps p.tables e below (T3.setTop (mkF m 31 #[.val (.int (7 : Int32)), .val (.ref h0.size), .val (.int (10 : Int32)), .val (.int ((0 : Int32) + (1 : Int32))), .val (.ref w1)] [])) _
    refine XS.iinc X3.here hx rfl (hb hby d1_31) rfl (l' := #[.val (.int (7 : Int32)), .val (.ref h0.size), .val (.int (10 : Int32)), .val (.int (((0 : Int32) + (1 : Int32)) + (1 : Int32))), .val (.ref w1)]) rfl ?_
    show Steps p.tables e below (T3.setTop (mkF m 34 #[.val (.int (7 : Int32)), .val (.ref h0.size), .val (.int (10 : Int32)), .val (.int (((0 : Int32) + (1 : Int32)) + (1 : Int32))), .val (.ref w1)] [])) _
    refine XS.goto X3.here hx rfl (pc0 := 34) (pc' := 9) rfl (hb hby d1_34) (by decide) (by decide) ?_
    show Steps p.tables e below (T3.setTop (mkF m 9 #[.val (.int (7 : Int32)), .val (.ref h0.size), .val (.int (10 : Int32)), .val (.int (((0 : Int32) + (1 : Int32)) + (1 : Int32))), .val (.ref w1)] [])) _
    refine XS.iloadN X3.here hx rfl (hb hby d1_9) rfl ?_
    show Steps p.tables e below (T3.setTop (mkF m 10 #[.val (.int (7 : Int32)), .val (.ref h0.size), .val (.int (10 : Int32)), .val (.int (((0 : Int32) + (1 : Int32)) + (1 : Int32))), .val (.ref w1)] [(.int (((0 : Int32) + (1 : Int32)) + (1 : Int32)))])) _
    refine XS.iloadN X3.here hx rfl (hb hby d1_10) rfl ?_
    show Steps p.tables e below (T3.setTop (mkF m 11 #[.val (.int (7 : Int32)), .val (.ref h0.size), .val (.int (10 : Int32)), .val (.int (((0 : Int32) + (1 : Int32)) + (1 : Int32))), .val (.ref w1)] [(.int (10 : Int32)), (.int (((0 : Int32) + (1 : Int32)) + (1 : Int32)))])) _
    refine XS.icmpNo X3.here hx rfl (hb hby d1_11) rfl (tlt (by decide +kernel)).2.1 ?_
    show Steps p.tables e below (T3.setTop (mkF m 14 #[.val (.int (7 : Int32)), .val (.ref h0.size), .val (.int (10 : Int32)), .val (.int (((0 : Int32) + (1 : Int32)) + (1 : Int32))), .val (.ref w1)] [])) _
    refine XS.aloadN X3.here hx rfl (hb hby d1_14) rfl rfl ?_
    show Steps p.tables e below (T3.setTop (mkF m 15 #[.val (.int (7 : Int32)), .val (.ref h0.size), .val (.int (10 : Int32)), .val (.int (((0 : Int32) + (1 : Int32)) + (1 : Int32))), .val (.ref w1)] [(.ref h0.size)])) _
    refine XS.iloadN X3.here hx rfl (hb hby d1_15) rfl ?_
    show Steps p.tables e below (T3.setTop (mkF m 16 #[.val (.int (7 : Int32)), .val (.ref h0.size), .val (.int (10 : Int32)), .val (.int (((0 : Int32) + (1 : Int32)) + (1 : Int32))), .val (.ref w1)] [(.int (((0 : Int32) + (1 : Int32)) + (1 : Int32))), (.ref h0.size)])) _
    refine X3.aaload hx (j := (((0 : Int32) + (1 : Int32)) + (1 : Int32))) (v := (.ref w2)) (by rw [e3]; exact Ar.1) (State.isArrayOf_alike hZ.alike Ar.2.1) rfl Ar.2.2 (inb_of Sz ⟨by decide, by decide⟩) (H.at (inb_of Sz ⟨by decide, by decide⟩) rfl) (g := (mkF m 16 #[.val (.int (7 : Int32)), .val (.ref h0.size), .val (.int (10 : Int32)), .val (.int (((0 : Int32) + (1 : Int32)) + (1 : Int32))), .val (.ref w1)] [(.int (((0 : Int32) + (1 : Int32)) + (1 : Int32))), (.ref h0.size)])) rfl rfl (hb hby d1_16) _ ?_
    show Steps p.tables e below (T3.setTop (mkF m 17 #[.val (.int (7 : Int32)), .val (.ref h0.size), .val (.int (10 : Int32)), .val (.int (((0 : Int32) + (1 : Int32)) + (1 : Int32))), .val (.ref w1)] [(.ref w2)])) _
    refine XS.astore X3.here hx rfl (hb hby d1_17) rfl rfl (l' := #[.val (.int (7 : Int32)), .val (.ref h0.size), .val (.int (10 : Int32)), .val (.int (((0 : Int32) + (1 : Int32)) + (1 : Int32))), .val (.ref w2)]) rfl ?_
    show Steps p.tables e below (T3.setTop (mkF m 19 #[.val (.int (7 : Int32)), .val (.ref h0.size), .val (.int (10 : Int32)), .val (.int (((0 : Int32) + (1 : Int32)) + (1 : Int32))), .val (.ref w2)] [])) _
    refine XS.aload X3.here hx rfl (hb hby d1_19) rfl rfl ?_
    show Steps p.tables e below (T3.setTop (mkF m 21 #[.val (.int (7 : Int32)), .val (.ref h0.size), .val (.int (10 : Int32)), .val (.int (((0 : Int32) + (1 : Int32)) + (1 : Int32))), .val (.ref w2)] [(.ref w2)])) _
    refine st4 _ ?_
    show Steps p.tables e below (T4.setTop (mkF m 24 #[.val (.int (7 : Int32)), .val (.ref h0.size), .val (.int (10 : Int32)), .val (.int (((0 : Int32) + (1 : Int32)) + (1 : Int32))), .val (.ref w2)] [(.int (3 : Int32))])) _
    refine XS.iloadN X4.here hx rfl (hb hby d1_24) rfl ?_
    show Steps p.tables e below (T4.setTop (mkF m 25 #[.val (.int (7 : Int32)), .val (.ref h0.size), .val (.int (10 : Int32)), .val (.int (((0 : Int32) + (1 : Int32)) + (1 : Int32))), .val (.ref w2)] [(.int (7 : Int32)), (.int (3 : Int32))])) _
    refine XS.icmpYes X4.here hx rfl (pc0 := 25) (pc' := 31) rfl (hb hby d1_25) rfl (feq (by decide +kernel)).2 (by decide) (by decide) ?_
    show Steps p.tables e below (T4.setTop (mkF m 31 #[.val (.int (7 : Int32)), .val (.ref h0.size), .val (.int (10 : Int32)), .val (.int (((0 : Int32) + (1 : Int32)) + (1 : Int32))), .val (.ref w2)] [])) _
    refine XS.iinc X4.here hx rfl (hb hby d1_31) rfl (l' := #[.val (.int (7 : Int32)), .val (.ref h0.size), .val (.int (10 : Int32)), .val (.int ((((0 : Int32) + (1 : Int32)) + (1 : Int32)) + (1 : Int32))), .val (.ref w2)]) rfl ?_
    show Steps p.tables e below (T4.setTop (mkF m 34 #[.val (.int (7 : Int32)), .val (.ref h0.size), .val (.int (10 : Int32)), .val (.int ((((0 : Int32) + (1 : Int32)) + (1 : Int32)) + (1 : Int32))), .val (.ref w2)] [])) _
    refine XS.goto X4.here hx rfl (pc0 := 34) (pc' := 9) rfl (hb hby d1_34) (by decide) (by decide) ?_
    show Steps p.tables e below (T4.setTop (mkF m 9 #[.val (.int (7 : Int32)), .val (.ref h0.size), .val (.int (10 : Int32)), .val (.int ((((0 : Int32) + (1 : Int32)) + (1 : Int32)) + (1 : Int32))), .val (.ref w2)] [])) _
    refine XS.iloadN X4.here hx rfl (hb hby d1_9) rfl ?_
    show Steps p.tables e below (T4.setTop (mkF m 10 #[.val (.int (7 : Int32)), .val (.ref h0.size), .val (.int (10 : Int32)), .val (.int ((((0 : Int32) + (1 : Int32)) + (1 : Int32)) + (1 : Int32))), .val (.ref w2)] [(.int ((((0 : Int32) + (1 : Int32)) + (1 : Int32)) + (1 : Int32)))])) _
    refine XS.iloadN X4.here hx rfl (hb hby d1_10) rfl ?_
    show Steps p.tables e below (T4.setTop (mkF m 11 #[.val (.int (7 : Int32)), .val (.ref h0.size), .val (.int (10 : Int32)), .val (.int ((((0 : Int32) + (1 : Int32)) + (1 : Int32)) + (1 : Int32))), .val (.ref w2)] [(.int (10 : Int32)), (.int ((((0 : Int32) + (1 : Int32)) + (1 : Int32)) + (1 : Int32)))])) _
    refine XS.icmpNo X4.here hx rfl (hb hby d1_11) rfl (tlt (by decide +kernel)).2.1 ?_
    show Steps p.tables e below (T4.setTop (mkF m 14 #[.val (.int (7 : Int32)), .val (.ref h0.size), .val (.int (10 : Int32)), .val (.int ((((0 : Int32) + (1 : Int32)) + (1 : Int32)) + (1 : Int32))), .val (.ref w2)] [])) _
    refine XS.aloadN X4.here hx rfl (hb hby d1_14) rfl rfl ?_
    show Steps p.tables e below (T4.setTop (mkF m 15 #[.val (.int (7 : Int32)), .val (.ref h0.size), .val (.int (10 : Int32)), .val (.int ((((0 : Int32) + (1 : Int32)) + (1 : Int32)) + (1 : Int32))), .val (.ref w2)] [(.ref h0.size)])) _
    refine XS.iloadN X4.here hx rfl (hb hby d1_15) rfl ?_
    show Steps p.tables e below (T4.setTop (mkF m 16 #[.val (.int (7 : Int32)), .val (.ref h0.size), .val (.int (10 : Int32)), .val (.int ((((0 : Int32) + (1 : Int32)) + (1 : Int32)) + (1 : Int32))), .val (.ref w2)] [(.int ((((0 : Int32) + (1 : Int32)) + (1 : Int32)) + (1 : Int32))), (.ref h0.size)])) _
    refine X4.aaload hx (j := ((((0 : Int32) + (1 : Int32)) + (1 : Int32)) + (1 : Int32))) (v := (.ref w3)) (by rw [e4]; exact Ar.1) (State.isArrayOf_alike hZ.alike Ar.2.1) rfl Ar.2.2 (inb_of Sz ⟨by decide, by decide⟩) (H.at (inb_of Sz ⟨by decide, by decide⟩) rfl) (g := (mkF m 16 #[.val (.int (7 : Int32)), .val (.ref h0.size), .val (.int (10 : Int32)), .val (.int ((((0 : Int32) + (1 : Int32)) + (1 : Int32)) + (1 : Int32))), .val (.ref w2)] [(.int ((((0 : Int32) + (1 : Int32)) + (1 : Int32)) + (1 : Int32))), (.ref h0.size)])) rfl rfl (hb hby d1_16) _ ?_
    show Steps p.tables e below (T4.setTop (mkF m 17 #[.val (.int (7 : Int32)), .val (.ref h0.size), .val (.int (10 : Int32)), .val (.int ((((0 : Int32) + (1 : Int32)) + (1 : Int32)) + (1 : Int32))), .val (.ref w2)] [(.ref w3)])) _
    refine XS.astore X4.here hx rfl (hb hby d1_17) rfl rfl (l' := #[.val (.int (7 : Int32)), .val (.ref h0.size), .val (.int (10 : Int32)), .val (.int ((((0 : Int32) + (1 : Int32)) + (1 : Int32)) + (1 : Int32))), .val (.ref w3)]) rfl ?_
    show Steps p.tables e below (T4.setTop (mkF m 19 #[.val (.int (7 : Int32)), .val (.ref h0.size), .val (.int (10 : Int32)), .val (.int ((((0 : Int32) + (1 : Int32)) + (1 : Int32)) + (1 : Int32))), .val (.ref w3)] [])) _
    refine XS.aload X4.here hx rfl (hb hby d1_19) rfl rfl ?_
    show Steps p.tables e below (T4.setTop (mkF m 21 #[.val (.int (7 : Int32)), .val (.ref h0.size), .val (.int (10 : Int32)), .val (.int ((((0 : Int32) + (1 : Int32)) + (1 : Int32)) + (1 : Int32))), .val (.ref w3)] [(.ref w3)])) _
    refine st5 _ ?_
    show Steps p.tables e below (T5.setTop (mkF m 24 #[.val (.int (7 : Int32)), .val (.ref h0.size), .val (.int (10 : Int32)), .val (.int ((((0 : Int32) + (1 : Int32)) + (1 : Int32)) + (1 : Int32))), .val (.ref w3)] [(.int (4 : Int32))])) _
    refine XS.iloadN X5.here hx rfl (hb hby d1_24) rfl ?_
    show Steps p.tables e below (T5.setTop (mkF m 25 #[.val (.int (7 : Int32)), .val (.ref h0.size), .val (.int (10 : Int32)), .val (.int ((((0 : Int32) + (1 : Int32)) + (1 : Int32)) + (1 : Int32))), .val (.ref w3)] [(.int (7 : Int32)), (.int (4 : Int32))])) _
    refine XS.icmpYes X5.here hx rfl (pc0 := 25) (pc' := 31) rfl (hb hby d1_25) rfl (feq (by decide +kernel)).2 (by decide) (by decide) ?_
    show Steps p.tables e below (T5.setTop (mkF m 31 #[.val (.int (7 : Int32)), .val (.ref h0.size), .val (.int (10 : Int32)), .val (.int ((((0 : Int32) + (1 : Int32)) + (1 : Int32)) + (1 : Int32))), .val (.ref w3)] [])) _
    refine XS.iinc X5.here hx rfl (hb hby d1_31) rfl (l' := #[.val (.int (7 : Int32)), .val (.ref h0.size), .val (.int (10 : Int32)), .val (.int (((((0 : Int32) + (1 : Int32)) + (1 : Int32)) + (1 : Int32)) + (1 : Int32))), .val (.ref w3)]) rfl ?_
    show Steps p.tables e below (T5.setTop (mkF m 34 #[.val (.int (7 : Int32)), .val (.ref h0.size), .val (.int (10 : Int32)), .val (.int (((((0 : Int32) + (1 : Int32)) + (1 : Int32)) + (1 : Int32)) + (1 : Int32))), .val (.ref w3)] [])) _
    refine XS.goto X5.here hx rfl (pc0 := 34) (pc' := 9) rfl (hb hby d1_34) (by decide) (by decide) ?_
    show Steps p.tables e below (T5.setTop (mkF m 9 #[.val (.int (7 : Int32)), .val (.ref h0.size), .val (.int (10 : Int32)), .val (.int (((((0 : Int32) + (1 : Int32)) + (1 : Int32)) + (1 : Int32)) + (1 : Int32))), .val (.ref w3)] [])) _
    refine XS.iloadN X5.here hx rfl (hb hby d1_9) rfl ?_
    show Steps p.tables e below (T5.setTop (mkF m 10 #[.val (.int (7 : Int32)), .val (.ref h0.size), .val (.int (10 : Int32)), .val (.int (((((0 : Int32) + (1 : Int32)) + (1 : Int32)) + (1 : Int32)) + (1 : Int32))), .val (.ref w3)] [(.int (((((0 : Int32) + (1 : Int32)) + (1 : Int32)) + (1 : Int32)) + (1 : Int32)))])) _
    refine XS.iloadN X5.here hx rfl (hb hby d1_10) rfl ?_
    show Steps p.tables e below (T5.setTop (mkF m 11 #[.val (.int (7 : Int32)), .val (.ref h0.size), .val (.int (10 : Int32)), .val (.int (((((0 : Int32) + (1 : Int32)) + (1 : Int32)) + (1 : Int32)) + (1 : Int32))), .val (.ref w3)] [(.int (10 : Int32)), (.int (((((0 : Int32) + (1 : Int32)) + (1 : Int32)) + (1 : Int32)) + (1 : Int32)))])) _
    refine XS.icmpNo X5.here hx rfl (hb hby d1_11) rfl (tlt (by decide +kernel)).2.1 ?_
    show Steps p.tables e below (T5.setTop (mkF m 14 #[.val (.int (7 : Int32)), .val (.ref h0.size), .val (.int (10 : Int32)), .val (.int (((((0 : Int32) + (1 : Int32)) + (1 : Int32)) + (1 : Int32)) + (1 : Int32))), .val (.ref w3)] [])) _
    refine XS.aloadN X5.here hx rfl (hb hby d1_14) rfl rfl ?_
    show Steps p.tables e below (T5.setTop (mkF m 15 #[.val (.int (7 : Int32)), .val (.ref h0.size), .val (.int (10 : Int32)), .val (.int (((((0 : Int32) + (1 : Int32)) + (1 : Int32)) + (1 : Int32)) + (1 : Int32))), .val (.ref w3)] [(.ref h0.size)])) _
    refine XS.iloadN X5.here hx rfl (hb hby d1_15) rfl ?_
    show Steps p.tables e below (T5.setTop (mkF m 16 #[.val (.int (7 : Int32)), .val (.ref h0.size), .val (.int (10 : Int32)), .val (.int (((((0 : Int32) + (1 : Int32)) + (1 : Int32)) + (1 : Int32)) + (1 : Int32))), .val (.ref w3)] [(.int (((((0 : Int32) + (1 : Int32)) + (1 : Int32)) + (1 : Int32)) + (1 : Int32))), (.ref h0.size)])) _
    refine X5.aaload hx (j := (((((0 : Int32) + (1 : Int32)) + (1 : Int32)) + (1 : Int32)) + (1 : Int32))) (v := (.ref w4)) (by rw [e5]; exact Ar.1) (State.isArrayOf_alike hZ.alike Ar.2.1) rfl Ar.2.2 (inb_of Sz ⟨by decide, by decide⟩) (H.at (inb_of Sz ⟨by decide, by decide⟩) rfl) (g := (mkF m 16 #[.val (.int (7 : Int32)), .val (.ref h0.size), .val (.int (10 : Int32)), .val (.int (((((0 : Int32) + (1 : Int32)) + (1 : Int32)) + (1 : Int32)) + (1 : Int32))), .val (.ref w3)] [(.int (((((0 : Int32) + (1 : Int32)) + (1 : Int32)) + (1 : Int32)) + (1 : Int32))), (.ref h0.size)])) rfl rfl (hb hby d1_16) _ ?_
    show Steps p.tables e below (T5.setTop (mkF m 17 #[.val (.int (7 : Int32)), .val (.ref h0.size), .val (.int (10 : Int32)), .val (.int (((((0 : Int32) + (1 : Int32)) + (1 : Int32)) + (1 : Int32)) + (1 : Int32))), .val (.ref w3)] [(.ref w4)])) _
    refine XS.astore X5.here hx rfl (hb hby d1_17) rfl rfl (l' := #[.val (.int (7 : Int32)), .val (.ref h0.size), .val (.int (10 : Int32)), .val (.int (((((0 : Int32) + (1 : Int32)) + (1 : Int32)) + (1 : Int32)) + (1 : Int32))), .val (.ref w4)]) rfl ?_
    show Steps p.tables e below (T5.setTop (mkF m 19 #[.val (.int (7 : Int32)), .val (.ref h0.size), .val (.int (10 : Int32)), .val (.int (((((0 : Int32) + (1 : Int32)) + (1 : Int32)) + (1 : Int32)) + (1 : Int32))), .val (.ref w4)] [])) _
    refine XS.aload X5.here hx rfl (hb hby d1_19) rfl rfl ?_
    show Steps p.tables e below (T5.setTop (mkF m 21 #[.val (.int (7 : Int32)), .val (.ref h0.size), .val (.int (10 : Int32)), .val (.int (((((0 : Int32) + (1 : Int32)) + (1 : Int32)) + (1 : Int32)) + (1 : Int32))), .val (.ref w4)] [(.ref w4)])) _
    refine st6 _ ?_
    show Steps p.tables e below (T6.setTop (mkF m 24 #[.val (.int (7 : Int32)), .val (.ref h0.size), .val (.int (10 : Int32)), .val (.int (((((0 : Int32) + (1 : Int32)) + (1 : Int32)) + (1 : Int32)) + (1 : Int32))), .val (.ref w4)] [(.int (5 : Int32))])) _
    refine XS.iloadN X6.here hx rfl (hb hby d1_24) rfl ?_
    show Steps p.tables e below (T6.setTop (mkF m 25 #[.val (.int (7 : Int32)), .val (.ref h0.size), .val (.int (10 : Int32)), .val (.int (((((0 : Int32) + (1 : Int32)) + (1 : Int32)) + (1 : Int32)) + (1 : Int32))), .val (.ref w4)] [(.int (7 : Int32)), (.int (5 : Int32))])) _
    refine XS.icmpYes X6.here hx rfl (pc0 := 25) (pc' := 31) rfl (hb hby d1_25) rfl (feq (by decide +kernel)).2 (by decide) (by decide) ?_
    show Steps p.tables e below (T6.setTop (mkF m 31 #[.val (.int (7 : Int32)), .val (.ref h0.size), .val (.int (10 : Int32)), .val (.int (((((0 : Int32) + (1 : Int32)) + (1 : Int32)) + (1 : Int32)) + (1 : Int32))), .val (.ref w4)] [])) _
    refine XS.iinc X6.here hx rfl (hb hby d1_31) rfl (l' := #[.val (.int (7 : Int32)), .val (.ref h0.size), .val (.int (10 : Int32)), .val (.int ((((((0 : Int32) + (1 : Int32)) + (1 : Int32)) + (1 : Int32)) + (1 : Int32)) + (1 : Int32))), .val (.ref w4)]) rfl ?_
    show Steps p.tables e below (T6.setTop (mkF m 34 #[.val (.int (7 : Int32)), .val (.ref h0.size), .val (.int (10 : Int32)), .val (.int ((((((0 : Int32) + (1 : Int32)) + (1 : Int32)) + (1 : Int32)) + (1 : Int32)) + (1 : Int32))), .val (.ref w4)] [])) _
    refine XS.goto X6.here hx rfl (pc0 := 34) (pc' := 9) rfl (hb hby d1_34) (by decide) (by decide) ?_
    show Steps p.tables e below (T6.setTop (mkF m 9 #[.val (.int (7 : Int32)), .val (.ref h0.size), .val (.int (10 : Int32)), .val (.int ((((((0 : Int32) + (1 : Int32)) + (1 : Int32)) + (1 : Int32)) + (1 : Int32)) + (1 : Int32))), .val (.ref w4)] [])) _
    refine XS.iloadN X6.here hx rfl (hb hby d1_9) rfl ?_
    show Steps p.tables e below (T6.setTop (mkF m 10 #[.val (.int (7 : Int32)), .val (.ref h0.size), .val (.int (10 : Int32)), .val (.int ((((((0 : Int32) + (1 : Int32)) + (1 : Int32)) + (1 : Int32)) + (1 : Int32)) + (1 : Int32))), .val (.ref w4)] [(.int ((((((0 : Int32) + (1 : Int32)) + (1 : Int32)) + (1 : Int32)) + (1 : Int32)) + (1 : Int32)))])) _
    refine XS.iloadN X6.here hx rfl (hb hby d1_10) rfl ?_
    show Steps p.tables e below (T6.setTop (mkF m 11 #[.val (.int (7 : Int32)), .val (.ref h0.size), .val (.int (10 : Int32)), .val (.int ((((((0 : Int32) + (1 : Int32)) + (1 : Int32)) + (1 : Int32)) + (1 : Int32)) + (1 : Int32))), .val (.ref w4)] [(.int (10 : Int32)), (.int ((((((0 : Int32) + (1 : Int32)) + (1 : Int32)) + (1 : Int32)) + (1 : Int32)) + (1 : Int32)))])) _
    refine XS.icmpNo X6.here hx rfl (hb hby d1_11) rfl (tlt (by decide +kernel)).2.1 ?_
    show Steps p.tables e below (T6.setTop (mkF m 14 #[.val (.int (7 : Int32)), .val (.ref h0.size), .val (.int (10 : Int32)), .val (.int ((((((0 : Int32) + (1 : Int32)) + (1 : Int32)) + (1 : Int32)) + (1 : Int32)) + (1 : Int32))), .val (.ref w4)] [])) _
    refine XS.aloadN X6.here hx rfl (hb hby d1_14) rfl rfl ?_
    show Steps p.tables e below (T6.setTop (mkF m 15 #[.val (.int (7 : Int32)), .val (.ref h0.size), .val (.int (10 : Int32)), .val (.int ((((((0 : Int32) + (1 : Int32)) + (1 : Int32)) + (1 : Int32)) + (1 : Int32)) + (1 : Int32))), .val (.ref w4)] [(.ref h0.size)])) _
    refine XS.iloadN X6.here hx rfl (hb hby d1_15) rfl ?_
    show Steps p.tables e below (T6.setTop (mkF m 16 #[.val (.int (7 : Int32)), .val (.ref h0.size), .val (.int (10 : Int32)), .val (.int ((((((0 : Int32) + (1 : Int32)) + (1 : Int32)) + (1 : Int32)) + (1 : Int32)) + (1 : Int32))), .val (.ref w4)] [(.int ((((((0 : Int32) + (1 : Int32)) + (1 : Int32)) + (1 : Int32)) + (1 : Int32)) + (1 : Int32))), (.ref h0.size)])) _
    refine X6.aaload hx (j := ((((((0 : Int32) + (1 : Int32)) + (1 : Int32)) + (1 : Int32)) + (1 : Int32)) + (1 : Int32))) (v := (.ref w5)) (by rw [e6]; exact Ar.1) (State.isArrayOf_alike hZ.alike Ar.2.1) rfl Ar.2.2 (inb_of Sz ⟨by decide, by decide⟩) (H.at (inb_of Sz ⟨by decide, by decide⟩) rfl) (g := (mkF m 16 #[.val (.int (7 : Int32)), .val (.ref h0.size), .val (.int (10 : Int32)), .val (.int ((((((0 : Int32) + (1 : Int32)) + (1 : Int32)) + (1 : Int32)) + (1 : Int32)) + (1 : Int32))), .val (.ref w4)] [(.int ((((((0 : Int32) + (1 : Int32)) + (1 : Int32)) + (1 : Int32)) + (1 : Int32)) + (1 : Int32))), (.ref h0.size)])) rfl rfl (hb hby d1_16) _ ?_
    show Steps p.tables e below (T6.setTop (mkF m 17 #[.val (.int (7 : Int32)), .val (.ref h0.size), .val (.int (10 : Int32)), .val (.int ((((((0 : Int32) + (1 : Int32)) + (1 : Int32)) + (1 : Int32)) + (1 : Int32)) + (1 : Int32))), .val (.ref w4)] [(.ref w5)])) _
    refine XS.astore X6.here hx rfl (hb hby d1_17) rfl rfl (l' := #[.val (.int (7 : Int32)), .val (.ref h0.size), .val (.int (10 : Int32)), .val (.int ((((((0 : Int32) + (1 : Int32)) + (1 : Int32)) + (1 : Int32)) + (1 : Int32)) + (1 : Int32))), .val (.ref w5)]) rfl ?_
    show Steps p.tables e below (T6.setTop (mkF m 19 #[.val (.int (7 : Int32)), .val (.ref h0.size), .val (.int (10 : Int32)), .val (.int ((((((0 : Int32) + (1 : Int32)) + (1 : Int32)) + (1 : Int32)) + (1 : Int32)) + (1 : Int32))), .val (.ref w5)] [])) _
    refine XS.aload X6.here hx rfl (hb hby d1_19) rfl rfl ?_
    show Steps p.tables e below (T6.setTop (mkF m 21 #[.val (.int (7 : Int32)), .val (.ref h0.size), .val (.int (10 : Int32)), .val (.int ((((((0 : Int32) + (1 : Int32)) + (1 : Int32)) + (1 : Int32)) + (1 : Int32)) + (1 : Int32))), .val (.ref w5)] [(.ref w5)])) _
    refine st7 _ ?_
    show Steps p.tables e below (T7.setTop (mkF m 24 #[.val (.int (7 : Int32)), .val (.ref h0.size), .val (.int (10 : Int32)), .val (.int ((((((0 : Int32) + (1 : Int32)) + (1 : Int32)) + (1 : Int32)) + (1 : Int32)) + (1 : Int32))), .val (.ref w5)] [(.int (6 : Int32))])) _
    refine XS.iloadN X7.here hx rfl (hb hby d1_24) rfl ?_
    show Steps p.tables e below (T7.setTop (mkF m 25 #[.val (.int (7 : Int32)), .val (.ref h0.size), .val (.int (10 : Int32)), .val (.int ((((((0 : Int32) + (1 : Int32)) + (1 : Int32)) + (1 : Int32)) + (1 : Int32)) + (1 : Int32))), .val (.ref w5)] [(.int (7 : Int32)), (.int (6 : Int32))])) _
    refine XS.icmpYes X7.here hx rfl (pc0 := 25) (pc' := 31) rfl (hb hby d1_25) rfl (feq (by decide +kernel)).2 (by decide) (by decide) ?_
    show Steps p.tables e below (T7.setTop (mkF m 31 #[.val (.int (7 : Int32)), .val (.ref h0.size), .val (.int (10 : Int32)), .val (.int ((((((0 : Int32) + (1 : Int32)) + (1 : Int32)) + (1 : Int32)) + (1 : Int32)) + (1 : Int32))), .val (.ref w5)] [])) _
    refine XS.iinc X7.here hx rfl (hb hby d1_31) rfl (l' := #[.val (.int (7 : Int32)), .val (.ref h0.size), .val (.int (10 : Int32)), .val (.int (((((((0 : Int32) + (1 : Int32)) + (1 : Int32)) + (1 : Int32)) + (1 : Int32)) + (1 : Int32)) + (1 : Int32))), .val (.ref w5)]) rfl ?_
    show Steps p.tables e below (T7.setTop (mkF m 34 #[.val (.int (7 : Int32)), .val (.ref h0.size), .val (.int (10 : Int32)), .val (.int (((((((0 : Int32) + (1 : Int32)) + (1 : Int32)) + (1 : Int32)) + (1 : Int32)) + (1 : Int32)) + (1 : Int32))), .val (.ref w5)] [])) _
    refine XS.goto X7.here hx rfl (pc0 := 34) (pc' := 9) rfl (hb hby d1_34) (by decide) (by decide) ?_
    show Steps p.tables e below (T7.setTop (mkF m 9 #[.val (.int (7 : Int32)), .val (.ref h0.size), .val (.int (10 : Int32)), .val (.int (((((((0 : Int32) + (1 : Int32)) + (1 : Int32)) + (1 : Int32)) + (1 : Int32)) + (1 : Int32)) + (1 : Int32))), .val (.ref w5)] [])) _
    refine XS.iloadN X7.here hx rfl (hb hby d1_9) rfl ?_
    show Steps p.tables e below (T7.setTop (mkF m 10 #[.val (.int (7 : Int32)), .val (.ref h0.size), .val (.int (10 : Int32)), .val (.int (((((((0 : Int32) + (1 : Int32)) + (1 : Int32)) + (1 : Int32)) + (1 : Int32)) + (1 : Int32)) + (1 : Int32))), .val (.ref w5)] [(.int (((((((0 : Int32) + (1 : Int32)) + (1 : Int32)) + (1 : Int32)) + (1 : Int32)) + (1 : Int32)) + (1 : Int32)))])) _
    refine XS.iloadN X7.here hx rfl (hb hby d1_10) rfl ?_
    show Steps p.tables e below (T7.setTop (mkF m 11 #[.val (.int (7 : Int32)), .val (.ref h0.size), .val (.int (10 : Int32)), .val (.int (((((((0 : Int32) + (1 : Int32)) + (1 : Int32)) + (1 : Int32)) + (1 : Int32)) + (1 : Int32)) + (1 : Int32))), .val (.ref w5)] [(.int (10 : Int32)), (.int (((((((0 : Int32) + (1 : Int32)) + (1 : Int32)) + (1 : Int32)) + (1 : Int32)) + (1 : Int32)) + (1 : Int32)))])) _
    refine XS.icmpNo X7.here hx rfl (hb hby d1_11) rfl (tlt (by decide +kernel)).2.1 ?_
    show Steps p.tables e below (T7.setTop (mkF m 14 #[.val (.int (7 : Int32)), .val (.ref h0.size), .val (.int (10 : Int32)), .val (.int (((((((0 : Int32) + (1 : Int32)) + (1 : Int32)) + (1 : Int32)) + (1 : Int32)) + (1 : Int32)) + (1 : Int32))), .val (.ref w5)] [])) _
    refine XS.aloadN X7.here hx rfl (hb hby d1_14) rfl rfl ?_
    show Steps p.tables e below (T7.setTop (mkF m 15 #[.val (.int (7 : Int32)), .val (.ref h0.size), .val (.int (10 : Int32)), .val (.int (((((((0 : Int32) + (1 : Int32)) + (1 : Int32)) + (1 : Int32)) + (1 : Int32)) + (1 : Int32)) + (1 : Int32))), .val (.ref w5)] [(.ref h0.size)])) _
    refine XS.iloadN X7.here hx rfl (hb hby d1_15) rfl ?_
    show Steps p.tables e below (T7.setTop (mkF m 16 #[.val (.int (7 : Int32)), .val (.ref h0.size), .val (.int (10 : Int32)), .val (.int (((((((0 : Int32) + (1 : Int32)) + (1 : Int32)) + (1 : Int32)) + (1 : Int32)) + (1 : Int32)) + (1 : Int32))), .val (.ref w5)] [(.int (((((((0 : Int32) + (1 : Int32)) + (1 : Int32)) + (1 : Int32)) + (1 : Int32)) + (1 : Int32)) + (1 : Int32))), (.ref h0.size)])) _
    refine X7.aaload hx (j := (((((((0 : Int32) + (1 : Int32)) + (1 : Int32)) + (1 : Int32)) + (1 : Int32)) + (1 : Int32)) + (1 : Int32))) (v := (.ref w6)) (by rw [e7]; exact Ar.1) (State.isArrayOf_alike hZ.alike Ar.2.1) rfl Ar.2.2 (inb_of Sz ⟨by decide, by decide⟩) (H.at (inb_of Sz ⟨by decide, by decide⟩) rfl) (g := (mkF m 16 #[.val (.int (7 : Int32)), .val (.ref h0.size), .val (.int (10 : Int32)), .val (.int (((((((0 : Int32) + (1 : Int32)) + (1 : Int32)) + (1 : Int32)) + (1 : Int32)) + (1 : Int32)) + (1 : Int32))), .val (.ref w5)] [(.int (((((((0 : Int32) + (1 : Int32)) + (1 : Int32)) + (1 : Int32)) + (1 : Int32)) + (1 : Int32)) + (1 : Int32))), (.ref h0.size)])) rfl rfl (hb hby d1_16) _ ?_
    show Steps p.tables e below (T7.setTop (mkF m 17 #[.val (.int (7 : Int32)), .val (.ref h0.size), .val (.int (10 : Int32)), .val (.int (((((((0 : Int32) + (1 : Int32)) + (1 : Int32)) + (1 : Int32)) + (1 : Int32)) + (1 : Int32)) + (1 : Int32))), .val (.ref w5)] [(.ref w6)])) _
    refine XS.astore X7.here hx rfl (hb hby d1_17) rfl rfl (l' := #[.val (.int (7 : Int32)), .val (.ref h0.size), .val (.int (10 : Int32)), .val (.int (((((((0 : Int32) + (1 : Int32)) + (1 : Int32)) + (1 : Int32)) + (1 : Int32)) + (1 : Int32)) + (1 : Int32))), .val (.ref w6)]) rfl ?_
    show Steps p.tables e below (T7.setTop (mkF m 19 #[.val (.int (7 : Int32)), .val (.ref h0.size), .val (.int (10 : Int32)), .val (.int (((((((0 : Int32) + (1 : Int32)) + (1 : Int32)) + (1 : Int32)) + (1 : Int32)) + (1 : Int32)) + (1 : Int32))), .val (.ref w6)] [])) _
    refine XS.aload X7.here hx rfl (hb hby d1_19) rfl rfl ?_
    show Steps p.tables e below (T7.setTop (mkF m 21 #[.val (.int (7 : Int32)), .val (.ref h0.size), .val (.int (10 : Int32)), .val (.int (((((((0 : Int32) + (1 : Int32)) + (1 : Int32)) + (1 : Int32)) + (1 : Int32)) + (1 : Int32)) + (1 : Int32))), .val (.ref w6)] [(.ref w6)])) _
    refine st8 _ ?_
    show Steps p.tables e below (T8.setTop (mkF m 24 #[.val (.int (7 : Int32)), .val (.ref h0.size), .val (.int (10 : Int32)), .val (.int (((((((0 : Int32) + (1 : Int32)) + (1 : Int32)) + (1 : Int32)) + (1 : Int32)) + (1 : Int32)) + (1 : Int32))), .val (.ref w6)] [(.int (7 : Int32))])) _
    refine XS.iloadN X8.here hx rfl (hb hby d1_24) rfl ?_
    show Steps p.tables e below (T8.setTop (mkF m 25 #[.val (.int (7 : Int32)), .val (.ref h0.size), .val (.int (10 : Int32)), .val (.int (((((((0 : Int32) + (1 : Int32)) + (1 : Int32)) + (1 : Int32)) + (1 : Int32)) + (1 : Int32)) + (1 : Int32))), .val (.ref w6)] [(.int (7 : Int32)), (.int (7 : Int32))])) _
    refine XS.icmpNo X8.here hx rfl (hb hby d1_25) rfl (teq (by decide +kernel)).2 ?_
    show Steps p.tables e below (T8.setTop (mkF m 28 #[.val (.int (7 : Int32)), .val (.ref h0.size), .val (.int (10 : Int32)), .val (.int (((((((0 : Int32) + (1 : Int32)) + (1 : Int32)) + (1 : Int32)) + (1 : Int32)) + (1 : Int32)) + (1 : Int32))), .val (.ref w6)] [])) _
    refine XS.aload X8.here hx rfl (hb hby d1_28) rfl rfl ?_
    show Steps p.tables e below (T8.setTop (mkF m 30 #[.val (.int (7 : Int32)), .val (.ref h0.size), .val (.int (10 : Int32)), .val (.int (((((((0 : Int32) + (1 : Int32)) + (1 : Int32)) + (1 : Int32)) + (1 : Int32)) + (1 : Int32)) + (1 : Int32))), .val (.ref w6)] [(.ref w6)])) _
    jvm_step X8.here [X8.here.top, hx, (hb hby d1_30), X8.method', Bd.returns, Value.isRef, FieldType.isReference]
    first | (intro acts; rw [hr _ acts rfl rfl rfl]) | rw [hr _ _ rfl rfl rfl]
    exact Steps.refl _
  · show QO_7 Z vA kA w0 w1 w2 w3 w4 w5 w6 w7 w8 w9 h0 n0 _ T8.heap _
    rw [e8]
    exact ⟨rfl, N1, Ex⟩
def QO_8 (Z : State) (vA : Addr) (kA : ClassId) (w0 w1 w2 w3 w4 w5 w6 w7 w8 w9 : Addr) (h0 : Heap) (n0 : Nat) (v : Option Value) (h : Heap) (L : List Loc) : Prop := v = some (.ref w7) ∧ Fr n0 L ∧ Ext h0 h
set_option maxRecDepth 65536 in
set_option maxHeartbeats 40000000 in
theorem rmO_8 (l : Launch) (Z : State) (a0 : Array Value) (hw : ∀ d ∈ tables_1, d.before a0 Z = true) (ws : List Jvm.Cond) (vA : Addr) (kA : ClassId) (w0 w1 w2 w3 w4 w5 w6 w7 w8 w9 : Addr) (h0 : Heap) (n0 : Nat) (Z0 : n0 ≤ h0.size) (SV : Sta Z h0 "com/example/concordat/concordat/log/LogRecord$Kind" "$VALUES" "[Lcom/example/concordat/concordat/log/LogRecord$Kind;" (.ref vA)) (AV : Arv Z h0 vA kA (.object "com/example/concordat/concordat/log/LogRecord$Kind") 10 [.ref w0, .ref w1, .ref w2, .ref w3, .ref w4, .ref w5, .ref w6, .ref w7, .ref w8, .ref w9] .null) (EV : Exa Z h0 vA "[Lcom/example/concordat/concordat/log/LogRecord$Kind;") (FC0 : Fld Z h0 w0 "com/example/concordat/concordat/log/LogRecord$Kind" "code" "B" (.int (1 : Int32))) (FC1 : Fld Z h0 w1 "com/example/concordat/concordat/log/LogRecord$Kind" "code" "B" (.int (2 : Int32))) (FC2 : Fld Z h0 w2 "com/example/concordat/concordat/log/LogRecord$Kind" "code" "B" (.int (3 : Int32))) (FC3 : Fld Z h0 w3 "com/example/concordat/concordat/log/LogRecord$Kind" "code" "B" (.int (4 : Int32))) (FC4 : Fld Z h0 w4 "com/example/concordat/concordat/log/LogRecord$Kind" "code" "B" (.int (5 : Int32))) (FC5 : Fld Z h0 w5 "com/example/concordat/concordat/log/LogRecord$Kind" "code" "B" (.int (6 : Int32))) (FC6 : Fld Z h0 w6 "com/example/concordat/concordat/log/LogRecord$Kind" "code" "B" (.int (7 : Int32))) (FC7 : Fld Z h0 w7 "com/example/concordat/concordat/log/LogRecord$Kind" "code" "B" (.int (8 : Int32))) (FC8 : Fld Z h0 w8 "com/example/concordat/concordat/log/LogRecord$Kind" "code" "B" (.int (9 : Int32))) (FC9 : Fld Z h0 w9 "com/example/concordat/concordat/log/LogRecord$Kind" "code" "B" (.int (10 : Int32))) :
    MetFree l (⟨"com/example/concordat/concordat/log/LogRecord$Kind", "of", "(B)Lcom/example/concordat/concordat/log/LogRecord$Kind;"⟩ : MethodName) (head1 (Jvm.Cond.code (⟨"com/example/concordat/concordat/log/LogRecord$Kind", "of", "(B)Lcom/example/concordat/concordat/log/LogRecord$Kind;"⟩ : MethodName) prog_45_method_4_code 5 (some (.object "com/example/concordat/concordat/log/LogRecord$Kind")) :: ws) ({ frames := 2, cells := 1, slots := 10, locals := 25 } : Room)) (fun a U => a = #[(.int (8 : Int32))] ∧ Z.Warmed39 U.vm ∧ U.heap = h0) (fun _ _ _ _ _ => True) (fun _ U o U' => ∃ v L, o = .returned v ∧ QO_8 Z vA kA w0 w1 w2 w3 w4 w5 w6 w7 w8 w9 h0 n0 v U'.heap L ∧ FrameEnd U o U' L ({ frames := 2, cells := 1, slots := 10, locals := 25 } : Room).cells ({ frames := 2, cells := 1, slots := 10, locals := 25 } : Room).slots) := by
  refine MetFree.of_bodySF (plainFor_of_name pn_LogRecord_Kind) hisR ?_
  intro p e s m args below meth c s₁ Bd hml0 hP hK
  obtain ⟨rfl, hZ, hh⟩ := hP
  have hx := Bd.exec
  have hby := Bd.bytes
  have hml : c.maxLocals = 5 := hml0
  have hown : s.vm.findClass "com/example/concordat/concordat/log/LogRecord$Kind" = some m.cls := findClass_of_methodNamed Bd.named
  have hnm := (name_of_methodNamed Bd.named Bd.method).1
  have X0 : Stand p l e ({ frames := 2, cells := 1, slots := 10, locals := 25 } : Room) s m #[(.int (8 : Int32))] below meth c s₁ [] 0 0 := Stand.of_body Bd
  have e0 : s₁.heap = h0 := by rw [← hh, Bd.state]; rfl
  have N0 := Fr.nil n0
  have pre0 : ∀ t, Steps p.tables e below (s₁.setTop (mkF m 0 #[.val (.int (8 : Int32)), .unset, .unset, .unset, .unset] [])) t → Steps p.tables e below (s₁.setTop (entryFrame m #[(.int (8 : Int32))] 5)) t := fun t k => castTop (ef_1 m (8 : Int32)) k
  obtain ⟨_, _, ⟨T1, L1, k1, n1⟩, -, X1, ⟨Lc1, hQ1, l1, y1, z1⟩, st1⟩ := Jvm.LawKit.callS X0 hx (y := (⟨"com/example/concordat/concordat/log/LogRecord$Kind", "values", "()[Lcom/example/concordat/concordat/log/LogRecord$Kind;"⟩ : MethodName)) hown (mvT hZ (hw _ (List.mem_of_getElem? (i := 4) rfl))) (mvT hZ (hw _ (List.mem_of_getElem? (i := 5) rfl))) (mvT hZ (hw _ (List.mem_of_getElem? (i := 2) rfl))) (mvT hZ (hw _ (List.mem_of_getElem? (i := 6) rfl))) (by decide) (backOf (W := 0) (rmV l Z a0 hw [] vA kA w0 w1 w2 w3 w4 w5 w6 w7 w8 w9 h0 n0 Z0 SV AV EV) hZ (hw _ (List.mem_of_getElem? (i := 6) rfl)) (hw _ (List.mem_of_getElem? (i := 2) rfl)) (by decide) (by decide)) (g := (mkF m 0 #[.val (.int (8 : Int32)), .unset, .unset, .unset, .unset] [])) rfl (by rw [hml]; rfl) (argsL := []) (rest := []) (lenOf pd_0 rfl) rfl (by show 2 * 0 + _ ≤ _; exact Nat.le_of_eq rfl) (hb hby d1_0) (fun _ _ => ⟨rfl, e0, (by decide : 0 + 1 ≤ _), (by decide : 0 + 10 ≤ _)⟩)
  dsimp only [Pt.U, Pt.locs, Pt.cells, Pt.slots] at X1 l1 y1 z1 st1 hQ1
  subst l1 y1 z1
  obtain ⟨rfl, N1q, Ex, Av⟩ := hQ1
  have N1 := Fr.app N0 N1q
  obtain ⟨cl, Ar, -, Sz, Mz, H, -⟩ := Av
  obtain ⟨T2, X2, e2, st2⟩ := getF X1 hx hZ hown (host := "") (Or.inl (hw _ (List.mem_of_getElem? (i := 29) rfl))) Via.refl rfl (FC0.ext Ex) (g := (mkF m 21 #[.val (.int (8 : Int32)), .val (.ref h0.size), .val (.int (10 : Int32)), .val (.int (0 : Int32)), .val (.ref w0)] [(.ref w0)])) rfl rfl (hb hby d1_21)
  obtain ⟨T3, X3, e3, st3⟩ := getF X2 hx hZ hown (host := "") (Or.inl (hw _ (List.mem_of_getElem? (i := 29) rfl))) Via.refl e2 (FC1.ext Ex) (g := (mkF m 21 #[.val (.int (8 : Int32)), .val (.ref h0.size), .val (.int (10 : Int32)), .val (.int ((0 : Int32) + (1 : Int32))), .val (.ref w1)] [(.ref w1)])) rfl rfl (hb hby d1_21)
  obtain ⟨T4, X4, e4, st4⟩ := getF X3 hx hZ hown (host := "") (Or.inl (hw _ (List.mem_of_getElem? (i := 29) rfl))) Via.refl e3 (FC2.ext Ex) (g := (mkF m 21 #[.val (.int (8 : Int32)), .val (.ref h0.size), .val (.int (10 : Int32)), .val (.int (((0 : Int32) + (1 : Int32)) + (1 : Int32))), .val (.ref w2)] [(.ref w2)])) rfl rfl (hb hby d1_21)
  obtain ⟨T5, X5, e5, st5⟩ := getF X4 hx hZ hown (host := "") (Or.inl (hw _ (List.mem_of_getElem? (i := 29) rfl))) Via.refl e4 (FC3.ext Ex) (g := (mkF m 21 #[.val (.int (8 : Int32)), .val (.ref h0.size), .val (.int (10 : Int32)), .val (.int ((((0 : Int32) + (1 : Int32)) + (1 : Int32)) + (1 : Int32))), .val (.ref w3)] [(.ref w3)])) rfl rfl (hb hby d1_21)
  obtain ⟨T6, X6, e6, st6⟩ := getF X5 hx hZ hown (host := "") (Or.inl (hw _ (List.mem_of_getElem? (i := 29) rfl))) Via.refl e5 (FC4.ext Ex) (g := (mkF m 21 #[.val (.int (8 : Int32)), .val (.ref h0.size), .val (.int (10 : Int32)), .val (.int (((((0 : Int32) + (1 : Int32)) + (1 : Int32)) + (1 : Int32)) + (1 : Int32))), .val (.ref w4)] [(.ref w4)])) rfl rfl (hb hby d1_21)
  obtain ⟨T7, X7, e7, st7⟩ := getF X6 hx hZ hown (host := "") (Or.inl (hw _ (List.mem_of_getElem? (i := 29) rfl))) Via.refl e6 (FC5.ext Ex) (g := (mkF m 21 #[.val (.int (8 : Int32)), .val (.ref h0.size), .val (.int (10 : Int32)), .val (.int ((((((0 : Int32) + (1 : Int32)) + (1 : Int32)) + (1 : Int32)) + (1 : Int32)) + (1 : Int32))), .val (.ref w5)] [(.ref w5)])) rfl rfl (hb hby d1_21)
  obtain ⟨T8, X8, e8, st8⟩ := getF X7 hx hZ hown (host := "") (Or.inl (hw _ (List.mem_of_getElem? (i := 29) rfl))) Via.refl e7 (FC6.ext Ex) (g := (mkF m 21 #[.val (.int (8 : Int32)), .val (.ref h0.size), .val (.int (10 : Int32)), .val (.int (((((((0 : Int32) + (1 : Int32)) + (1 : Int32)) + (1 : Int32)) + (1 : Int32)) + (1 : Int32)) + (1 : Int32))), .val (.ref w6)] [(.ref w6)])) rfl rfl (hb hby d1_21)
  obtain ⟨T9, X9, e9, st9⟩ := getF X8 hx hZ hown (host := "") (Or.inl (hw _ (List.mem_of_getElem? (i := 29) rfl))) Via.refl e8 (FC7.ext Ex) (g := (mkF m 21 #[.val (.int (8 : Int32)), .val (.ref h0.size), .val (.int (10 : Int32)), .val (.int ((((((((0 : Int32) + (1 : Int32)) + (1 : Int32)) + (1 : Int32)) + (1 : Int32)) + (1 : Int32)) + (1 : Int32)) + (1 : Int32))), .val (.ref w7)] [(.ref w7)])) rfl rfl (hb hby d1_21)
  obtain ⟨fs, hr, hrun, hended, hW, hsame⟩ := X9.leave (v := some (.ref w7)) (fun h => by rw [Bd.returns] at h; cases h)
  refine ⟨_, _, pre0 _ ?_, hrun, hended, _, _, rfl, ?_, ⟨_, rfl⟩, hW, hsame.mono (by decide) (by decide)⟩
  · show Steps p.tables e below (s₁.setTop (mkF m 0 #[.val (.int (8 : Int32)), .unset, .unset, .unset, .unset] [])) _
    refine st1 _ ?_
    show Steps p.tables e below (T1.setTop (mkF m 3 #[.val (.int (8 : Int32)), .unset, .unset, .unset, .unset] [(.ref h0.size)])) _
    refine XS.astoreN X1.here hx rfl (hb hby d1_3) rfl rfl (l' := #[.val (.int (8 : Int32)), .val (.ref h0.size), .unset, .unset, .unset]) rfl ?_
    show Steps p.tables e below (T1.setTop (mkF m 4 #[.val (.int (8 : Int32)), .val (.ref h0.size), .unset, .unset, .unset] [])) _
    refine XS.aloadN X1.here hx rfl (hb hby d1_4) rfl rfl ?_
    show Steps p.tables e below (T1.setTop (mkF m 5 #[.val (.int (8 : Int32)), .val (.ref h0.size), .unset, .unset, .unset] [(.ref h0.size)])) _
    refine X1.arraylength hx Ar.1 (State.isArrayOf_alike hZ.alike Ar.2.1) (g := (mkF m 5 #[.val (.int (8 : Int32)), .val (.ref h0.size), .unset, .unset, .unset] [(.ref h0.size)])) rfl rfl (hb hby d1_5) _ ?_
    rw [len_of Sz Mz]
    show Steps p.tables e below (T1.setTop (mkF m 6 #[.val (.int (8 : Int32)), .val (.ref h0.size), .unset, .unset, .unset] [(.int (10 : Int32))])) _
    refine XS.istoreN X1.here hx rfl (hb hby d1_6) rfl (l' := #[.val (.int (8 : Int32)), .val (.ref h0.size), .val (.int (10 : Int32)), .unset, .unset]) rfl ?_
    show Steps p.tables e below (T1.setTop (mkF m 7 #[.val (.int (8 : Int32)), .val (.ref h0.size), .val (.int (10 : Int32)), .unset, .unset] [])) _
    refine XS.iconst X1.here hx rfl (hb hby d1_7) ?_
    show Steps p.tables e below (T1.setTop (mkF m 8 #[.val (.int (8 : Int32)), .val (.ref h0.size), .val (.int (10 : Int32)), .unset, .unset] [(.int (0 : Int32))])) _
    refine XS.istoreN X1.here hx rfl (hb hby d1_8) rfl (l' := #[.val (.int (8 : Int32)), .val (.ref h0.size), .val (.int (10 : Int32)), .val (.int (0 : Int32)), .unset]) rfl ?_
    show Steps p.tables e below (T1.setTop (mkF m 9 #[.val (.int (8 : Int32)), .val (.ref h0.size), .val (.int (10 : Int32)), .val (.int (0 : Int32)), .unset] [])) _
    refine XS.iloadN X1.here hx rfl (hb hby d1_9) rfl ?_
    show Steps p.tables e below (T1.setTop (mkF m 10 #[.val (.int (8 : Int32)), .val (.ref h0.size), .val (.int (10 : Int32)), .val (.int (0 : Int32)), .unset] [(.int (0 : Int32))])) _
    refine XS.iloadN X1.here hx rfl (hb hby d1_10) rfl ?_
    show Steps p.tables e below (T1.setTop (mkF m 11 #[.val (.int (8 : Int32)), .val (.ref h0.size), .val (.int (10 : Int32)), .val (.int (0 : Int32)), .unset] [(.int (10 : Int32)), (.int (0 : Int32))])) _
    refine XS.icmpNo X1.here hx rfl (hb hby d1_11) rfl (tlt (by decide +kernel)).2.1 ?_
    show Steps p.tables e below (T1.setTop (mkF m 14 #[.val (.int (8 : Int32)), .val (.ref h0.size), .val (.int (10 : Int32)), .val (.int (0 : Int32)), .unset] [])) _
    refine XS.aloadN X1.here hx rfl (hb hby d1_14) rfl rfl ?_
    show Steps p.tables e below (T1.setTop (mkF m 15 #[.val (.int (8 : Int32)), .val (.ref h0.size), .val (.int (10 : Int32)), .val (.int (0 : Int32)), .unset] [(.ref h0.size)])) _
    refine XS.iloadN X1.here hx rfl (hb hby d1_15) rfl ?_
    show Steps p.tables e below (T1.setTop (mkF m 16 #[.val (.int (8 : Int32)), .val (.ref h0.size), .val (.int (10 : Int32)), .val (.int (0 : Int32)), .unset] [(.int (0 : Int32)), (.ref h0.size)])) _
    refine X1.aaload hx (j := (0 : Int32)) (v := (.ref w0)) Ar.1 (State.isArrayOf_alike hZ.alike Ar.2.1) rfl Ar.2.2 (inb_of Sz ⟨by decide, by decide⟩) (H.at (inb_of Sz ⟨by decide, by decide⟩) rfl) (g := (mkF m 16 #[.val (.int (8 : Int32)), .val (.ref h0.size), .val (.int (10 : Int32)), .val (.int (0 : Int32)), .unset] [(.int (0 : Int32)), (.ref h0.size)])) rfl rfl (hb hby d1_16) _ ?_
    show Steps p.tables e below (T1.setTop (mkF m 17 #[.val (.int (8 : Int32)), .val (.ref h0.size), .val (.int (10 : Int32)), .val (.int (0 : Int32)), .unset] [(.ref w0)])) _
    refine XS.astore X1.here hx rfl (hb hby d1_17) rfl rfl (l' := #[.val (.int (8 : Int32)), .val (.ref h0.size), .val (.int (10 : Int32)), .val (.int (0 : Int32)), .val (.ref w0)]) rfl ?_
    show Steps p.tables e below (T1.setTop (mkF m 19 #[.val (.int (8 : Int32)), .val (.ref h0.size), .val (.int (10 : Int32)), .val (.int (0 : Int32)), .val (.ref w0)] [])) _
    refine XS.aload X1.here hx rfl (hb hby d1_19) rfl rfl ?_
    show Steps p.tables e below (T1.setTop (mkF m 21 #[.val (.int (8 : Int32)), .val (.ref h0.size), .val (.int (10 : Int32)), .val (.int (0 : Int32)), .val (.ref w0)] [(.ref w0)])) _
    refine st2 _ ?_
    show Steps p.tables e below (T2.setTop (mkF m 24 #[.val (.int (8 : Int32)), .val (.ref h0.size), .val (.int (10 : Int32)), .val (.int (0 : Int32)), .val (.ref w0)] [(.int (1 : Int32))])) _
    refine XS.iloadN X2.here hx rfl (hb hby d1_24) rfl ?_
    show Steps p.tables e below (T2.setTop (mkF m 25 #[.val (.int (8 : Int32)), .val (.ref h0.size), .val (.int (10 : Int32)), .val (.int (0 : Int32)), .val (.ref w0)] [(.int (8 : Int32)), (.int (1 : Int32))])) _
    refine XS.icmpYes X2.here hx rfl (pc0 := 25) (pc' := 31) rfl (hb hby d1_25) rfl (feq (by decide +kernel)).2 (by decide) (by decide) ?_
    show Steps p.tables e below (T2.setTop (mkF m 31 #[.val (.int (8 : Int32)), .val (.ref h0.size), .val (.int (10 : Int32)), .val (.int (0 : Int32)), .val (.ref w0)] [])) _
    refine XS.iinc X2.here hx rfl (hb hby d1_31) rfl (l' := #[.val (.int (8 : Int32)), .val (.ref h0.size), .val (.int (10 : Int32)), .val (.int ((0 : Int32) + (1 : Int32))), .val (.ref w0)]) rfl ?_
    show Steps p.tables e below (T2.setTop (mkF m 34 #[.val (.int (8 : Int32)), .val (.ref h0.size), .val (.int (10 : Int32)), .val (.int ((0 : Int32) + (1 : Int32))), .val (.ref w0)] [])) _
    refine XS.goto X2.here hx rfl (pc0 := 34) (pc' := 9) rfl (hb hby d1_34) (by decide) (by decide) ?_
    show Steps p.tables e below (T2.setTop (mkF m 9 #[.val (.int (8 : Int32)), .val (.ref h0.size), .val (.int (10 : Int32)), .val (.int ((0 : Int32) + (1 : Int32))), .val (.ref w0)] [])) _
    refine XS.iloadN X2.here hx rfl (hb hby d1_9) rfl ?_
    show Steps p.tables e below (T2.setTop (mkF m 10 #[.val (.int (8 : Int32)), .val (.ref h0.size), .val (.int (10 : Int32)), .val (.int ((0 : Int32) + (1 : Int32))), .val (.ref w0)] [(.int ((0 : Int32) + (1 : Int32)))])) _
    refine XS.iloadN X2.here hx rfl (hb hby d1_10) rfl ?_
    show Steps p.tables e below (T2.setTop (mkF m 11 #[.val (.int (8 : Int32)), .val (.ref h0.size), .val (.int (10 : Int32)), .val (.int ((0 : Int32) + (1 : Int32))), .val (.ref w0)] [(.int (10 : Int32)), (.int ((0 : Int32) + (1 : Int32)))])) _
    refine XS.icmpNo X2.here hx rfl (hb hby d1_11) rfl (tlt (by decide +kernel)).2.1 ?_
    show Steps p.tables e below (T2.setTop (mkF m 14 #[.val (.int (8 : Int32)), .val (.ref h0.size), .val (.int (10 : Int32)), .val (.int ((0 : Int32) + (1 : Int32))), .val (.ref w0)] [])) _
    refine XS.aloadN X2.here hx rfl (hb hby d1_14) rfl rfl ?_
    show Steps p.tables e below (T2.setTop (mkF m 15 #[.val (.int (8 : Int32)), .val (.ref h0.size), .val (.int (10 : Int32)), .val (.int ((0 : Int32) + (1 : Int32))), .val (.ref w0)] [(.ref h0.size)])) _
    refine XS.iloadN X2.here hx rfl (hb hby d1_15) rfl ?_
    show Steps p.tables e below (T2.setTop (mkF m 16 #[.val (.int (8 : Int32)), .val (.ref h0.size), .val (.int (10 : Int32)), .val (.int ((0 : Int32) + (1 : Int32))), .val (.ref w0)] [(.int ((0 : Int32) + (1 : Int32))), (.ref h0.size)])) _
    refine X2.aaload hx (j := ((0 : Int32) + (1 : Int32))) (v := (.ref w1)) (by rw [e2]; exact Ar.1) (State.isArrayOf_alike hZ.alike Ar.2.1) rfl Ar.2.2 (inb_of Sz ⟨by decide, by decide⟩) (H.at (inb_of Sz ⟨by decide, by decide⟩) rfl) (g := (mkF m 16 #[.val (.int (8 : Int32)), .val (.ref h0.size), .val (.int (10 : Int32)), .val (.int ((0 : Int32) + (1 : Int32))), .val (.ref w0)] [(.int ((0 : Int32) + (1 : Int32))), (.ref h0.size)])) rfl rfl (hb hby d1_16) _ ?_
    show Steps p.tables e below (T2.setTop (mkF m 17 #[.val (.int (8 : Int32)), .val (.ref h0.size), .val (.int (10 : Int32)), .val (.int ((0 : Int32) + (1 : Int32))), .val (.ref w0)] [(.ref w1)])) _
    refine XS.astore X2.here hx rfl (hb hby d1_17) rfl rfl (l' := #[.val (.int (8 : Int32)), .val (.ref h0.size), .val (.int (10 : Int32)), .val (.int ((0 : Int32) + (1 : Int32))), .val (.ref w1)]) rfl ?_
    show Steps p.tables e below (T2.setTop (mkF m 19 #[.val (.int (8 : Int32)), .val (.ref h0.size), .val (.int (10 : Int32)), .val (.int ((0 : Int32) + (1 : Int32))), .val (.ref w1)] [])) _
    refine XS.aload X2.here hx rfl (hb hby d1_19) rfl rfl ?_
    show Steps p.tables e below (T2.setTop (mkF m 21 #[.val (.int (8 : Int32)), .val (.ref h0.size), .val (.int (10 : Int32)), .val (.int ((0 : Int32) + (1 : Int32))), .val (.ref w1)] [(.ref w1)])) _
    refine st3 _ ?_
    show Steps p.tables e below (T3.setTop (mkF m 24 #[.val (.int (8 : Int32)), .val (.ref h0.size), .val (.int (10 : Int32)), .val (.int ((0 : Int32) + (1 : Int32))), .val (.ref w1)] [(.int (2 : Int32))])) _
    refine XS.iloadN X3.here hx rfl (hb hby d1_24) rfl ?_
    show Steps p.tables e below (T3.setTop (mkF m 25 #[.val (.int (8 : Int32)), .val (.ref h0.size), .val (.int (10 : Int32)), .val (.int ((0 : Int32) + (1 : Int32))), .val (.ref w1)] [(.int (8 : Int32)), (.int (2 : Int32))])) _
    refine XS.icmpYes X3.here hx rfl (pc0 := 25) (pc' := 31) rfl (hb hby d1_25) rfl (feq (by decide +kernel)).2 (by decide) (by decide) ?_
    show Steps p.tables e below (T3.setTop (mkF m 31 #[.val (.int (8 : Int32)), .val (.ref h0.size), .val (.int (10 : Int32)), .val (.int ((0 : Int32) + (1 : Int32))), .val (.ref w1)] [])) _
    refine XS.iinc X3.here hx rfl (hb hby d1_31) rfl (l' := #[.val (.int (8 : Int32)), .val (.ref h0.size), .val (.int (10 : Int32)), .val (.int (((0 : Int32) + (1 : Int32)) + (1 : Int32))), .val (.ref w1)]) rfl ?_
    show Steps p.tables e below (T3.setTop (mkF m 34 #[.val (.int (8 : Int32)), .val (.ref h0.size), .val (.int (10 : Int32)), .val (.int (((0 : Int32) + (1 : Int32)) + (1 : Int32))), .val (.ref w1)] [])) _
    refine XS.goto X3.here hx rfl (pc0 := 34) (pc' := 9) rfl (hb hby d1_34) (by decide) (by decide) ?_
    show Steps p.tables e below (T3.setTop (mkF m 9 #[.val (.int (8 : Int32)), .val (.ref h0.size), .val (.int (10 : Int32)), .val (.int (((0 : Int32) + (1 : Int32)) + (1 : Int32))), .val (.ref w1)] [])) _
    refine XS.iloadN X3.here hx rfl (hb hby d1_9) rfl ?_
    show Steps p.tables e below (T3.setTop (mkF m 10 #[.val (.int (8 : Int32)), .val (.ref h0.size), .val (.int (10 : Int32)), .val (.int (((0 : Int32) + (1 : Int32)) + (1 : Int32))), .val (.ref w1)] [(.int (((0 : Int32) + (1 : Int32)) + (1 : Int32)))])) _
    refine XS.iloadN X3.here hx rfl (hb hby d1_10) rfl ?_
    show Steps p.tables e below (T3.setTop (mkF m 11 #[.val (.int (8 : Int32)), .val (.ref h0.size), .val (.int (10 : Int32)), .val (.int (((0 : Int32) + (1 : Int32)) + (1 : Int32))), .val (.ref w1)] [(.int (10 : Int32)), (.int (((0 : Int32) + (1 : Int32)) + (1 : Int32)))])) _
    refine XS.icmpNo X3.here hx rfl (hb hby d1_11) rfl (tlt (by decide +kernel)).2.1 ?_
    show Steps p.tables e below (T3.setTop (mkF m 14 #[.val (.int (8 : Int32)), .val (.ref h0.size), .val (.int (10 : Int32)), .val (.int (((0 : Int32) + (1 : Int32)) + (1 : Int32))), .val (.ref w1)] [])) _
    refine XS.aloadN X3.here hx rfl (hb hby d1_14) rfl rfl ?_
    show Steps p.tables e below (T3.setTop (mkF m 15 #[.val (.int (8 : Int32)), .val (.ref h0.size), .val (.int (10 : Int32)), .val (.int (((0 : Int32) + (1 : Int32)) + (1 : Int32))), .val (.ref w1)] [(.ref h0.size)])) _
    refine XS.iloadN X3.here hx rfl (hb hby d1_15) rfl ?_
    show Steps p.tables e below (T3.setTop (mkF m 16 #[.val (.int (8 : Int32)), .val (.ref h0.size), .val (.int (10 : Int32)), .val (.int (((0 : Int32) + (1 : Int32)) + (1 : Int32))), .val (.ref w1)] [(.int (((0 : Int32) + (1 : Int32)) + (1 : Int32))), (.ref h0.size)])) _
    refine X3.aaload hx (j := (((0 : Int32) + (1 : Int32)) + (1 : Int32))) (v := (.ref w2)) (by rw [e3]; exact Ar.1) (State.isArrayOf_alike hZ.alike Ar.2.1) rfl Ar.2.2 (inb_of Sz ⟨by decide, by decide⟩) (H.at (inb_of Sz ⟨by decide, by decide⟩) rfl) (g := (mkF m 16 #[.val (.int (8 : Int32)), .val (.ref h0.size), .val (.int (10 : Int32)), .val (.int (((0 : Int32) + (1 : Int32)) + (1 : Int32))), .val (.ref w1)] [(.int (((0 : Int32) + (1 : Int32)) + (1 : Int32))), (.ref h0.size)])) rfl rfl (hb hby d1_16) _ ?_
    show Steps p.tables e below (T3.setTop (mkF m 17 #[.val (.int (8 : Int32)), .val (.ref h0.size), .val (.int (10 : Int32)), .val (.int (((0 : Int32) + (1 : Int32)) + (1 : Int32))), .val (.ref w1)] [(.ref w2)])) _
    refine XS.astore X3.here hx rfl (hb hby d1_17) rfl rfl (l' := #[.val (.int (8 : Int32)), .val (.ref h0.size), .val (.int (10 : Int32)), .val (.int (((0 : Int32) + (1 : Int32)) + (1 : Int32))), .val (.ref w2)]) rfl ?_
    show Steps p.tables e below (T3.setTop (mkF m 19 #[.val (.int (8 : Int32)), .val (.ref h0.size), .val (.int (10 : Int32)), .val (.int (((0 : Int32) + (1 : Int32)) + (1 : Int32))), .val (.ref w2)] [])) _
    refine XS.aload X3.here hx rfl (hb hby d1_19) rfl rfl ?_
    show Steps p.tables e below (T3.setTop (mkF m 21 #[.val (.int (8 : Int32)), .val (.ref h0.size), .val (.int (10 : Int32)), .val (.int (((0 : Int32) + (1 : Int32)) + (1 : Int32))), .val (.ref w2)] [(.ref w2)])) _
    refine st4 _ ?_
    show Steps p.tables e below (T4.setTop (mkF m 24 #[.val (.int (8 : Int32)), .val (.ref h0.size), .val (.int (10 : Int32)), .val (.int (((0 : Int32) + (1 : Int32)) + (1 : Int32))), .val (.ref w2)] [(.int (3 : Int32))])) _
    refine XS.iloadN X4.here hx rfl (hb hby d1_24) rfl ?_
    show Steps p.tables e below (T4.setTop (mkF m 25 #[.val (.int (8 : Int32)), .val (.ref h0.size), .val (.int (10 : Int32)), .val (.int (((0 : Int32) + (1 : Int32)) + (1 : Int32))), .val (.ref w2)] [(.int (8 : Int32)), (.int (3 : Int32))])) _
    refine XS.icmpYes X4.here hx rfl (pc0 := 25) (pc' := 31) rfl (hb hby d1_25) rfl (feq (by decide +kernel)).2 (by decide) (by decide) ?_
    show Steps p.tables e below (T4.setTop (mkF m 31 #[.val (.int (8 : Int32)), .val (.ref h0.size), .val (.int (10 : Int32)), .val (.int (((0 : Int32) + (1 : Int32)) + (1 : Int32))), .val (.ref w2)] [])) _
    refine XS.iinc X4.here hx rfl (hb hby d1_31) rfl (l' := #[.val (.int (8 : Int32)), .val (.ref h0.size), .val (.int (10 : Int32)), .val (.int ((((0 : Int32) + (1 : Int32)) + (1 : Int32)) + (1 : Int32))), .val (.ref w2)]) rfl ?_
    show Steps p.tables e below (T4.setTop (mkF m 34 #[.val (.int (8 : Int32)), .val (.ref h0.size), .val (.int (10 : Int32)), .val (.int ((((0 : Int32) + (1 : Int32)) + (1 : Int32)) + (1 : Int32))), .val (.ref w2)] [])) _
    refine XS.goto X4.here hx rfl (pc0 := 34) (pc' := 9) rfl (hb hby d1_34) (by decide) (by decide) ?_
    show Steps p.tables e below (T4.setTop (mkF m 9 #[.val (.int (8 : Int32)), .val (.ref h0.size), .val (.int (10 : Int32)), .val (.int ((((0 : Int32) + (1 : Int32)) + (1 : Int32)) + (1 : Int32))), .val (.ref w2)] [])) _
    refine XS.iloadN X4.here hx rfl (hb hby d1_9) rfl ?_
    show Steps p.tables e below (T4.setTop (mkF m 10 #[.val (.int (8 : Int32)), .val (.ref h0.size), .val (.int (10 : Int32)), .val (.int ((((0 : Int32) + (1 : Int32)) + (1 : Int32)) + (1 : Int32))), .val (.ref w2)] [(.int ((((0 : Int32) + (1 : Int32)) + (1 : Int32)) + (1 : Int32)))])) _
    refine XS.iloadN X4.here hx rfl (hb hby d1_10) rfl ?_
    show Steps p.tables e below (T4.setTop (mkF m 11 #[.val (.int (8 : Int32)), .val (.ref h0.size), .val (.int (10 : Int32)), .val (.int ((((0 : Int32) + (1 : Int32)) + (1 : Int32)) + (1 : Int32))), .val (.ref w2)] [(.int (10 : Int32)), (.int ((((0 : Int32) + (1 : Int32)) + (1 : Int32)) + (1 : Int32)))])) _
    refine XS.icmpNo X4.here hx rfl (hb hby d1_11) rfl (tlt (by decide +kernel)).2.1 ?_
    show Steps p.tables e below (T4.setTop (mkF m 14 #[.val (.int (8 : Int32)), .val (.ref h0.size), .val (.int (10 : Int32)), .val (.int ((((0 : Int32) + (1 : Int32)) + (1 : Int32)) + (1 : Int32))), .val (.ref w2)] [])) _
    refine XS.aloadN X4.here hx rfl (hb hby d1_14) rfl rfl ?_
    show Steps p.tables e below (T4.setTop (mkF m 15 #[.val (.int (8 : Int32)), .val (.ref h0.size), .val (.int (10 : Int32)), .val (.int ((((0 : Int32) + (1 : Int32)) + (1 : Int32)) + (1 : Int32))), .val (.ref w2)] [(.ref h0.size)])) _
    refine XS.iloadN X4.here hx rfl (hb hby d1_15) rfl ?_
    show Steps p.tables e below (T4.setTop (mkF m 16 #[.val (.int (8 : Int32)), .val (.ref h0.size), .val (.int (10 : Int32)), .val (.int ((((0 : Int32) + (1 : Int32)) + (1 : Int32)) + (1 : Int32))), .val (.ref w2)] [(.int ((((0 : Int32) + (1 : Int32)) + (1 : Int32)) + (1 : Int32))), (.ref h0.size)])) _
    refine X4.aaload hx (j := ((((0 : Int32) + (1 : Int32)) + (1 : Int32)) + (1 : Int32))) (v := (.ref w3)) (by rw [e4]; exact Ar.1) (State.isArrayOf_alike hZ.alike Ar.2.1) rfl Ar.2.2 (inb_of Sz ⟨by decide, by decide⟩) (H.at (inb_of Sz ⟨by decide, by decide⟩) rfl) (g := (mkF m 16 #[.val (.int (8 : Int32)), .val (.ref h0.size), .val (.int (10 : Int32)), .val (.int ((((0 : Int32) + (1 : Int32)) + (1 : Int32)) + (1 : Int32))), .val (.ref w2)] [(.int ((((0 : Int32) + (1 : Int32)) + (1 : Int32)) + (1 : Int32))), (.ref h0.size)])) rfl rfl (hb hby d1_16) _ ?_
    show Steps p.tables e below (T4.setTop (mkF m 17 #[.val (.int (8 : Int32)), .val (.ref h0.size), .val (.int (10 : Int32)), .val (.int ((((0 : Int32) + (1 : Int32)) + (1 : Int32)) + (1 : Int32))), .val (.ref w2)] [(.ref w3)])) _
    refine XS.astore X4.here hx rfl (hb hby d1_17) rfl rfl (l' := #[.val (.int (8 : Int32)), .val (.ref h0.size), .val (.int (10 : Int32)), .val (.int ((((0 : Int32) + (1 : Int32)) + (1 : Int32)) + (1 : Int32))), .val (.ref w3)]) rfl ?_
    show Steps p.tables e below (T4.setTop (mkF m 19 #[.val (.int (8 : Int32)), .val (.ref h0.size), .val (.int (10 : Int32)), .val (.int ((((0 : Int32) + (1 : Int32)) + (1 : Int32)) + (1 : Int32))), .val (.ref w3)] [])) _
    refine XS.aload X4.here hx rfl (hb hby d1_19) rfl rfl ?_
    show Steps p.tables e below (T4.setTop (mkF m 21 #[.val (.int (8 : Int32)), .val (.ref h0.size), .val (.int (10 : Int32)), .val (.int ((((0 : Int32) + (1 : Int32)) + (1 : Int32)) + (1 : Int32))), .val (.ref w3)] [(.ref w3)])) _
    refine st5 _ ?_
    show Steps p.tables e below (T5.setTop (mkF m 24 #[.val (.int (8 : Int32)), .val (.ref h0.size), .val (.int (10 : Int32)), .val (.int ((((0 : Int32) + (1 : Int32)) + (1 : Int32)) + (1 : Int32))), .val (.ref w3)] [(.int (4 : Int32))])) _
    refine XS.iloadN X5.here hx rfl (hb hby d1_24) rfl ?_
    show Steps p.tables e below (T5.setTop (mkF m 25 #[.val (.int (8 : Int32)), .val (.ref h0.size), .val (.int (10 : Int32)), .val (.int ((((0 : Int32) + (1 : Int32)) + (1 : Int32)) + (1 : Int32))), .val (.ref w3)] [(.int (8 : Int32)), (.int (4 : Int32))])) _
    refine XS.icmpYes X5.here hx rfl (pc0 := 25) (pc' := 31) rfl (hb hby d1_25) rfl (feq (by decide +kernel)).2 (by decide) (by decide) ?_
    show Steps p.tables e below (T5.setTop (mkF m 31 #[.val (.int (8 : Int32)), .val (.ref h0.size), .val (.int (10 : Int32)), .val (.int ((((0 : Int32) + (1 : Int32)) + (1 : Int32)) + (1 : Int32))), .val (.ref w3)] [])) _
    refine XS.iinc X5.here hx rfl (hb hby d1_31) rfl (l' := #[.val (.int (8 : Int32)), .val (.ref h0.size), .val (.int (10 : Int32)), .val (.int (((((0 : Int32) + (1 : Int32)) + (1 : Int32)) + (1 : Int32)) + (1 : Int32))), .val (.ref w3)]) rfl ?_
    show Steps p.tables e below (T5.setTop (mkF m 34 #[.val (.int (8 : Int32)), .val (.ref h0.size), .val (.int (10 : Int32)), .val (.int (((((0 : Int32) + (1 : Int32)) + (1 : Int32)) + (1 : Int32)) + (1 : Int32))), .val (.ref w3)] [])) _
    refine XS.goto X5.here hx rfl (pc0 := 34) (pc' := 9) rfl (hb hby d1_34) (by decide) (by decide) ?_
    show Steps p.tables e below (T5.setTop (mkF m 9 #[.val (.int (8 : Int32)), .val (.ref h0.size), .val (.int (10 : Int32)), .val (.int (((((0 : Int32) + (1 : Int32)) + (1 : Int32)) + (1 : Int32)) + (1 : Int32))), .val (.ref w3)] [])) _
    refine XS.iloadN X5.here hx rfl (hb hby d1_9) rfl ?_
    show Steps p.tables e below (T5.setTop (mkF m 10 #[.val (.int (8 : Int32)), .val (.ref h0.size), .val (.int (10 : Int32)), .val (.int (((((0 : Int32) + (1 : Int32)) + (1 : Int32)) + (1 : Int32)) + (1 : Int32))), .val (.ref w3)] [(.int (((((0 : Int32) + (1 : Int32)) + (1 : Int32)) + (1 : Int32)) + (1 : Int32)))])) _
    refine XS.iloadN X5.here hx rfl (hb hby d1_10) rfl ?_
    show Steps p.tables e below (T5.setTop (mkF m 11 #[.val (.int (8 : Int32)), .val (.ref h0.size), .val (.int (10 : Int32)), .val (.int (((((0 : Int32) + (1 : Int32)) + (1 : Int32)) + (1 : Int32)) + (1 : Int32))), .val (.ref w3)] [(.int (10 : Int32)), (.int (((((0 : Int32) + (1 : Int32)) + (1 : Int32)) + (1 : Int32)) + (1 : Int32)))])) _
    refine XS.icmpNo X5.here hx rfl (hb hby d1_11) rfl (tlt (by decide +kernel)).2.1 ?_
    show Steps p.tables e below (T5.setTop (mkF m 14 #[.val (.int (8 : Int32)), .val (.ref h0.size), .val (.int (10 : Int32)), .val (.int (((((0 : Int32) + (1 : Int32)) + (1 : Int32)) + (1 : Int32)) + (1 : Int32))), .val (.ref w3)] [])) _
    refine XS.aloadN X5.here hx rfl (hb hby d1_14) rfl rfl ?_
    show Steps p.tables e below (T5.setTop (mkF m 15 #[.val (.int (8 : Int32)), .val (.ref h0.size), .val (.int (10 : Int32)), .val (.int (((((0 : Int32) + (1 : Int32)) + (1 : Int32)) + (1 : Int32)) + (1 : Int32))), .val (.ref w3)] [(.ref h0.size)])) _
    refine XS.iloadN X5.here hx rfl (hb hby d1_15) rfl ?_
    show Steps p.tables e below (T5.setTop (mkF m 16 #[.val (.int (8 : Int32)), .val (.ref h0.size), .val (.int (10 : Int32)), .val (.int (((((0 : Int32) + (1 : Int32)) + (1 : Int32)) + (1 : Int32)) + (1 : Int32))), .val (.ref w3)] [(.int (((((0 : Int32) + (1 : Int32)) + (1 : Int32)) + (1 : Int32)) + (1 : Int32))), (.ref h0.size)])) _
    refine X5.aaload hx (j := (((((0 : Int32) + (1 : Int32)) + (1 : Int32)) + (1 : Int32)) + (1 : Int32))) (v := (.ref w4)) (by rw [e5]; exact Ar.1) (State.isArrayOf_alike hZ.alike Ar.2.1) rfl Ar.2.2 (inb_of Sz ⟨by decide, by decide⟩) (H.at (inb_of Sz ⟨by decide, by decide⟩) rfl) (g := (mkF m 16 #[.val (.int (8 : Int32)), .val (.ref h0.size), .val (.int (10 : Int32)), .val (.int (((((0 : Int32) + (1 : Int32)) + (1 : Int32)) + (1 : Int32)) + (1 : Int32))), .val (.ref w3)] [(.int (((((0 : Int32) + (1 : Int32)) + (1 : Int32)) + (1 : Int32)) + (1 : Int32))), (.ref h0.size)])) rfl rfl (hb hby d1_16) _ ?_
    show Steps p.tables e below (T5.setTop (mkF m 17 #[.val (.int (8 : Int32)), .val (.ref h0.size), .val (.int (10 : Int32)), .val (.int (((((0 : Int32) + (1 : Int32)) + (1 : Int32)) + (1 : Int32)) + (1 : Int32))), .val (.ref w3)] [(.ref w4)])) _
    refine XS.astore X5.here hx rfl (hb hby d1_17) rfl rfl (l' := #[.val (.int (8 : Int32)), .val (.ref h0.size), .val (.int (10 : Int32)), .val (.int (((((0 : Int32) + (1 : Int32)) + (1 : Int32)) + (1 : Int32)) + (1 : Int32))), .val (.ref w4)]) rfl ?_
    show Steps p.tables e below (T5.setTop (mkF m 19 #[.val (.int (8 : Int32)), .val (.ref h0.size), .val (.int (10 : Int32)), .val (.int (((((0 : Int32) + (1 : Int32)) + (1 : Int32)) + (1 : Int32)) + (1 : Int32))), .val (.ref w4)] [])) _
    refine XS.aload X5.here hx rfl (hb hby d1_19) rfl rfl ?_
    show Steps p.tables e below (T5.setTop (mkF m 21 #[.val (.int (8 : Int32)), .val (.ref h0.size), .val (.int (10 : Int32)), .val (.int (((((0 : Int32) + (1 : Int32)) + (1 : Int32)) + (1 : Int32)) + (1 : Int32))), .val (.ref w4)] [(.ref w4)])) _
    refine st6 _ ?_
    show Steps p.tables e below (T6.setTop (mkF m 24 #[.val (.int (8 : Int32)), .val (.ref h0.size), .val (.int (10 : Int32)), .val (.int (((((0 : Int32) + (1 : Int32)) + (1 : Int32)) + (1 : Int32)) + (1 : Int32))), .val (.ref w4)] [(.int (5 : Int32))])) _
    refine XS.iloadN X6.here hx rfl (hb hby d1_24) rfl ?_
    show Steps p.tables e below (T6.setTop (mkF m 25 #[.val (.int (8 : Int32)), .val (.ref h0.size), .val (.int (10 : Int32)), .val (.int (((((0 : Int32) + (1 : Int32)) + (1 : Int32)) + (1 : Int32)) + (1 : Int32))), .val (.ref w4)] [(.int (8 : Int32)), (.int (5 : Int32))])) _
    refine XS.icmpYes X6.here hx rfl (pc0 := 25) (pc' := 31) rfl (hb hby d1_25) rfl (feq (by decide +kernel)).2 (by decide) (by decide) ?_
    show Steps p.tables e below (T6.setTop (mkF m 31 #[.val (.int (8 : Int32)), .val (.ref h0.size), .val (.int (10 : Int32)), .val (.int (((((0 : Int32) + (1 : Int32)) + (1 : Int32)) + (1 : Int32)) + (1 : Int32))), .val (.ref w4)] [])) _
    refine XS.iinc X6.here hx rfl (hb hby d1_31) rfl (l' := #[.val (.int (8 : Int32)), .val (.ref h0.size), .val (.int (10 : Int32)), .val (.int ((((((0 : Int32) + (1 : Int32)) + (1 : Int32)) + (1 : Int32)) + (1 : Int32)) + (1 : Int32))), .val (.ref w4)]) rfl ?_
    show Steps p.tables e below (T6.setTop (mkF m 34 #[.val (.int (8 : Int32)), .val (.ref h0.size), .val (.int (10 : Int32)), .val (.int ((((((0 : Int32) + (1 : Int32)) + (1 : Int32)) + (1 : Int32)) + (1 : Int32)) + (1 : Int32))), .val (.ref w4)] [])) _
    refine XS.goto X6.here hx rfl (pc0 := 34) (pc' := 9) rfl (hb hby d1_34) (by decide) (by decide) ?_
    show Steps p.tables e below (T6.setTop (mkF m 9 #[.val (.int (8 : Int32)), .val (.ref h0.size), .val (.int (10 : Int32)), .val (.int ((((((0 : Int32) + (1 : Int32)) + (1 : Int32)) + (1 : Int32)) + (1 : Int32)) + (1 : Int32))), .val (.ref w4)] [])) _
    refine XS.iloadN X6.here hx rfl (hb hby d1_9) rfl ?_
    show Steps p.tables e below (T6.setTop (mkF m 10 #[.val (.int (8 : Int32)), .val (.ref h0.size), .val (.int (10 : Int32)), .val (.int ((((((0 : Int32) + (1 : Int32)) + (1 : Int32)) + (1 : Int32)) + (1 : Int32)) + (1 : Int32))), .val (.ref w4)] [(.int ((((((0 : Int32) + (1 : Int32)) + (1 : Int32)) + (1 : Int32)) + (1 : Int32)) + (1 : Int32)))])) _
    refine XS.iloadN X6.here hx rfl (hb hby d1_10) rfl ?_
    show Steps p.tables e below (T6.setTop (mkF m 11 #[.val (.int (8 : Int32)), .val (.ref h0.size), .val (.int (10 : Int32)), .val (.int ((((((0 : Int32) + (1 : Int32)) + (1 : Int32)) + (1 : Int32)) + (1 : Int32)) + (1 : Int32))), .val (.ref w4)] [(.int (10 : Int32)), (.int ((((((0 : Int32) + (1 : Int32)) + (1 : Int32)) + (1 : Int32)) + (1 : Int32)) + (1 : Int32)))])) _
    refine XS.icmpNo X6.here hx rfl (hb hby d1_11) rfl (tlt (by decide +kernel)).2.1 ?_
    show Steps p.tables e below (T6.setTop (mkF m 14 #[.val (.int (8 : Int32)), .val (.ref h0.size), .val (.int (10 : Int32)), .val (.int ((((((0 : Int32) + (1 : Int32)) + (1 : Int32)) + (1 : Int32)) + (1 : Int32)) + (1 : Int32))), .val (.ref w4)] [])) _
    refine XS.aloadN X6.here hx rfl (hb hby d1_14) rfl rfl ?_
    show Steps p.tables e below (T6.setTop (mkF m 15 #[.val (.int (8 : Int32)), .val (.ref h0.size), .val (.int (10 : Int32)), .val (.int ((((((0 : Int32) + (1 : Int32)) + (1 : Int32)) + (1 : Int32)) + (1 : Int32)) + (1 : Int32))), .val (.ref w4)] [(.ref h0.size)])) _
    refine XS.iloadN X6.here hx rfl (hb hby d1_15) rfl ?_
    show Steps p.tables e below (T6.setTop (mkF m 16 #[.val (.int (8 : Int32)), .val (.ref h0.size), .val (.int (10 : Int32)), .val (.int ((((((0 : Int32) + (1 : Int32)) + (1 : Int32)) + (1 : Int32)) + (1 : Int32)) + (1 : Int32))), .val (.ref w4)] [(.int ((((((0 : Int32) + (1 : Int32)) + (1 : Int32)) + (1 : Int32)) + (1 : Int32)) + (1 : Int32))), (.ref h0.size)])) _
    refine X6.aaload hx (j := ((((((0 : Int32) + (1 : Int32)) + (1 : Int32)) + (1 : Int32)) + (1 : Int32)) + (1 : Int32))) (v := (.ref w5)) (by rw [e6]; exact Ar.1) (State.isArrayOf_alike hZ.alike Ar.2.1) rfl Ar.2.2 (inb_of Sz ⟨by decide, by decide⟩) (H.at (inb_of Sz ⟨by decide, by decide⟩) rfl) (g := (mkF m 16 #[.val (.int (8 : Int32)), .val (.ref h0.size), .val (.int (10 : Int32)), .val (.int ((((((0 : Int32) + (1 : Int32)) + (1 : Int32)) + (1 : Int32)) + (1 : Int32)) + (1 : Int32))), .val (.ref w4)] [(.int ((((((0 : Int32) + (1 : Int32)) + (1 : Int32)) + (1 : Int32)) + (1 : Int32)) + (1 : Int32))), (.ref h0.size)])) rfl rfl (hb hby d1_16) _ ?_
    show Steps p.tables e below (T6.setTop (mkF m 17 #[.val (.int (8 : Int32)), .val (.ref h0.size), .val (.int (10 : Int32)), .val (.int ((((((0 : Int32) + (1 : Int32)) + (1 : Int32)) + (1 : Int32)) + (1 : Int32)) + (1 : Int32))), .val (.ref w4)] [(.ref w5)])) _
    refine XS.astore X6.here hx rfl (hb hby d1_17) rfl rfl (l' := #[.val (.int (8 : Int32)), .val (.ref h0.size), .val (.int (10 : Int32)), .val (.int ((((((0 : Int32) + (1 : Int32)) + (1 : Int32)) + (1 : Int32)) + (1 : Int32)) + (1 : Int32))), .val (.ref w5)]) rfl ?_
    show Steps p.tables e below (T6.setTop (mkF m 19 #[.val (.int (8 : Int32)), .val (.ref h0.size), .val (.int (10 : Int32)), .val (.int ((((((0 : Int32) + (1 : Int32)) + (1 : Int32)) + (1 : Int32)) + (1 : Int32)) + (1 : Int32))), .val (.ref w5)] [])) _
    refine XS.aload X6.here hx rfl (hb hby d1_19) rfl rfl ?_
    show Steps p.tables e below (T6.setTop (mkF m 21 #[.val (.int (8 : Int32)), .val (.ref h0.size), .val (.int (10 : Int32)), .val (.int ((((((0 : Int32) + (1 : Int32)) + (1 : Int32)) + (1 : Int32)) + (1 : Int32)) + (1 : Int32))), .val (.ref w5)] [(.ref w5)])) _
    refine st7 _ ?_
    show Steps p.tables e below (T7.setTop (mkF m 24 #[.val (.int (8 : Int32)), .val (.ref h0.size), .val (.int (10 : Int32)), .val (.int ((((((0 : Int32) + (1 : Int32)) + (1 : Int32)) + (1 : Int32)) + (1 : Int32)) + (1 : Int32))), .val (.ref w5)] [(.int (6 : Int32))])) _
    refine XS.iloadN X7.here hx rfl (hb hby d1_24) rfl ?_
    show Steps p.tables e below (T7.setTop (mkF m 25 #[.val (.int (8 : Int32)), .val (.ref h0.size), .val (.int (10 : Int32)), .val (.int ((((((0 : Int32) + (1 : Int32)) + (1 : Int32)) + (1 : Int32)) + (1 : Int32)) + (1 : Int32))), .val (.ref w5)] [(.int (8 : Int32)), (.int (6 : Int32))])) _
    refine XS.icmpYes X7.here hx rfl (pc0 := 25) (pc' := 31) rfl (hb hby d1_25) rfl (feq (by decide +kernel)).2 (by decide) (by decide) ?_
    show Steps p.tables e below (T7.setTop (mkF m 31 #[.val (.int (8 : Int32)), .val (.ref h0.size), .val (.int (10 : Int32)), .val (.int ((((((0 : Int32) + (1 : Int32)) + (1 : Int32)) + (1 : Int32)) + (1 : Int32)) + (1 : Int32))), .val (.ref w5)] [])) _
    refine XS.iinc X7.here hx rfl (hb hby d1_31) rfl (l' := #[.val (.int (8 : Int32)), .val (.ref h0.size), .val (.int (10 : Int32)), .val (.int (((((((0 : Int32) + (1 : Int32)) + (1 : Int32)) + (1 : Int32)) + (1 : Int32)) + (1 : Int32)) + (1 : Int32))), .val (.ref w5)]) rfl ?_
    show Steps p.tables e below (T7.setTop (mkF m 34 #[.val (.int (8 : Int32)), .val (.ref h0.size), .val (.int (10 : Int32)), .val (.int (((((((0 : Int32) + (1 : Int32)) + (1 : Int32)) + (1 : Int32)) + (1 : Int32)) + (1 : Int32)) + (1 : Int32))), .val (.ref w5)] [])) _
    refine XS.goto X7.here hx rfl (pc0 := 34) (pc' := 9) rfl (hb hby d1_34) (by decide) (by decide) ?_
    show Steps p.tables e below (T7.setTop (mkF m 9 #[.val (.int (8 : Int32)), .val (.ref h0.size), .val (.int (10 : Int32)), .val (.int (((((((0 : Int32) + (1 : Int32)) + (1 : Int32)) + (1 : Int32)) + (1 : Int32)) + (1 : Int32)) + (1 : Int32))), .val (.ref w5)] [])) _
    refine XS.iloadN X7.here hx rfl (hb hby d1_9) rfl ?_
    show Steps p.tables e below (T7.setTop (mkF m 10 #[.val (.int (8 : Int32)), .val (.ref h0.size), .val (.int (10 : Int32)), .val (.int (((((((0 : Int32) + (1 : Int32)) + (1 : Int32)) + (1 : Int32)) + (1 : Int32)) + (1 : Int32)) + (1 : Int32))), .val (.ref w5)] [(.int (((((((0 : Int32) + (1 : Int32)) + (1 : Int32)) + (1 : Int32)) + (1 : Int32)) + (1 : Int32)) + (1 : Int32)))])) _
    refine XS.iloadN X7.here hx rfl (hb hby d1_10) rfl ?_
    show Steps p.tables e below (T7.setTop (mkF m 11 #[.val (.int (8 : Int32)), .val (.ref h0.size), .val (.int (10 : Int32)), .val (.int (((((((0 : Int32) + (1 : Int32)) + (1 : Int32)) + (1 : Int32)) + (1 : Int32)) + (1 : Int32)) + (1 : Int32))), .val (.ref w5)] [(.int (10 : Int32)), (.int (((((((0 : Int32) + (1 : Int32)) + (1 : Int32)) + (1 : Int32)) + (1 : Int32)) + (1 : Int32)) + (1 : Int32)))])) _
    refine XS.icmpNo X7.here hx rfl (hb hby d1_11) rfl (tlt (by decide +kernel)).2.1 ?_
    show Steps p.tables e below (T7.setTop (mkF m 14 #[.val (.int (8 : Int32)), .val (.ref h0.size), .val (.int (10 : Int32)), .val (.int (((((((0 : Int32) + (1 : Int32)) + (1 : Int32)) + (1 : Int32)) + (1 : Int32)) + (1 : Int32)) + (1 : Int32))), .val (.ref w5)] [])) _
    refine XS.aloadN X7.here hx rfl (hb hby d1_14) rfl rfl ?_
    show Steps p.tables e below (T7.setTop (mkF m 15 #[.val (.int (8 : Int32)), .val (.ref h0.size), .val (.int (10 : Int32)), .val (.int (((((((0 : Int32) + (1 : Int32)) + (1 : Int32)) + (1 : Int32)) + (1 : Int32)) + (1 : Int32)) + (1 : Int32))), .val (.ref w5)] [(.ref h0.size)])) _
    refine XS.iloadN X7.here hx rfl (hb hby d1_15) rfl ?_
    show Steps p.tables e below (T7.setTop (mkF m 16 #[.val (.int (8 : Int32)), .val (.ref h0.size), .val (.int (10 : Int32)), .val (.int (((((((0 : Int32) + (1 : Int32)) + (1 : Int32)) + (1 : Int32)) + (1 : Int32)) + (1 : Int32)) + (1 : Int32))), .val (.ref w5)] [(.int (((((((0 : Int32) + (1 : Int32)) + (1 : Int32)) + (1 : Int32)) + (1 : Int32)) + (1 : Int32)) + (1 : Int32))), (.ref h0.size)])) _
    refine X7.aaload hx (j := (((((((0 : Int32) + (1 : Int32)) + (1 : Int32)) + (1 : Int32)) + (1 : Int32)) + (1 : Int32)) + (1 : Int32))) (v := (.ref w6)) (by rw [e7]; exact Ar.1) (State.isArrayOf_alike hZ.alike Ar.2.1) rfl Ar.2.2 (inb_of Sz ⟨by decide, by decide⟩) (H.at (inb_of Sz ⟨by decide, by decide⟩) rfl) (g := (mkF m 16 #[.val (.int (8 : Int32)), .val (.ref h0.size), .val (.int (10 : Int32)), .val (.int (((((((0 : Int32) + (1 : Int32)) + (1 : Int32)) + (1 : Int32)) + (1 : Int32)) + (1 : Int32)) + (1 : Int32))), .val (.ref w5)] [(.int (((((((0 : Int32) + (1 : Int32)) + (1 : Int32)) + (1 : Int32)) + (1 : Int32)) + (1 : Int32)) + (1 : Int32))), (.ref h0.size)])) rfl rfl (hb hby d1_16) _ ?_
    show Steps p.tables e below (T7.setTop (mkF m 17 #[.val (.int (8 : Int32)), .val (.ref h0.size), .val (.int (10 : Int32)), .val (.int (((((((0 : Int32) + (1 : Int32)) + (1 : Int32)) + (1 : Int32)) + (1 : Int32)) + (1 : Int32)) + (1 : Int32))), .val (.ref w5)] [(.ref w6)])) _
    refine XS.astore X7.here hx rfl (hb hby d1_17) rfl rfl (l' := #[.val (.int (8 : Int32)), .val (.ref h0.size), .val (.int (10 : Int32)), .val (.int (((((((0 : Int32) + (1 : Int32)) + (1 : Int32)) + (1 : Int32)) + (1 : Int32)) + (1 : Int32)) + (1 : Int32))), .val (.ref w6)]) rfl ?_
    show Steps p.tables e below (T7.setTop (mkF m 19 #[.val (.int (8 : Int32)), .val (.ref h0.size), .val (.int (10 : Int32)), .val (.int (((((((0 : Int32) + (1 : Int32)) + (1 : Int32)) + (1 : Int32)) + (1 : Int32)) + (1 : Int32)) + (1 : Int32))), .val (.ref w6)] [])) _
    refine XS.aload X7.here hx rfl (hb hby d1_19) rfl rfl ?_
    show Steps p.tables e below (T7.setTop (mkF m 21 #[.val (.int (8 : Int32)), .val (.ref h0.size), .val (.int (10 : Int32)), .val (.int (((((((0 : Int32) + (1 : Int32)) + (1 : Int32)) + (1 : Int32)) + (1 : Int32)) + (1 : Int32)) + (1 : Int32))), .val (.ref w6)] [(.ref w6)])) _
    refine st8 _ ?_
    show Steps p.tables e below (T8.setTop (mkF m 24 #[.val (.int (8 : Int32)), .val (.ref h0.size), .val (.int (10 : Int32)), .val (.int (((((((0 : Int32) + (1 : Int32)) + (1 : Int32)) + (1 : Int32)) + (1 : Int32)) + (1 : Int32)) + (1 : Int32))), .val (.ref w6)] [(.int (7 : Int32))])) _
    refine XS.iloadN X8.here hx rfl (hb hby d1_24) rfl ?_
    show Steps p.tables e below (T8.setTop (mkF m 25 #[.val (.int (8 : Int32)), .val (.ref h0.size), .val (.int (10 : Int32)), .val (.int (((((((0 : Int32) + (1 : Int32)) + (1 : Int32)) + (1 : Int32)) + (1 : Int32)) + (1 : Int32)) + (1 : Int32))), .val (.ref w6)] [(.int (8 : Int32)), (.int (7 : Int32))])) _
    refine XS.icmpYes X8.here hx rfl (pc0 := 25) (pc' := 31) rfl (hb hby d1_25) rfl (feq (by decide +kernel)).2 (by decide) (by decide) ?_
    show Steps p.tables e below (T8.setTop (mkF m 31 #[.val (.int (8 : Int32)), .val (.ref h0.size), .val (.int (10 : Int32)), .val (.int (((((((0 : Int32) + (1 : Int32)) + (1 : Int32)) + (1 : Int32)) + (1 : Int32)) + (1 : Int32)) + (1 : Int32))), .val (.ref w6)] [])) _
    refine XS.iinc X8.here hx rfl (hb hby d1_31) rfl (l' := #[.val (.int (8 : Int32)), .val (.ref h0.size), .val (.int (10 : Int32)), .val (.int ((((((((0 : Int32) + (1 : Int32)) + (1 : Int32)) + (1 : Int32)) + (1 : Int32)) + (1 : Int32)) + (1 : Int32)) + (1 : Int32))), .val (.ref w6)]) rfl ?_
    show Steps p.tables e below (T8.setTop (mkF m 34 #[.val (.int (8 : Int32)), .val (.ref h0.size), .val (.int (10 : Int32)), .val (.int ((((((((0 : Int32) + (1 : Int32)) + (1 : Int32)) + (1 : Int32)) + (1 : Int32)) + (1 : Int32)) + (1 : Int32)) + (1 : Int32))), .val (.ref w6)] [])) _
    refine XS.goto X8.here hx rfl (pc0 := 34) (pc' := 9) rfl (hb hby d1_34) (by decide) (by decide) ?_
    show Steps p.tables e below (T8.setTop (mkF m 9 #[.val (.int (8 : Int32)), .val (.ref h0.size), .val (.int (10 : Int32)), .val (.int ((((((((0 : Int32) + (1 : Int32)) + (1 : Int32)) + (1 : Int32)) + (1 : Int32)) + (1 : Int32)) + (1 : Int32)) + (1 : Int32))), .val (.ref w6)] [])) _
    refine XS.iloadN X8.here hx rfl (hb hby d1_9) rfl ?_
    show Steps p.tables e below (T8.setTop (mkF m 10 #[.val (.int (8 : Int32)), .val (.ref h0.size), .val (.int (10 : Int32)), .val (.int ((((((((0 : Int32) + (1 : Int32)) + (1 : Int32)) + (1 : Int32)) + (1 : Int32)) + (1 : Int32)) + (1 : Int32)) + (1 : Int32))), .val (.ref w6)] [(.int ((((((((0 : Int32) + (1 : Int32)) + (1 : Int32)) + (1 : Int32)) + (1 : Int32)) + (1 : Int32)) + (1 : Int32)) + (1 : Int32)))])) _
    refine XS.iloadN X8.here hx rfl (hb hby d1_10) rfl ?_
    show Steps p.tables e below (T8.setTop (mkF m 11 #[.val (.int (8 : Int32)), .val (.ref h0.size), .val (.int (10 : Int32)), .val (.int ((((((((0 : Int32) + (1 : Int32)) + (1 : Int32)) + (1 : Int32)) + (1 : Int32)) + (1 : Int32)) + (1 : Int32)) + (1 : Int32))), .val (.ref w6)] [(.int (10 : Int32)), (.int ((((((((0 : Int32) + (1 : Int32)) + (1 : Int32)) + (1 : Int32)) + (1 : Int32)) + (1 : Int32)) + (1 : Int32)) + (1 : Int32)))])) _
    refine XS.icmpNo X8.here hx rfl (hb hby d1_11) rfl (tlt (by decide +kernel)).2.1 ?_
    show Steps p.tables e below (T8.setTop (mkF m 14 #[.val (.int (8 : Int32)), .val (.ref h0.size), .val (.int (10 : Int32)), .val (.int ((((((((0 : Int32) + (1 : Int32)) + (1 : Int32)) + (1 : Int32)) + (1 : Int32)) + (1 : Int32)) + (1 : Int32)) + (1 : Int32))), .val (.ref w6)] [])) _
    refine XS.aloadN X8.here hx rfl (hb hby d1_14) rfl rfl ?_
    show Steps p.tables e below (T8.setTop (mkF m 15 #[.val (.int (8 : Int32)), .val (.ref h0.size), .val (.int (10 : Int32)), .val (.int ((((((((0 : Int32) + (1 : Int32)) + (1 : Int32)) + (1 : Int32)) + (1 : Int32)) + (1 : Int32)) + (1 : Int32)) + (1 : Int32))), .val (.ref w6)] [(.ref h0.size)])) _
    refine XS.iloadN X8.here hx rfl (hb hby d1_15) rfl ?_
    show Steps p.tables e below (T8.setTop (mkF m 16 #[.val (.int (8 : Int32)), .val (.ref h0.size), .val (.int (10 : Int32)), .val (.int ((((((((0 : Int32) + (1 : Int32)) + (1 : Int32)) + (1 : Int32)) + (1 : Int32)) + (1 : Int32)) + (1 : Int32)) + (1 : Int32))), .val (.ref w6)] [(.int ((((((((0 : Int32) + (1 : Int32)) + (1 : Int32)) + (1 : Int32)) + (1 : Int32)) + (1 : Int32)) + (1 : Int32)) + (1 : Int32))), (.ref h0.size)])) _
    refine X8.aaload hx (j := ((((((((0 : Int32) + (1 : Int32)) + (1 : Int32)) + (1 : Int32)) + (1 : Int32)) + (1 : Int32)) + (1 : Int32)) + (1 : Int32))) (v := (.ref w7)) (by rw [e8]; exact Ar.1) (State.isArrayOf_alike hZ.alike Ar.2.1) rfl Ar.2.2 (inb_of Sz ⟨by decide, by decide⟩) (H.at (inb_of Sz ⟨by decide, by decide⟩) rfl) (g := (mkF m 16 #[.val (.int (8 : Int32)), .val (.ref h0.size), .val (.int (10 : Int32)), .val (.int ((((((((0 : Int32) + (1 : Int32)) + (1 : Int32)) + (1 : Int32)) + (1 : Int32)) + (1 : Int32)) + (1 : Int32)) + (1 : Int32))), .val (.ref w6)] [(.int ((((((((0 : Int32) + (1 : Int32)) + (1 : Int32)) + (1 : Int32)) + (1 : Int32)) + (1 : Int32)) + (1 : Int32)) + (1 : Int32))), (.ref h0.size)])) rfl rfl (hb hby d1_16) _ ?_
    show Steps p.tables e below (T8.setTop (mkF m 17 #[.val (.int (8 : Int32)), .val (.ref h0.size), .val (.int (10 : Int32)), .val (.int ((((((((0 : Int32) + (1 : Int32)) + (1 : Int32)) + (1 : Int32)) + (1 : Int32)) + (1 : Int32)) + (1 : Int32)) + (1 : Int32))), .val (.ref w6)] [(.ref w7)])) _
    refine XS.astore X8.here hx rfl (hb hby d1_17) rfl rfl (l' := #[.val (.int (8 : Int32)), .val (.ref h0.size), .val (.int (10 : Int32)), .val (.int ((((((((0 : Int32) + (1 : Int32)) + (1 : Int32)) + (1 : Int32)) + (1 : Int32)) + (1 : Int32)) + (1 : Int32)) + (1 : Int32))), .val (.ref w7)]) rfl ?_
    show Steps p.tables e below (T8.setTop (mkF m 19 #[.val (.int (8 : Int32)), .val (.ref h0.size), .val (.int (10 : Int32)), .val (.int ((((((((0 : Int32) + (1 : Int32)) + (1 : Int32)) + (1 : Int32)) + (1 : Int32)) + (1 : Int32)) + (1 : Int32)) + (1 : Int32))), .val (.ref w7)] [])) _
    refine XS.aload X8.here hx rfl (hb hby d1_19) rfl rfl ?_
    show Steps p.tables e below (T8.setTop (mkF m 21 #[.val (.int (8 : Int32)), .val (.ref h0.size), .val (.int (10 : Int32)), .val (.int ((((((((0 : Int32) + (1 : Int32)) + (1 : Int32)) + (1 : Int32)) + (1 : Int32)) + (1 : Int32)) + (1 : Int32)) + (1 : Int32))), .val (.ref w7)] [(.ref w7)])) _
    refine st9 _ ?_
    show Steps p.tables e below (T9.setTop (mkF m 24 #[.val (.int (8 : Int32)), .val (.ref h0.size), .val (.int (10 : Int32)), .val (.int ((((((((0 : Int32) + (1 : Int32)) + (1 : Int32)) + (1 : Int32)) + (1 : Int32)) + (1 : Int32)) + (1 : Int32)) + (1 : Int32))), .val (.ref w7)] [(.int (8 : Int32))])) _
    refine XS.iloadN X9.here hx rfl (hb hby d1_24) rfl ?_
    show Steps p.tables e below (T9.setTop (mkF m 25 #[.val (.int (8 : Int32)), .val (.ref h0.size), .val (.int (10 : Int32)), .val (.int ((((((((0 : Int32) + (1 : Int32)) + (1 : Int32)) + (1 : Int32)) + (1 : Int32)) + (1 : Int32)) + (1 : Int32)) + (1 : Int32))), .val (.ref w7)] [(.int (8 : Int32)), (.int (8 : Int32))])) _
    refine XS.icmpNo X9.here hx rfl (hb hby d1_25) rfl (teq (by decide +kernel)).2 ?_
    show Steps p.tables e below (T9.setTop (mkF m 28 #[.val (.int (8 : Int32)), .val (.ref h0.size), .val (.int (10 : Int32)), .val (.int ((((((((0 : Int32) + (1 : Int32)) + (1 : Int32)) + (1 : Int32)) + (1 : Int32)) + (1 : Int32)) + (1 : Int32)) + (1 : Int32))), .val (.ref w7)] [])) _
    refine XS.aload X9.here hx rfl (hb hby d1_28) rfl rfl ?_
    show Steps p.tables e below (T9.setTop (mkF m 30 #[.val (.int (8 : Int32)), .val (.ref h0.size), .val (.int (10 : Int32)), .val (.int ((((((((0 : Int32) + (1 : Int32)) + (1 : Int32)) + (1 : Int32)) + (1 : Int32)) + (1 : Int32)) + (1 : Int32)) + (1 : Int32))), .val (.ref w7)] [(.ref w7)])) _
    jvm_step X9.here [X9.here.top, hx, (hb hby d1_30), X9.method', Bd.returns, Value.isRef, FieldType.isReference]
    first | (intro acts; rw [hr _ acts rfl rfl rfl]) | rw [hr _ _ rfl rfl rfl]
    exact Steps.refl _
  · show QO_8 Z vA kA w0 w1 w2 w3 w4 w5 w6 w7 w8 w9 h0 n0 _ T9.heap _
    rw [e9]
    exact ⟨rfl, N1, Ex⟩
def QO_9 (Z : State) (vA : Addr) (kA : ClassId) (w0 w1 w2 w3 w4 w5 w6 w7 w8 w9 : Addr) (h0 : Heap) (n0 : Nat) (v : Option Value) (h : Heap) (L : List Loc) : Prop := v = some (.ref w8) ∧ Fr n0 L ∧ Ext h0 h
set_option maxRecDepth 65536 in
set_option maxHeartbeats 40000000 in
theorem rmO_9 (l : Launch) (Z : State) (a0 : Array Value) (hw : ∀ d ∈ tables_1, d.before a0 Z = true) (ws : List Jvm.Cond) (vA : Addr) (kA : ClassId) (w0 w1 w2 w3 w4 w5 w6 w7 w8 w9 : Addr) (h0 : Heap) (n0 : Nat) (Z0 : n0 ≤ h0.size) (SV : Sta Z h0 "com/example/concordat/concordat/log/LogRecord$Kind" "$VALUES" "[Lcom/example/concordat/concordat/log/LogRecord$Kind;" (.ref vA)) (AV : Arv Z h0 vA kA (.object "com/example/concordat/concordat/log/LogRecord$Kind") 10 [.ref w0, .ref w1, .ref w2, .ref w3, .ref w4, .ref w5, .ref w6, .ref w7, .ref w8, .ref w9] .null) (EV : Exa Z h0 vA "[Lcom/example/concordat/concordat/log/LogRecord$Kind;") (FC0 : Fld Z h0 w0 "com/example/concordat/concordat/log/LogRecord$Kind" "code" "B" (.int (1 : Int32))) (FC1 : Fld Z h0 w1 "com/example/concordat/concordat/log/LogRecord$Kind" "code" "B" (.int (2 : Int32))) (FC2 : Fld Z h0 w2 "com/example/concordat/concordat/log/LogRecord$Kind" "code" "B" (.int (3 : Int32))) (FC3 : Fld Z h0 w3 "com/example/concordat/concordat/log/LogRecord$Kind" "code" "B" (.int (4 : Int32))) (FC4 : Fld Z h0 w4 "com/example/concordat/concordat/log/LogRecord$Kind" "code" "B" (.int (5 : Int32))) (FC5 : Fld Z h0 w5 "com/example/concordat/concordat/log/LogRecord$Kind" "code" "B" (.int (6 : Int32))) (FC6 : Fld Z h0 w6 "com/example/concordat/concordat/log/LogRecord$Kind" "code" "B" (.int (7 : Int32))) (FC7 : Fld Z h0 w7 "com/example/concordat/concordat/log/LogRecord$Kind" "code" "B" (.int (8 : Int32))) (FC8 : Fld Z h0 w8 "com/example/concordat/concordat/log/LogRecord$Kind" "code" "B" (.int (9 : Int32))) (FC9 : Fld Z h0 w9 "com/example/concordat/concordat/log/LogRecord$Kind" "code" "B" (.int (10 : Int32))) :
    MetFree l (⟨"com/example/concordat/concordat/log/LogRecord$Kind", "of", "(B)Lcom/example/concordat/concordat/log/LogRecord$Kind;"⟩ : MethodName) (head1 (Jvm.Cond.code (⟨"com/example/concordat/concordat/log/LogRecord$Kind", "of", "(B)Lcom/example/concordat/concordat/log/LogRecord$Kind;"⟩ : MethodName) prog_45_method_4_code 5 (some (.object "com/example/concordat/concordat/log/LogRecord$Kind")) :: ws) ({ frames := 2, cells := 1, slots := 10, locals := 25 } : Room)) (fun a U => a = #[(.int (9 : Int32))] ∧ Z.Warmed39 U.vm ∧ U.heap = h0) (fun _ _ _ _ _ => True) (fun _ U o U' => ∃ v L, o = .returned v ∧ QO_9 Z vA kA w0 w1 w2 w3 w4 w5 w6 w7 w8 w9 h0 n0 v U'.heap L ∧ FrameEnd U o U' L ({ frames := 2, cells := 1, slots := 10, locals := 25 } : Room).cells ({ frames := 2, cells := 1, slots := 10, locals := 25 } : Room).slots) := by
  refine MetFree.of_bodySF (plainFor_of_name pn_LogRecord_Kind) hisR ?_
  intro p e s m args below meth c s₁ Bd hml0 hP hK
  obtain ⟨rfl, hZ, hh⟩ := hP
  have hx := Bd.exec
  have hby := Bd.bytes
  have hml : c.maxLocals = 5 := hml0
  have hown : s.vm.findClass "com/example/concordat/concordat/log/LogRecord$Kind" = some m.cls := findClass_of_methodNamed Bd.named
  have hnm := (name_of_methodNamed Bd.named Bd.method).1
  have X0 : Stand p l e ({ frames := 2, cells := 1, slots := 10, locals := 25 } : Room) s m #[(.int (9 : Int32))] below meth c s₁ [] 0 0 := Stand.of_body Bd
  have e0 : s₁.heap = h0 := by rw [← hh, Bd.state]; rfl
  have N0 := Fr.nil n0
  have pre0 : ∀ t, Steps p.tables e below (s₁.setTop (mkF m 0 #[.val (.int (9 : Int32)), .unset, .unset, .unset, .unset] [])) t → Steps p.tables e below (s₁.setTop (entryFrame m #[(.int (9 : Int32))] 5)) t := fun t k => castTop (ef_1 m (9 : Int32)) k
  obtain ⟨_, _, ⟨T1, L1, k1, n1⟩, -, X1, ⟨Lc1, hQ1, l1, y1, z1⟩, st1⟩ := Jvm.LawKit.callS X0 hx (y := (⟨"com/example/concordat/concordat/log/LogRecord$Kind", "values", "()[Lcom/example/concordat/concordat/log/LogRecord$Kind;"⟩ : MethodName)) hown (mvT hZ (hw _ (List.mem_of_getElem? (i := 4) rfl))) (mvT hZ (hw _ (List.mem_of_getElem? (i := 5) rfl))) (mvT hZ (hw _ (List.mem_of_getElem? (i := 2) rfl))) (mvT hZ (hw _ (List.mem_of_getElem? (i := 6) rfl))) (by decide) (backOf (W := 0) (rmV l Z a0 hw [] vA kA w0 w1 w2 w3 w4 w5 w6 w7 w8 w9 h0 n0 Z0 SV AV EV) hZ (hw _ (List.mem_of_getElem? (i := 6) rfl)) (hw _ (List.mem_of_getElem? (i := 2) rfl)) (by decide) (by decide)) (g := (mkF m 0 #[.val (.int (9 : Int32)), .unset, .unset, .unset, .unset] [])) rfl (by rw [hml]; rfl) (argsL := []) (rest := []) (lenOf pd_0 rfl) rfl (by show 2 * 0 + _ ≤ _; exact Nat.le_of_eq rfl) (hb hby d1_0) (fun _ _ => ⟨rfl, e0, (by decide : 0 + 1 ≤ _), (by decide : 0 + 10 ≤ _)⟩)
  dsimp only [Pt.U, Pt.locs, Pt.cells, Pt.slots] at X1 l1 y1 z1 st1 hQ1
  subst l1 y1 z1
  obtain ⟨rfl, N1q, Ex, Av⟩ := hQ1
  have N1 := Fr.app N0 N1q
  obtain ⟨cl, Ar, -, Sz, Mz, H, -⟩ := Av
  obtain ⟨T2, X2, e2, st2⟩ := getF X1 hx hZ hown (host := "") (Or.inl (hw _ (List.mem_of_getElem? (i := 29) rfl))) Via.refl rfl (FC0.ext Ex) (g := (mkF m 21 #[.val (.int (9 : Int32)), .val (.ref h0.size), .val (.int (10 : Int32)), .val (.int (0 : Int32)), .val (.ref w0)] [(.ref w0)])) rfl rfl (hb hby d1_21)
  obtain ⟨T3, X3, e3, st3⟩ := getF X2 hx hZ hown (host := "") (Or.inl (hw _ (List.mem_of_getElem? (i := 29) rfl))) Via.refl e2 (FC1.ext Ex) (g := (mkF m 21 #[.val (.int (9 : Int32)), .val (.ref h0.size), .val (.int (10 : Int32)), .val (.int ((0 : Int32) + (1 : Int32))), .val (.ref w1)] [(.ref w1)])) rfl rfl (hb hby d1_21)
  obtain ⟨T4, X4, e4, st4⟩ := getF X3 hx hZ hown (host := "") (Or.inl (hw _ (List.mem_of_getElem? (i := 29) rfl))) Via.refl e3 (FC2.ext Ex) (g := (mkF m 21 #[.val (.int (9 : Int32)), .val (.ref h0.size), .val (.int (10 : Int32)), .val (.int (((0 : Int32) + (1 : Int32)) + (1 : Int32))), .val (.ref w2)] [(.ref w2)])) rfl rfl (hb hby d1_21)
  obtain ⟨T5, X5, e5, st5⟩ := getF X4 hx hZ hown (host := "") (Or.inl (hw _ (List.mem_of_getElem? (i := 29) rfl))) Via.refl e4 (FC3.ext Ex) (g := (mkF m 21 #[.val (.int (9 : Int32)), .val (.ref h0.size), .val (.int (10 : Int32)), .val (.int ((((0 : Int32) + (1 : Int32)) + (1 : Int32)) + (1 : Int32))), .val (.ref w3)] [(.ref w3)])) rfl rfl (hb hby d1_21)
  obtain ⟨T6, X6, e6, st6⟩ := getF X5 hx hZ hown (host := "") (Or.inl (hw _ (List.mem_of_getElem? (i := 29) rfl))) Via.refl e5 (FC4.ext Ex) (g := (mkF m 21 #[.val (.int (9 : Int32)), .val (.ref h0.size), .val (.int (10 : Int32)), .val (.int (((((0 : Int32) + (1 : Int32)) + (1 : Int32)) + (1 : Int32)) + (1 : Int32))), .val (.ref w4)] [(.ref w4)])) rfl rfl (hb hby d1_21)
  obtain ⟨T7, X7, e7, st7⟩ := getF X6 hx hZ hown (host := "") (Or.inl (hw _ (List.mem_of_getElem? (i := 29) rfl))) Via.refl e6 (FC5.ext Ex) (g := (mkF m 21 #[.val (.int (9 : Int32)), .val (.ref h0.size), .val (.int (10 : Int32)), .val (.int ((((((0 : Int32) + (1 : Int32)) + (1 : Int32)) + (1 : Int32)) + (1 : Int32)) + (1 : Int32))), .val (.ref w5)] [(.ref w5)])) rfl rfl (hb hby d1_21)
  obtain ⟨T8, X8, e8, st8⟩ := getF X7 hx hZ hown (host := "") (Or.inl (hw _ (List.mem_of_getElem? (i := 29) rfl))) Via.refl e7 (FC6.ext Ex) (g := (mkF m 21 #[.val (.int (9 : Int32)), .val (.ref h0.size), .val (.int (10 : Int32)), .val (.int (((((((0 : Int32) + (1 : Int32)) + (1 : Int32)) + (1 : Int32)) + (1 : Int32)) + (1 : Int32)) + (1 : Int32))), .val (.ref w6)] [(.ref w6)])) rfl rfl (hb hby d1_21)
  obtain ⟨T9, X9, e9, st9⟩ := getF X8 hx hZ hown (host := "") (Or.inl (hw _ (List.mem_of_getElem? (i := 29) rfl))) Via.refl e8 (FC7.ext Ex) (g := (mkF m 21 #[.val (.int (9 : Int32)), .val (.ref h0.size), .val (.int (10 : Int32)), .val (.int ((((((((0 : Int32) + (1 : Int32)) + (1 : Int32)) + (1 : Int32)) + (1 : Int32)) + (1 : Int32)) + (1 : Int32)) + (1 : Int32))), .val (.ref w7)] [(.ref w7)])) rfl rfl (hb hby d1_21)
  obtain ⟨T10, X10, e10, st10⟩ := getF X9 hx hZ hown (host := "") (Or.inl (hw _ (List.mem_of_getElem? (i := 29) rfl))) Via.refl e9 (FC8.ext Ex) (g := (mkF m 21 #[.val (.int (9 : Int32)), .val (.ref h0.size), .val (.int (10 : Int32)), .val (.int (((((((((0 : Int32) + (1 : Int32)) + (1 : Int32)) + (1 : Int32)) + (1 : Int32)) + (1 : Int32)) + (1 : Int32)) + (1 : Int32)) + (1 : Int32))), .val (.ref w8)] [(.ref w8)])) rfl rfl (hb hby d1_21)
  obtain ⟨fs, hr, hrun, hended, hW, hsame⟩ := X10.leave (v := some (.ref w8)) (fun h => by rw [Bd.returns] at h; cases h)
  refine ⟨_, _, pre0 _ ?_, hrun, hended, _, _, rfl, ?_, ⟨_, rfl⟩, hW, hsame.mono (by decide) (by decide)⟩
  · show Steps p.tables e below (s₁.setTop (mkF m 0 #[.val (.int (9 : Int32)), .unset, .unset, .unset, .unset] [])) _
    refine st1 _ ?_
    show Steps p.tables e below (T1.setTop (mkF m 3 #[.val (.int (9 : Int32)), .unset, .unset, .unset, .unset] [(.ref h0.size)])) _
    refine XS.astoreN X1.here hx rfl (hb hby d1_3) rfl rfl (l' := #[.val (.int (9 : Int32)), .val (.ref h0.size), .unset, .unset, .unset]) rfl ?_
    show Steps p.tables e below (T1.setTop (mkF m 4 #[.val (.int (9 : Int32)), .val (.ref h0.size), .unset, .unset, .unset] [])) _
    refine XS.aloadN X1.here hx rfl (hb hby d1_4) rfl rfl ?_
    show Steps p.tables e below (T1.setTop (mkF m 5 #[.val (.int (9 : Int32)), .val (.ref h0.size), .unset, .unset, .unset] [(.ref h0.size)])) _
    refine X1.arraylength hx Ar.1 (State.isArrayOf_alike hZ.alike Ar.2.1) (g := (mkF m 5 #[.val (.int (9 : Int32)), .val (.ref h0.size), .unset, .unset, .unset] [(.ref h0.size)])) rfl rfl (hb hby d1_5) _ ?_
    rw [len_of Sz Mz]
    show Steps p.tables e below (T1.setTop (mkF m 6 #[.val (.int (9 : Int32)), .val (.ref h0.size), .unset, .unset, .unset] [(.int (10 : Int32))])) _
    refine XS.istoreN X1.here hx rfl (hb hby d1_6) rfl (l' := #[.val (.int (9 : Int32)), .val (.ref h0.size), .val (.int (10 : Int32)), .unset, .unset]) rfl ?_
    show Steps p.tables e below (T1.setTop (mkF m 7 #[.val (.int (9 : Int32)), .val (.ref h0.size), .val (.int (10 : Int32)), .unset, .unset] [])) _
    refine XS.iconst X1.here hx rfl (hb hby d1_7) ?_
    show Steps p.tables e below (T1.setTop (mkF m 8 #[.val (.int (9 : Int32)), .val (.ref h0.size), .val (.int (10 : Int32)), .unset, .unset] [(.int (0 : Int32))])) _
    refine XS.istoreN X1.here hx rfl (hb hby d1_8) rfl (l' := #[.val (.int (9 : Int32)), .val (.ref h0.size), .val (.int (10 : Int32)), .val (.int (0 : Int32)), .unset]) rfl ?_
    show Steps p.tables e below (T1.setTop (mkF m 9 #[.val (.int (9 : Int32)), .val (.ref h0.size), .val (.int (10 : Int32)), .val (.int (0 : Int32)), .unset] [])) _
    refine XS.iloadN X1.here hx rfl (hb hby d1_9) rfl ?_
    show Steps p.tables e below (T1.setTop (mkF m 10 #[.val (.int (9 : Int32)), .val (.ref h0.size), .val (.int (10 : Int32)), .val (.int (0 : Int32)), .unset] [(.int (0 : Int32))])) _
    refine XS.iloadN X1.here hx rfl (hb hby d1_10) rfl ?_
    show Steps p.tables e below (T1.setTop (mkF m 11 #[.val (.int (9 : Int32)), .val (.ref h0.size), .val (.int (10 : Int32)), .val (.int (0 : Int32)), .unset] [(.int (10 : Int32)), (.int (0 : Int32))])) _
    refine XS.icmpNo X1.here hx rfl (hb hby d1_11) rfl (tlt (by decide +kernel)).2.1 ?_
    show Steps p.tables e below (T1.setTop (mkF m 14 #[.val (.int (9 : Int32)), .val (.ref h0.size), .val (.int (10 : Int32)), .val (.int (0 : Int32)), .unset] [])) _
    refine XS.aloadN X1.here hx rfl (hb hby d1_14) rfl rfl ?_
    show Steps p.tables e below (T1.setTop (mkF m 15 #[.val (.int (9 : Int32)), .val (.ref h0.size), .val (.int (10 : Int32)), .val (.int (0 : Int32)), .unset] [(.ref h0.size)])) _
    refine XS.iloadN X1.here hx rfl (hb hby d1_15) rfl ?_
    show Steps p.tables e below (T1.setTop (mkF m 16 #[.val (.int (9 : Int32)), .val (.ref h0.size), .val (.int (10 : Int32)), .val (.int (0 : Int32)), .unset] [(.int (0 : Int32)), (.ref h0.size)])) _
    refine X1.aaload hx (j := (0 : Int32)) (v := (.ref w0)) Ar.1 (State.isArrayOf_alike hZ.alike Ar.2.1) rfl Ar.2.2 (inb_of Sz ⟨by decide, by decide⟩) (H.at (inb_of Sz ⟨by decide, by decide⟩) rfl) (g := (mkF m 16 #[.val (.int (9 : Int32)), .val (.ref h0.size), .val (.int (10 : Int32)), .val (.int (0 : Int32)), .unset] [(.int (0 : Int32)), (.ref h0.size)])) rfl rfl (hb hby d1_16) _ ?_
    show Steps p.tables e below (T1.setTop (mkF m 17 #[.val (.int (9 : Int32)), .val (.ref h0.size), .val (.int (10 : Int32)), .val (.int (0 : Int32)), .unset] [(.ref w0)])) _
    refine XS.astore X1.here hx rfl (hb hby d1_17) rfl rfl (l' := #[.val (.int (9 : Int32)), .val (.ref h0.size), .val (.int (10 : Int32)), .val (.int (0 : Int32)), .val (.ref w0)]) rfl ?_
    show Steps p.tables e below (T1.setTop (mkF m 19 #[.val (.int (9 : Int32)), .val (.ref h0.size), .val (.int (10 : Int32)), .val (.int (0 : Int32)), .val (.ref w0)] [])) _
    refine XS.aload X1.here hx rfl (hb hby d1_19) rfl rfl ?_
    show Steps p.tables e below (T1.setTop (mkF m 21 #[.val (.int (9 : Int32)), .val (.ref h0.size), .val (.int (10 : Int32)), .val (.int (0 : Int32)), .val (.ref w0)] [(.ref w0)])) _
    refine st2 _ ?_
    show Steps p.tables e below (T2.setTop (mkF m 24 #[.val (.int (9 : Int32)), .val (.ref h0.size), .val (.int (10 : Int32)), .val (.int (0 : Int32)), .val (.ref w0)] [(.int (1 : Int32))])) _
    refine XS.iloadN X2.here hx rfl (hb hby d1_24) rfl ?_
    show Steps p.tables e below (T2.setTop (mkF m 25 #[.val (.int (9 : Int32)), .val (.ref h0.size), .val (.int (10 : Int32)), .val (.int (0 : Int32)), .val (.ref w0)] [(.int (9 : Int32)), (.int (1 : Int32))])) _
    refine XS.icmpYes X2.here hx rfl (pc0 := 25) (pc' := 31) rfl (hb hby d1_25) rfl (feq (by decide +kernel)).2 (by decide) (by decide) ?_
    show Steps p.tables e below (T2.setTop (mkF m 31 #[.val (.int (9 : Int32)), .val (.ref h0.size), .val (.int (10 : Int32)), .val (.int (0 : Int32)), .val (.ref w0)] [])) _
    refine XS.iinc X2.here hx rfl (hb hby d1_31) rfl (l' := #[.val (.int (9 : Int32)), .val (.ref h0.size), .val (.int (10 : Int32)), .val (.int ((0 : Int32) + (1 : Int32))), .val (.ref w0)]) rfl ?_
    show Steps p.tables e below (T2.setTop (mkF m 34 #[.val (.int (9 : Int32)), .val (.ref h0.size), .val (.int (10 : Int32)), .val (.int ((0 : Int32) + (1 : Int32))), .val (.ref w0)] [])) _
    refine XS.goto X2.here hx rfl (pc0 := 34) (pc' := 9) rfl (hb hby d1_34) (by decide) (by decide) ?_
    show Steps p.tables e below (T2.setTop (mkF m 9 #[.val (.int (9 : Int32)), .val (.ref h0.size), .val (.int (10 : Int32)), .val (.int ((0 : Int32) + (1 : Int32))), .val (.ref w0)] [])) _
    refine XS.iloadN X2.here hx rfl (hb hby d1_9) rfl ?_
    show Steps p.tables e below (T2.setTop (mkF m 10 #[.val (.int (9 : Int32)), .val (.ref h0.size), .val (.int (10 : Int32)), .val (.int ((0 : Int32) + (1 : Int32))), .val (.ref w0)] [(.int ((0 : Int32) + (1 : Int32)))])) _
    refine XS.iloadN X2.here hx rfl (hb hby d1_10) rfl ?_
    show Steps p.tables e below (T2.setTop (mkF m 11 #[.val (.int (9 : Int32)), .val (.ref h0.size), .val (.int (10 : Int32)), .val (.int ((0 : Int32) + (1 : Int32))), .val (.ref w0)] [(.int (10 : Int32)), (.int ((0 : Int32) + (1 : Int32)))])) _
    refine XS.icmpNo X2.here hx rfl (hb hby d1_11) rfl (tlt (by decide +kernel)).2.1 ?_
    show Steps p.tables e below (T2.setTop (mkF m 14 #[.val (.int (9 : Int32)), .val (.ref h0.size), .val (.int (10 : Int32)), .val (.int ((0 : Int32) + (1 : Int32))), .val (.ref w0)] [])) _
    refine XS.aloadN X2.here hx rfl (hb hby d1_14) rfl rfl ?_
    show Steps p.tables e below (T2.setTop (mkF m 15 #[.val (.int (9 : Int32)), .val (.ref h0.size), .val (.int (10 : Int32)), .val (.int ((0 : Int32) + (1 : Int32))), .val (.ref w0)] [(.ref h0.size)])) _
    refine XS.iloadN X2.here hx rfl (hb hby d1_15) rfl ?_
    show Steps p.tables e below (T2.setTop (mkF m 16 #[.val (.int (9 : Int32)), .val (.ref h0.size), .val (.int (10 : Int32)), .val (.int ((0 : Int32) + (1 : Int32))), .val (.ref w0)] [(.int ((0 : Int32) + (1 : Int32))), (.ref h0.size)])) _
    refine X2.aaload hx (j := ((0 : Int32) + (1 : Int32))) (v := (.ref w1)) (by rw [e2]; exact Ar.1) (State.isArrayOf_alike hZ.alike Ar.2.1) rfl Ar.2.2 (inb_of Sz ⟨by decide, by decide⟩) (H.at (inb_of Sz ⟨by decide, by decide⟩) rfl) (g := (mkF m 16 #[.val (.int (9 : Int32)), .val (.ref h0.size), .val (.int (10 : Int32)), .val (.int ((0 : Int32) + (1 : Int32))), .val (.ref w0)] [(.int ((0 : Int32) + (1 : Int32))), (.ref h0.size)])) rfl rfl (hb hby d1_16) _ ?_
    show Steps p.tables e below (T2.setTop (mkF m 17 #[.val (.int (9 : Int32)), .val (.ref h0.size), .val (.int (10 : Int32)), .val (.int ((0 : Int32) + (1 : Int32))), .val (.ref w0)] [(.ref w1)])) _
    refine XS.astore X2.here hx rfl (hb hby d1_17) rfl rfl (l' := #[.val (.int (9 : Int32)), .val (.ref h0.size), .val (.int (10 : Int32)), .val (.int ((0 : Int32) + (1 : Int32))), .val (.ref w1)]) rfl ?_
    show Steps p.tables e below (T2.setTop (mkF m 19 #[.val (.int (9 : Int32)), .val (.ref h0.size), .val (.int (10 : Int32)), .val (.int ((0 : Int32) + (1 : Int32))), .val (.ref w1)] [])) _
    refine XS.aload X2.here hx rfl (hb hby d1_19) rfl rfl ?_
    show Steps p.tables e below (T2.setTop (mkF m 21 #[.val (.int (9 : Int32)), .val (.ref h0.size), .val (.int (10 : Int32)), .val (.int ((0 : Int32) + (1 : Int32))), .val (.ref w1)] [(.ref w1)])) _
    refine st3 _ ?_
    show Steps p.tables e below (T3.setTop (mkF m 24 #[.val (.int (9 : Int32)), .val (.ref h0.size), .val (.int (10 : Int32)), .val (.int ((0 : Int32) + (1 : Int32))), .val (.ref w1)] [(.int (2 : Int32))])) _
    refine XS.iloadN X3.here hx rfl (hb hby d1_24) rfl ?_
    show Steps p.tables e below (T3.setTop (mkF m 25 #[.val (.int (9 : Int32)), .val (.ref h0.size), .val (.int (10 : Int32)), .val (.int ((0 : Int32) + (1 : Int32))), .val (.ref w1)] [(.int (9 : Int32)), (.int (2 : Int32))])) _
    refine XS.icmpYes X3.here hx rfl (pc0 := 25) (pc' := 31) rfl (hb hby d1_25) rfl (feq (by decide +kernel)).2 (by decide) (by decide) ?_
    show Steps p.tables e below (T3.setTop (mkF m 31 #[.val (.int (9 : Int32)), .val (.ref h0.size), .val (.int (10 : Int32)), .val (.int ((0 : Int32) + (1 : Int32))), .val (.ref w1)] [])) _
    refine XS.iinc X3.here hx rfl (hb hby d1_31) rfl (l' := #[.val (.int (9 : Int32)), .val (.ref h0.size), .val (.int (10 : Int32)), .val (.int (((0 : Int32) + (1 : Int32)) + (1 : Int32))), .val (.ref w1)]) rfl ?_
    show Steps p.tables e below (T3.setTop (mkF m 34 #[.val (.int (9 : Int32)), .val (.ref h0.size), .val (.int (10 : Int32)), .val (.int (((0 : Int32) + (1 : Int32)) + (1 : Int32))), .val (.ref w1)] [])) _
    refine XS.goto X3.here hx rfl (pc0 := 34) (pc' := 9) rfl (hb hby d1_34) (by decide) (by decide) ?_
    show Steps p.tables e below (T3.setTop (mkF m 9 #[.val (.int (9 : Int32)), .val (.ref h0.size), .val (.int (10 : Int32)), .val (.int (((0 : Int32) + (1 : Int32)) + (1 : Int32))), .val (.ref w1)] [])) _
    refine XS.iloadN X3.here hx rfl (hb hby d1_9) rfl ?_
    show Steps p.tables e below (T3.setTop (mkF m 10 #[.val (.int (9 : Int32)), .val (.ref h0.size), .val (.int (10 : Int32)), .val (.int (((0 : Int32) + (1 : Int32)) + (1 : Int32))), .val (.ref w1)] [(.int (((0 : Int32) + (1 : Int32)) + (1 : Int32)))])) _
    refine XS.iloadN X3.here hx rfl (hb hby d1_10) rfl ?_
    show Steps p.tables e below (T3.setTop (mkF m 11 #[.val (.int (9 : Int32)), .val (.ref h0.size), .val (.int (10 : Int32)), .val (.int (((0 : Int32) + (1 : Int32)) + (1 : Int32))), .val (.ref w1)] [(.int (10 : Int32)), (.int (((0 : Int32) + (1 : Int32)) + (1 : Int32)))])) _
    refine XS.icmpNo X3.here hx rfl (hb hby d1_11) rfl (tlt (by decide +kernel)).2.1 ?_
    show Steps p.tables e below (T3.setTop (mkF m 14 #[.val (.int (9 : Int32)), .val (.ref h0.size), .val (.int (10 : Int32)), .val (.int (((0 : Int32) + (1 : Int32)) + (1 : Int32))), .val (.ref w1)] [])) _
    refine XS.aloadN X3.here hx rfl (hb hby d1_14) rfl rfl ?_
    show Steps p.tables e below (T3.setTop (mkF m 15 #[.val (.int (9 : Int32)), .val (.ref h0.size), .val (.int (10 : Int32)), .val (.int (((0 : Int32) + (1 : Int32)) + (1 : Int32))), .val (.ref w1)] [(.ref h0.size)])) _
    refine XS.iloadN X3.here hx rfl (hb hby d1_15) rfl ?_
    show Steps p.tables e below (T3.setTop (mkF m 16 #[.val (.int (9 : Int32)), .val (.ref h0.size), .val (.int (10 : Int32)), .val (.int (((0 : Int32) + (1 : Int32)) + (1 : Int32))), .val (.ref w1)] [(.int (((0 : Int32) + (1 : Int32)) + (1 : Int32))), (.ref h0.size)])) _
    refine X3.aaload hx (j := (((0 : Int32) + (1 : Int32)) + (1 : Int32))) (v := (.ref w2)) (by rw [e3]; exact Ar.1) (State.isArrayOf_alike hZ.alike Ar.2.1) rfl Ar.2.2 (inb_of Sz ⟨by decide, by decide⟩) (H.at (inb_of Sz ⟨by decide, by decide⟩) rfl) (g := (mkF m 16 #[.val (.int (9 : Int32)), .val (.ref h0.size), .val (.int (10 : Int32)), .val (.int (((0 : Int32) + (1 : Int32)) + (1 : Int32))), .val (.ref w1)] [(.int (((0 : Int32) + (1 : Int32)) + (1 : Int32))), (.ref h0.size)])) rfl rfl (hb hby d1_16) _ ?_
    show Steps p.tables e below (T3.setTop (mkF m 17 #[.val (.int (9 : Int32)), .val (.ref h0.size), .val (.int (10 : Int32)), .val (.int (((0 : Int32) + (1 : Int32)) + (1 : Int32))), .val (.ref w1)] [(.ref w2)])) _
    refine XS.astore X3.here hx rfl (hb hby d1_17) rfl rfl (l' := #[.val (.int (9 : Int32)), .val (.ref h0.size), .val (.int (10 : Int32)), .val (.int (((0 : Int32) + (1 : Int32)) + (1 : Int32))), .val (.ref w2)]) rfl ?_
    show Steps p.tables e below (T3.setTop (mkF m 19 #[.val (.int (9 : Int32)), .val (.ref h0.size), .val (.int (10 : Int32)), .val (.int (((0 : Int32) + (1 : Int32)) + (1 : Int32))), .val (.ref w2)] [])) _
    refine XS.aload X3.here hx rfl (hb hby d1_19) rfl rfl ?_
    show Steps p.tables e below (T3.setTop (mkF m 21 #[.val (.int (9 : Int32)), .val (.ref h0.size), .val (.int (10 : Int32)), .val (.int (((0 : Int32) + (1 : Int32)) + (1 : Int32))), .val (.ref w2)] [(.ref w2)])) _
    refine st4 _ ?_
    show Steps p.tables e below (T4.setTop (mkF m 24 #[.val (.int (9 : Int32)), .val (.ref h0.size), .val (.int (10 : Int32)), .val (.int (((0 : Int32) + (1 : Int32)) + (1 : Int32))), .val (.ref w2)] [(.int (3 : Int32))])) _
    refine XS.iloadN X4.here hx rfl (hb hby d1_24) rfl ?_
    show Steps p.tables e below (T4.setTop (mkF m 25 #[.val (.int (9 : Int32)), .val (.ref h0.size), .val (.int (10 : Int32)), .val (.int (((0 : Int32) + (1 : Int32)) + (1 : Int32))), .val (.ref w2)] [(.int (9 : Int32)), (.int (3 : Int32))])) _
    refine XS.icmpYes X4.here hx rfl (pc0 := 25) (pc' := 31) rfl (hb hby d1_25) rfl (feq (by decide +kernel)).2 (by decide) (by decide) ?_
    show Steps p.tables e below (T4.setTop (mkF m 31 #[.val (.int (9 : Int32)), .val (.ref h0.size), .val (.int (10 : Int32)), .val (.int (((0 : Int32) + (1 : Int32)) + (1 : Int32))), .val (.ref w2)] [])) _
    refine XS.iinc X4.here hx rfl (hb hby d1_31) rfl (l' := #[.val (.int (9 : Int32)), .val (.ref h0.size), .val (.int (10 : Int32)), .val (.int ((((0 : Int32) + (1 : Int32)) + (1 : Int32)) + (1 : Int32))), .val (.ref w2)]) rfl ?_
    show Steps p.tables e below (T4.setTop (mkF m 34 #[.val (.int (9 : Int32)), .val (.ref h0.size), .val (.int (10 : Int32)), .val (.int ((((0 : Int32) + (1 : Int32)) + (1 : Int32)) + (1 : Int32))), .val (.ref w2)] [])) _
    refine XS.goto X4.here hx rfl (pc0 := 34) (pc' := 9) rfl (hb hby d1_34) (by decide) (by decide) ?_
    show Steps p.tables e below (T4.setTop (mkF m 9 #[.val (.int (9 : Int32)), .val (.ref h0.size), .val (.int (10 : Int32)), .val (.int ((((0 : Int32) + (1 : Int32)) + (1 : Int32)) + (1 : Int32))), .val (.ref w2)] [])) _
    refine XS.iloadN X4.here hx rfl (hb hby d1_9) rfl ?_
    show Steps p.tables e below (T4.setTop (mkF m 10 #[.val (.int (9 : Int32)), .val (.ref h0.size), .val (.int (10 : Int32)), .val (.int ((((0 : Int32) + (1 : Int32)) + (1 : Int32)) + (1 : Int32))), .val (.ref w2)] [(.int ((((0 : Int32) + (1 : Int32)) + (1 : Int32)) + (1 : Int32)))])) _
    refine XS.iloadN X4.here hx rfl (hb hby d1_10) rfl ?_
    show Steps p.tables e below (T4.setTop (mkF m 11 #[.val (.int (9 : Int32)), .val (.ref h0.size), .val (.int (10 : Int32)), .val (.int ((((0 : Int32) + (1 : Int32)) + (1 : Int32)) + (1 : Int32))), .val (.ref w2)] [(.int (10 : Int32)), (.int ((((0 : Int32) + (1 : Int32)) + (1 : Int32)) + (1 : Int32)))])) _
    refine XS.icmpNo X4.here hx rfl (hb hby d1_11) rfl (tlt (by decide +kernel)).2.1 ?_
    show Steps p.tables e below (T4.setTop (mkF m 14 #[.val (.int (9 : Int32)), .val (.ref h0.size), .val (.int (10 : Int32)), .val (.int ((((0 : Int32) + (1 : Int32)) + (1 : Int32)) + (1 : Int32))), .val (.ref w2)] [])) _
    refine XS.aloadN X4.here hx rfl (hb hby d1_14) rfl rfl ?_
    show Steps p.tables e below (T4.setTop (mkF m 15 #[.val (.int (9 : Int32)), .val (.ref h0.size), .val (.int (10 : Int32)), .val (.int ((((0 : Int32) + (1 : Int32)) + (1 : Int32)) + (1 : Int32))), .val (.ref w2)] [(.ref h0.size)])) _
    refine XS.iloadN X4.here hx rfl (hb hby d1_15) rfl ?_
    show Steps p.tables e below (T4.setTop (mkF m 16 #[.val (.int (9 : Int32)), .val (.ref h0.size), .val (.int (10 : Int32)), .val (.int ((((0 : Int32) + (1 : Int32)) + (1 : Int32)) + (1 : Int32))), .val (.ref w2)] [(.int ((((0 : Int32) + (1 : Int32)) + (1 : Int32)) + (1 : Int32))), (.ref h0.size)])) _
    refine X4.aaload hx (j := ((((0 : Int32) + (1 : Int32)) + (1 : Int32)) + (1 : Int32))) (v := (.ref w3)) (by rw [e4]; exact Ar.1) (State.isArrayOf_alike hZ.alike Ar.2.1) rfl Ar.2.2 (inb_of Sz ⟨by decide, by decide⟩) (H.at (inb_of Sz ⟨by decide, by decide⟩) rfl) (g := (mkF m 16 #[.val (.int (9 : Int32)), .val (.ref h0.size), .val (.int (10 : Int32)), .val (.int ((((0 : Int32) + (1 : Int32)) + (1 : Int32)) + (1 : Int32))), .val (.ref w2)] [(.int ((((0 : Int32) + (1 : Int32)) + (1 : Int32)) + (1 : Int32))), (.ref h0.size)])) rfl rfl (hb hby d1_16) _ ?_
    show Steps p.tables e below (T4.setTop (mkF m 17 #[.val (.int (9 : Int32)), .val (.ref h0.size), .val (.int (10 : Int32)), .val (.int ((((0 : Int32) + (1 : Int32)) + (1 : Int32)) + (1 : Int32))), .val (.ref w2)] [(.ref w3)])) _
    refine XS.astore X4.here hx rfl (hb hby d1_17) rfl rfl (l' := #[.val (.int (9 : Int32)), .val (.ref h0.size), .val (.int (10 : Int32)), .val (.int ((((0 : Int32) + (1 : Int32)) + (1 : Int32)) + (1 : Int32))), .val (.ref w3)]) rfl ?_
    show Steps p.tables e below (T4.setTop (mkF m 19 #[.val (.int (9 : Int32)), .val (.ref h0.size), .val (.int (10 : Int32)), .val (.int ((((0 : Int32) + (1 : Int32)) + (1 : Int32)) + (1 : Int32))), .val (.ref w3)] [])) _
    refine XS.aload X4.here hx rfl (hb hby d1_19) rfl rfl ?_
    show Steps p.tables e below (T4.setTop (mkF m 21 #[.val (.int (9 : Int32)), .val (.ref h0.size), .val (.int (10 : Int32)), .val (.int ((((0 : Int32) + (1 : Int32)) + (1 : Int32)) + (1 : Int32))), .val (.ref w3)] [(.ref w3)])) _
    refine st5 _ ?_
    show Steps p.tables e below (T5.setTop (mkF m 24 #[.val (.int (9 : Int32)), .val (.ref h0.size), .val (.int (10 : Int32)), .val (.int ((((0 : Int32) + (1 : Int32)) + (1 : Int32)) + (1 : Int32))), .val (.ref w3)] [(.int (4 : Int32))])) _
    refine XS.iloadN X5.here hx rfl (hb hby d1_24) rfl ?_
    show Steps p.tables e below (T5.setTop (mkF m 25 #[.val (.int (9 : Int32)), .val (.ref h0.size), .val (.int (10 : Int32)), .val (.int ((((0 : Int32) + (1 : Int32)) + (1 : Int32)) + (1 : Int32))), .val (.ref w3)] [(.int (9 : Int32)), (.int (4 : Int32))])) _
    refine XS.icmpYes X5.here hx rfl (pc0 := 25) (pc' := 31) rfl (hb hby d1_25) rfl (feq (by decide +kernel)).2 (by decide) (by decide) ?_
    show Steps p.tables e below (T5.setTop (mkF m 31 #[.val (.int (9 : Int32)), .val (.ref h0.size), .val (.int (10 : Int32)), .val (.int ((((0 : Int32) + (1 : Int32)) + (1 : Int32)) + (1 : Int32))), .val (.ref w3)] [])) _
    refine XS.iinc X5.here hx rfl (hb hby d1_31) rfl (l' := #[.val (.int (9 : Int32)), .val (.ref h0.size), .val (.int (10 : Int32)), .val (.int (((((0 : Int32) + (1 : Int32)) + (1 : Int32)) + (1 : Int32)) + (1 : Int32))), .val (.ref w3)]) rfl ?_
    show Steps p.tables e below (T5.setTop (mkF m 34 #[.val (.int (9 : Int32)), .val (.ref h0.size), .val (.int (10 : Int32)), .val (.int (((((0 : Int32) + (1 : Int32)) + (1 : Int32)) + (1 : Int32)) + (1 : Int32))), .val (.ref w3)] [])) _
    refine XS.goto X5.here hx rfl (pc0 := 34) (pc' := 9) rfl (hb hby d1_34) (by decide) (by decide) ?_
    show Steps p.tables e below (T5.setTop (mkF m 9 #[.val (.int (9 : Int32)), .val (.ref h0.size), .val (.int (10 : Int32)), .val (.int (((((0 : Int32) + (1 : Int32)) + (1 : Int32)) + (1 : Int32)) + (1 : Int32))), .val (.ref w3)] [])) _
    refine XS.iloadN X5.here hx rfl (hb hby d1_9) rfl ?_
    show Steps p.tables e below (T5.setTop (mkF m 10 #[.val (.int (9 : Int32)), .val (.ref h0.size), .val (.int (10 : Int32)), .val (.int (((((0 : Int32) + (1 : Int32)) + (1 : Int32)) + (1 : Int32)) + (1 : Int32))), .val (.ref w3)] [(.int (((((0 : Int32) + (1 : Int32)) + (1 : Int32)) + (1 : Int32)) + (1 : Int32)))])) _
    refine XS.iloadN X5.here hx rfl (hb hby d1_10) rfl ?_
    show Steps p.tables e below (T5.setTop (mkF m 11 #[.val (.int (9 : Int32)), .val (.ref h0.size), .val (.int (10 : Int32)), .val (.int (((((0 : Int32) + (1 : Int32)) + (1 : Int32)) + (1 : Int32)) + (1 : Int32))), .val (.ref w3)] [(.int (10 : Int32)), (.int (((((0 : Int32) + (1 : Int32)) + (1 : Int32)) + (1 : Int32)) + (1 : Int32)))])) _
    refine XS.icmpNo X5.here hx rfl (hb hby d1_11) rfl (tlt (by decide +kernel)).2.1 ?_
    show Steps p.tables e below (T5.setTop (mkF m 14 #[.val (.int (9 : Int32)), .val (.ref h0.size), .val (.int (10 : Int32)), .val (.int (((((0 : Int32) + (1 : Int32)) + (1 : Int32)) + (1 : Int32)) + (1 : Int32))), .val (.ref w3)] [])) _
    refine XS.aloadN X5.here hx rfl (hb hby d1_14) rfl rfl ?_
    show Steps p.tables e below (T5.setTop (mkF m 15 #[.val (.int (9 : Int32)), .val (.ref h0.size), .val (.int (10 : Int32)), .val (.int (((((0 : Int32) + (1 : Int32)) + (1 : Int32)) + (1 : Int32)) + (1 : Int32))), .val (.ref w3)] [(.ref h0.size)])) _
    refine XS.iloadN X5.here hx rfl (hb hby d1_15) rfl ?_
    show Steps p.tables e below (T5.setTop (mkF m 16 #[.val (.int (9 : Int32)), .val (.ref h0.size), .val (.int (10 : Int32)), .val (.int (((((0 : Int32) + (1 : Int32)) + (1 : Int32)) + (1 : Int32)) + (1 : Int32))), .val (.ref w3)] [(.int (((((0 : Int32) + (1 : Int32)) + (1 : Int32)) + (1 : Int32)) + (1 : Int32))), (.ref h0.size)])) _
    refine X5.aaload hx (j := (((((0 : Int32) + (1 : Int32)) + (1 : Int32)) + (1 : Int32)) + (1 : Int32))) (v := (.ref w4)) (by rw [e5]; exact Ar.1) (State.isArrayOf_alike hZ.alike Ar.2.1) rfl Ar.2.2 (inb_of Sz ⟨by decide, by decide⟩) (H.at (inb_of Sz ⟨by decide, by decide⟩) rfl) (g := (mkF m 16 #[.val (.int (9 : Int32)), .val (.ref h0.size), .val (.int (10 : Int32)), .val (.int (((((0 : Int32) + (1 : Int32)) + (1 : Int32)) + (1 : Int32)) + (1 : Int32))), .val (.ref w3)] [(.int (((((0 : Int32) + (1 : Int32)) + (1 : Int32)) + (1 : Int32)) + (1 : Int32))), (.ref h0.size)])) rfl rfl (hb hby d1_16) _ ?_
    show Steps p.tables e below (T5.setTop (mkF m 17 #[.val (.int (9 : Int32)), .val (.ref h0.size), .val (.int (10 : Int32)), .val (.int (((((0 : Int32) + (1 : Int32)) + (1 : Int32)) + (1 : Int32)) + (1 : Int32))), .val (.ref w3)] [(.ref w4)])) _
    refine XS.astore X5.here hx rfl (hb hby d1_17) rfl rfl (l' := #[.val (.int (9 : Int32)), .val (.ref h0.size), .val (.int (10 : Int32)), .val (.int (((((0 : Int32) + (1 : Int32)) + (1 : Int32)) + (1 : Int32)) + (1 : Int32))), .val (.ref w4)]) rfl ?_
    show Steps p.tables e below (T5.setTop (mkF m 19 #[.val (.int (9 : Int32)), .val (.ref h0.size), .val (.int (10 : Int32)), .val (.int (((((0 : Int32) + (1 : Int32)) + (1 : Int32)) + (1 : Int32)) + (1 : Int32))), .val (.ref w4)] [])) _
    refine XS.aload X5.here hx rfl (hb hby d1_19) rfl rfl ?_
    show Steps p.tables e below (T5.setTop (mkF m 21 #[.val (.int (9 : Int32)), .val (.ref h0.size), .val (.int (10 : Int32)), .val (.int (((((0 : Int32) + (1 : Int32)) + (1 : Int32)) + (1 : Int32)) + (1 : Int32))), .val (.ref w4)] [(.ref w4)])) _
    refine st6 _ ?_
    show Steps p.tables e below (T6.setTop (mkF m 24 #[.val (.int (9 : Int32)), .val (.ref h0.size), .val (.int (10 : Int32)), .val (.int (((((0 : Int32) + (1 : Int32)) + (1 : Int32)) + (1 : Int32)) + (1 : Int32))), .val (.ref w4)] [(.int (5 : Int32))])) _
    refine XS.iloadN X6.here hx rfl (hb hby d1_24) rfl ?_
    show Steps p.tables e below (T6.setTop (mkF m 25 #[.val (.int (9 : Int32)), .val (.ref h0.size), .val (.int (10 : Int32)), .val (.int (((((0 : Int32) + (1 : Int32)) + (1 : Int32)) + (1 : Int32)) + (1 : Int32))), .val (.ref w4)] [(.int (9 : Int32)), (.int (5 : Int32))])) _
    refine XS.icmpYes X6.here hx rfl (pc0 := 25) (pc' := 31) rfl (hb hby d1_25) rfl (feq (by decide +kernel)).2 (by decide) (by decide) ?_
    show Steps p.tables e below (T6.setTop (mkF m 31 #[.val (.int (9 : Int32)), .val (.ref h0.size), .val (.int (10 : Int32)), .val (.int (((((0 : Int32) + (1 : Int32)) + (1 : Int32)) + (1 : Int32)) + (1 : Int32))), .val (.ref w4)] [])) _
    refine XS.iinc X6.here hx rfl (hb hby d1_31) rfl (l' := #[.val (.int (9 : Int32)), .val (.ref h0.size), .val (.int (10 : Int32)), .val (.int ((((((0 : Int32) + (1 : Int32)) + (1 : Int32)) + (1 : Int32)) + (1 : Int32)) + (1 : Int32))), .val (.ref w4)]) rfl ?_
    show Steps p.tables e below (T6.setTop (mkF m 34 #[.val (.int (9 : Int32)), .val (.ref h0.size), .val (.int (10 : Int32)), .val (.int ((((((0 : Int32) + (1 : Int32)) + (1 : Int32)) + (1 : Int32)) + (1 : Int32)) + (1 : Int32))), .val (.ref w4)] [])) _
    refine XS.goto X6.here hx rfl (pc0 := 34) (pc' := 9) rfl (hb hby d1_34) (by decide) (by decide) ?_
    show Steps p.tables e below (T6.setTop (mkF m 9 #[.val (.int (9 : Int32)), .val (.ref h0.size), .val (.int (10 : Int32)), .val (.int ((((((0 : Int32) + (1 : Int32)) + (1 : Int32)) + (1 : Int32)) + (1 : Int32)) + (1 : Int32))), .val (.ref w4)] [])) _
    refine XS.iloadN X6.here hx rfl (hb hby d1_9) rfl ?_
    show Steps p.tables e below (T6.setTop (mkF m 10 #[.val (.int (9 : Int32)), .val (.ref h0.size), .val (.int (10 : Int32)), .val (.int ((((((0 : Int32) + (1 : Int32)) + (1 : Int32)) + (1 : Int32)) + (1 : Int32)) + (1 : Int32))), .val (.ref w4)] [(.int ((((((0 : Int32) + (1 : Int32)) + (1 : Int32)) + (1 : Int32)) + (1 : Int32)) + (1 : Int32)))])) _
    refine XS.iloadN X6.here hx rfl (hb hby d1_10) rfl ?_
    show Steps p.tables e below (T6.setTop (mkF m 11 #[.val (.int (9 : Int32)), .val (.ref h0.size), .val (.int (10 : Int32)), .val (.int ((((((0 : Int32) + (1 : Int32)) + (1 : Int32)) + (1 : Int32)) + (1 : Int32)) + (1 : Int32))), .val (.ref w4)] [(.int (10 : Int32)), (.int ((((((0 : Int32) + (1 : Int32)) + (1 : Int32)) + (1 : Int32)) + (1 : Int32)) + (1 : Int32)))])) _
    refine XS.icmpNo X6.here hx rfl (hb hby d1_11) rfl (tlt (by decide +kernel)).2.1 ?_
    show Steps p.tables e below (T6.setTop (mkF m 14 #[.val (.int (9 : Int32)), .val (.ref h0.size), .val (.int (10 : Int32)), .val (.int ((((((0 : Int32) + (1 : Int32)) + (1 : Int32)) + (1 : Int32)) + (1 : Int32)) + (1 : Int32))), .val (.ref w4)] [])) _
    refine XS.aloadN X6.here hx rfl (hb hby d1_14) rfl rfl ?_
    show Steps p.tables e below (T6.setTop (mkF m 15 #[.val (.int (9 : Int32)), .val (.ref h0.size), .val (.int (10 : Int32)), .val (.int ((((((0 : Int32) + (1 : Int32)) + (1 : Int32)) + (1 : Int32)) + (1 : Int32)) + (1 : Int32))), .val (.ref w4)] [(.ref h0.size)])) _
    refine XS.iloadN X6.here hx rfl (hb hby d1_15) rfl ?_
    show Steps p.tables e below (T6.setTop (mkF m 16 #[.val (.int (9 : Int32)), .val (.ref h0.size), .val (.int (10 : Int32)), .val (.int ((((((0 : Int32) + (1 : Int32)) + (1 : Int32)) + (1 : Int32)) + (1 : Int32)) + (1 : Int32))), .val (.ref w4)] [(.int ((((((0 : Int32) + (1 : Int32)) + (1 : Int32)) + (1 : Int32)) + (1 : Int32)) + (1 : Int32))), (.ref h0.size)])) _
    refine X6.aaload hx (j := ((((((0 : Int32) + (1 : Int32)) + (1 : Int32)) + (1 : Int32)) + (1 : Int32)) + (1 : Int32))) (v := (.ref w5)) (by rw [e6]; exact Ar.1) (State.isArrayOf_alike hZ.alike Ar.2.1) rfl Ar.2.2 (inb_of Sz ⟨by decide, by decide⟩) (H.at (inb_of Sz ⟨by decide, by decide⟩) rfl) (g := (mkF m 16 #[.val (.int (9 : Int32)), .val (.ref h0.size), .val (.int (10 : Int32)), .val (.int ((((((0 : Int32) + (1 : Int32)) + (1 : Int32)) + (1 : Int32)) + (1 : Int32)) + (1 : Int32))), .val (.ref w4)] [(.int ((((((0 : Int32) + (1 : Int32)) + (1 : Int32)) + (1 : Int32)) + (1 : Int32)) + (1 : Int32))), (.ref h0.size)])) rfl rfl (hb hby d1_16) _ ?_
    show Steps p.tables e below (T6.setTop (mkF m 17 #[.val (.int (9 : Int32)), .val (.ref h0.size), .val (.int (10 : Int32)), .val (.int ((((((0 : Int32) + (1 : Int32)) + (1 : Int32)) + (1 : Int32)) + (1 : Int32)) + (1 : Int32))), .val (.ref w4)] [(.ref w5)])) _
    refine XS.astore X6.here hx rfl (hb hby d1_17) rfl rfl (l' := #[.val (.int (9 : Int32)), .val (.ref h0.size), .val (.int (10 : Int32)), .val (.int ((((((0 : Int32) + (1 : Int32)) + (1 : Int32)) + (1 : Int32)) + (1 : Int32)) + (1 : Int32))), .val (.ref w5)]) rfl ?_
    show Steps p.tables e below (T6.setTop (mkF m 19 #[.val (.int (9 : Int32)), .val (.ref h0.size), .val (.int (10 : Int32)), .val (.int ((((((0 : Int32) + (1 : Int32)) + (1 : Int32)) + (1 : Int32)) + (1 : Int32)) + (1 : Int32))), .val (.ref w5)] [])) _
    refine XS.aload X6.here hx rfl (hb hby d1_19) rfl rfl ?_
    show Steps p.tables e below (T6.setTop (mkF m 21 #[.val (.int (9 : Int32)), .val (.ref h0.size), .val (.int (10 : Int32)), .val (.int ((((((0 : Int32) + (1 : Int32)) + (1 : Int32)) + (1 : Int32)) + (1 : Int32)) + (1 : Int32))), .val (.ref w5)] [(.ref w5)])) _
    refine st7 _ ?_
    show Steps p.tables e below (T7.setTop (mkF m 24 #[.val (.int (9 : Int32)), .val (.ref h0.size), .val (.int (10 : Int32)), .val (.int ((((((0 : Int32) + (1 : Int32)) + (1 : Int32)) + (1 : Int32)) + (1 : Int32)) + (1 : Int32))), .val (.ref w5)] [(.int (6 : Int32))])) _
    refine XS.iloadN X7.here hx rfl (hb hby d1_24) rfl ?_
    show Steps p.tables e below (T7.setTop (mkF m 25 #[.val (.int (9 : Int32)), .val (.ref h0.size), .val (.int (10 : Int32)), .val (.int ((((((0 : Int32) + (1 : Int32)) + (1 : Int32)) + (1 : Int32)) + (1 : Int32)) + (1 : Int32))), .val (.ref w5)] [(.int (9 : Int32)), (.int (6 : Int32))])) _
    refine XS.icmpYes X7.here hx rfl (pc0 := 25) (pc' := 31) rfl (hb hby d1_25) rfl (feq (by decide +kernel)).2 (by decide) (by decide) ?_
    show Steps p.tables e below (T7.setTop (mkF m 31 #[.val (.int (9 : Int32)), .val (.ref h0.size), .val (.int (10 : Int32)), .val (.int ((((((0 : Int32) + (1 : Int32)) + (1 : Int32)) + (1 : Int32)) + (1 : Int32)) + (1 : Int32))), .val (.ref w5)] [])) _
    refine XS.iinc X7.here hx rfl (hb hby d1_31) rfl (l' := #[.val (.int (9 : Int32)), .val (.ref h0.size), .val (.int (10 : Int32)), .val (.int (((((((0 : Int32) + (1 : Int32)) + (1 : Int32)) + (1 : Int32)) + (1 : Int32)) + (1 : Int32)) + (1 : Int32))), .val (.ref w5)]) rfl ?_
    show Steps p.tables e below (T7.setTop (mkF m 34 #[.val (.int (9 : Int32)), .val (.ref h0.size), .val (.int (10 : Int32)), .val (.int (((((((0 : Int32) + (1 : Int32)) + (1 : Int32)) + (1 : Int32)) + (1 : Int32)) + (1 : Int32)) + (1 : Int32))), .val (.ref w5)] [])) _
    refine XS.goto X7.here hx rfl (pc0 := 34) (pc' := 9) rfl (hb hby d1_34) (by decide) (by decide) ?_
    show Steps p.tables e below (T7.setTop (mkF m 9 #[.val (.int (9 : Int32)), .val (.ref h0.size), .val (.int (10 : Int32)), .val (.int (((((((0 : Int32) + (1 : Int32)) + (1 : Int32)) + (1 : Int32)) + (1 : Int32)) + (1 : Int32)) + (1 : Int32))), .val (.ref w5)] [])) _
    refine XS.iloadN X7.here hx rfl (hb hby d1_9) rfl ?_
    show Steps p.tables e below (T7.setTop (mkF m 10 #[.val (.int (9 : Int32)), .val (.ref h0.size), .val (.int (10 : Int32)), .val (.int (((((((0 : Int32) + (1 : Int32)) + (1 : Int32)) + (1 : Int32)) + (1 : Int32)) + (1 : Int32)) + (1 : Int32))), .val (.ref w5)] [(.int (((((((0 : Int32) + (1 : Int32)) + (1 : Int32)) + (1 : Int32)) + (1 : Int32)) + (1 : Int32)) + (1 : Int32)))])) _
    refine XS.iloadN X7.here hx rfl (hb hby d1_10) rfl ?_
    show Steps p.tables e below (T7.setTop (mkF m 11 #[.val (.int (9 : Int32)), .val (.ref h0.size), .val (.int (10 : Int32)), .val (.int (((((((0 : Int32) + (1 : Int32)) + (1 : Int32)) + (1 : Int32)) + (1 : Int32)) + (1 : Int32)) + (1 : Int32))), .val (.ref w5)] [(.int (10 : Int32)), (.int (((((((0 : Int32) + (1 : Int32)) + (1 : Int32)) + (1 : Int32)) + (1 : Int32)) + (1 : Int32)) + (1 : Int32)))])) _
    refine XS.icmpNo X7.here hx rfl (hb hby d1_11) rfl (tlt (by decide +kernel)).2.1 ?_
    show Steps p.tables e below (T7.setTop (mkF m 14 #[.val (.int (9 : Int32)), .val (.ref h0.size), .val (.int (10 : Int32)), .val (.int (((((((0 : Int32) + (1 : Int32)) + (1 : Int32)) + (1 : Int32)) + (1 : Int32)) + (1 : Int32)) + (1 : Int32))), .val (.ref w5)] [])) _
    refine XS.aloadN X7.here hx rfl (hb hby d1_14) rfl rfl ?_
    show Steps p.tables e below (T7.setTop (mkF m 15 #[.val (.int (9 : Int32)), .val (.ref h0.size), .val (.int (10 : Int32)), .val (.int (((((((0 : Int32) + (1 : Int32)) + (1 : Int32)) + (1 : Int32)) + (1 : Int32)) + (1 : Int32)) + (1 : Int32))), .val (.ref w5)] [(.ref h0.size)])) _
    refine XS.iloadN X7.here hx rfl (hb hby d1_15) rfl ?_
    show Steps p.tables e below (T7.setTop (mkF m 16 #[.val (.int (9 : Int32)), .val (.ref h0.size), .val (.int (10 : Int32)), .val (.int (((((((0 : Int32) + (1 : Int32)) + (1 : Int32)) + (1 : Int32)) + (1 : Int32)) + (1 : Int32)) + (1 : Int32))), .val (.ref w5)] [(.int (((((((0 : Int32) + (1 : Int32)) + (1 : Int32)) + (1 : Int32)) + (1 : Int32)) + (1 : Int32)) + (1 : Int32))), (.ref h0.size)])) _
    refine X7.aaload hx (j := (((((((0 : Int32) + (1 : Int32)) + (1 : Int32)) + (1 : Int32)) + (1 : Int32)) + (1 : Int32)) + (1 : Int32))) (v := (.ref w6)) (by rw [e7]; exact Ar.1) (State.isArrayOf_alike hZ.alike Ar.2.1) rfl Ar.2.2 (inb_of Sz ⟨by decide, by decide⟩) (H.at (inb_of Sz ⟨by decide, by decide⟩) rfl) (g := (mkF m 16 #[.val (.int (9 : Int32)), .val (.ref h0.size), .val (.int (10 : Int32)), .val (.int (((((((0 : Int32) + (1 : Int32)) + (1 : Int32)) + (1 : Int32)) + (1 : Int32)) + (1 : Int32)) + (1 : Int32))), .val (.ref w5)] [(.int (((((((0 : Int32) + (1 : Int32)) + (1 : Int32)) + (1 : Int32)) + (1 : Int32)) + (1 : Int32)) + (1 : Int32))), (.ref h0.size)])) rfl rfl (hb hby d1_16) _ ?_
    show Steps p.tables e below (T7.setTop (mkF m 17 #[.val (.int (9 : Int32)), .val (.ref h0.size), .val (.int (10 : Int32)), .val (.int (((((((0 : Int32) + (1 : Int32)) + (1 : Int32)) + (1 : Int32)) + (1 : Int32)) + (1 : Int32)) + (1 : Int32))), .val (.ref w5)] [(.ref w6)])) _
    refine XS.astore X7.here hx rfl (hb hby d1_17) rfl rfl (l' := #[.val (.int (9 : Int32)), .val (.ref h0.size), .val (.int (10 : Int32)), .val (.int (((((((0 : Int32) + (1 : Int32)) + (1 : Int32)) + (1 : Int32)) + (1 : Int32)) + (1 : Int32)) + (1 : Int32))), .val (.ref w6)]) rfl ?_
    show Steps p.tables e below (T7.setTop (mkF m 19 #[.val (.int (9 : Int32)), .val (.ref h0.size), .val (.int (10 : Int32)), .val (.int (((((((0 : Int32) + (1 : Int32)) + (1 : Int32)) + (1 : Int32)) + (1 : Int32)) + (1 : Int32)) + (1 : Int32))), .val (.ref w6)] [])) _
    refine XS.aload X7.here hx rfl (hb hby d1_19) rfl rfl ?_
    show Steps p.tables e below (T7.setTop (mkF m 21 #[.val (.int (9 : Int32)), .val (.ref h0.size), .val (.int (10 : Int32)), .val (.int (((((((0 : Int32) + (1 : Int32)) + (1 : Int32)) + (1 : Int32)) + (1 : Int32)) + (1 : Int32)) + (1 : Int32))), .val (.ref w6)] [(.ref w6)])) _
    refine st8 _ ?_
    show Steps p.tables e below (T8.setTop (mkF m 24 #[.val (.int (9 : Int32)), .val (.ref h0.size), .val (.int (10 : Int32)), .val (.int (((((((0 : Int32) + (1 : Int32)) + (1 : Int32)) + (1 : Int32)) + (1 : Int32)) + (1 : Int32)) + (1 : Int32))), .val (.ref w6)] [(.int (7 : Int32))])) _
    refine XS.iloadN X8.here hx rfl (hb hby d1_24) rfl ?_
    show Steps p.tables e below (T8.setTop (mkF m 25 #[.val (.int (9 : Int32)), .val (.ref h0.size), .val (.int (10 : Int32)), .val (.int (((((((0 : Int32) + (1 : Int32)) + (1 : Int32)) + (1 : Int32)) + (1 : Int32)) + (1 : Int32)) + (1 : Int32))), .val (.ref w6)] [(.int (9 : Int32)), (.int (7 : Int32))])) _
    refine XS.icmpYes X8.here hx rfl (pc0 := 25) (pc' := 31) rfl (hb hby d1_25) rfl (feq (by decide +kernel)).2 (by decide) (by decide) ?_
    show Steps p.tables e below (T8.setTop (mkF m 31 #[.val (.int (9 : Int32)), .val (.ref h0.size), .val (.int (10 : Int32)), .val (.int (((((((0 : Int32) + (1 : Int32)) + (1 : Int32)) + (1 : Int32)) + (1 : Int32)) + (1 : Int32)) + (1 : Int32))), .val (.ref w6)] [])) _
    refine XS.iinc X8.here hx rfl (hb hby d1_31) rfl (l' := #[.val (.int (9 : Int32)), .val (.ref h0.size), .val (.int (10 : Int32)), .val (.int ((((((((0 : Int32) + (1 : Int32)) + (1 : Int32)) + (1 : Int32)) + (1 : Int32)) + (1 : Int32)) + (1 : Int32)) + (1 : Int32))), .val (.ref w6)]) rfl ?_
    show Steps p.tables e below (T8.setTop (mkF m 34 #[.val (.int (9 : Int32)), .val (.ref h0.size), .val (.int (10 : Int32)), .val (.int ((((((((0 : Int32) + (1 : Int32)) + (1 : Int32)) + (1 : Int32)) + (1 : Int32)) + (1 : Int32)) + (1 : Int32)) + (1 : Int32))), .val (.ref w6)] [])) _
    refine XS.goto X8.here hx rfl (pc0 := 34) (pc' := 9) rfl (hb hby d1_34) (by decide) (by decide) ?_
    show Steps p.tables e below (T8.setTop (mkF m 9 #[.val (.int (9 : Int32)), .val (.ref h0.size), .val (.int (10 : Int32)), .val (.int ((((((((0 : Int32) + (1 : Int32)) + (1 : Int32)) + (1 : Int32)) + (1 : Int32)) + (1 : Int32)) + (1 : Int32)) + (1 : Int32))), .val (.ref w6)] [])) _
    refine XS.iloadN X8.here hx rfl (hb hby d1_9) rfl ?_
    show Steps p.tables e below (T8.setTop (mkF m 10 #[.val (.int (9 : Int32)), .val (.ref h0.size), .val (.int (10 : Int32)), .val (.int ((((((((0 : Int32) + (1 : Int32)) + (1 : Int32)) + (1 : Int32)) + (1 : Int32)) + (1 : Int32)) + (1 : Int32)) + (1 : Int32))), .val (.ref w6)] [(.int ((((((((0 : Int32) + (1 : Int32)) + (1 : Int32)) + (1 : Int32)) + (1 : Int32)) + (1 : Int32)) + (1 : Int32)) + (1 : Int32)))])) _
    refine XS.iloadN X8.here hx rfl (hb hby d1_10) rfl ?_
    show Steps p.tables e below (T8.setTop (mkF m 11 #[.val (.int (9 : Int32)), .val (.ref h0.size), .val (.int (10 : Int32)), .val (.int ((((((((0 : Int32) + (1 : Int32)) + (1 : Int32)) + (1 : Int32)) + (1 : Int32)) + (1 : Int32)) + (1 : Int32)) + (1 : Int32))), .val (.ref w6)] [(.int (10 : Int32)), (.int ((((((((0 : Int32) + (1 : Int32)) + (1 : Int32)) + (1 : Int32)) + (1 : Int32)) + (1 : Int32)) + (1 : Int32)) + (1 : Int32)))])) _
    refine XS.icmpNo X8.here hx rfl (hb hby d1_11) rfl (tlt (by decide +kernel)).2.1 ?_
    show Steps p.tables e below (T8.setTop (mkF m 14 #[.val (.int (9 : Int32)), .val (.ref h0.size), .val (.int (10 : Int32)), .val (.int ((((((((0 : Int32) + (1 : Int32)) + (1 : Int32)) + (1 : Int32)) + (1 : Int32)) + (1 : Int32)) + (1 : Int32)) + (1 : Int32))), .val (.ref w6)] [])) _
    refine XS.aloadN X8.here hx rfl (hb hby d1_14) rfl rfl ?_
    show Steps p.tables e below (T8.setTop (mkF m 15 #[.val (.int (9 : Int32)), .val (.ref h0.size), .val (.int (10 : Int32)), .val (.int ((((((((0 : Int32) + (1 : Int32)) + (1 : Int32)) + (1 : Int32)) + (1 : Int32)) + (1 : Int32)) + (1 : Int32)) + (1 : Int32))), .val (.ref w6)] [(.ref h0.size)])) _
    refine XS.iloadN X8.here hx rfl (hb hby d1_15) rfl ?_
    show Steps p.tables e below (T8.setTop (mkF m 16 #[.val (.int (9 : Int32)), .val (.ref h0.size), .val (.int (10 : Int32)), .val (.int ((((((((0 : Int32) + (1 : Int32)) + (1 : Int32)) + (1 : Int32)) + (1 : Int32)) + (1 : Int32)) + (1 : Int32)) + (1 : Int32))), .val (.ref w6)] [(.int ((((((((0 : Int32) + (1 : Int32)) + (1 : Int32)) + (1 : Int32)) + (1 : Int32)) + (1 : Int32)) + (1 : Int32)) + (1 : Int32))), (.ref h0.size)])) _
    refine X8.aaload hx (j := ((((((((0 : Int32) + (1 : Int32)) + (1 : Int32)) + (1 : Int32)) + (1 : Int32)) + (1 : Int32)) + (1 : Int32)) + (1 : Int32))) (v := (.ref w7)) (by rw [e8]; exact Ar.1) (State.isArrayOf_alike hZ.alike Ar.2.1) rfl Ar.2.2 (inb_of Sz ⟨by decide, by decide⟩) (H.at (inb_of Sz ⟨by decide, by decide⟩) rfl) (g := (mkF m 16 #[.val (.int (9 : Int32)), .val (.ref h0.size), .val (.int (10 : Int32)), .val (.int ((((((((0 : Int32) + (1 : Int32)) + (1 : Int32)) + (1 : Int32)) + (1 : Int32)) + (1 : Int32)) + (1 : Int32)) + (1 : Int32))), .val (.ref w6)] [(.int ((((((((0 : Int32) + (1 : Int32)) + (1 : Int32)) + (1 : Int32)) + (1 : Int32)) + (1 : Int32)) + (1 : Int32)) + (1 : Int32))), (.ref h0.size)])) rfl rfl (hb hby d1_16) _ ?_
    show Steps p.tables e below (T8.setTop (mkF m 17 #[.val (.int (9 : Int32)), .val (.ref h0.size), .val (.int (10 : Int32)), .val (.int ((((((((0 : Int32) + (1 : Int32)) + (1 : Int32)) + (1 : Int32)) + (1 : Int32)) + (1 : Int32)) + (1 : Int32)) + (1 : Int32))), .val (.ref w6)] [(.ref w7)])) _
    refine XS.astore X8.here hx rfl (hb hby d1_17) rfl rfl (l' := #[.val (.int (9 : Int32)), .val (.ref h0.size), .val (.int (10 : Int32)), .val (.int ((((((((0 : Int32) + (1 : Int32)) + (1 : Int32)) + (1 : Int32)) + (1 : Int32)) + (1 : Int32)) + (1 : Int32)) + (1 : Int32))), .val (.ref w7)]) rfl ?_
    show Steps p.tables e below (T8.setTop (mkF m 19 #[.val (.int (9 : Int32)), .val (.ref h0.size), .val (.int (10 : Int32)), .val (.int ((((((((0 : Int32) + (1 : Int32)) + (1 : Int32)) + (1 : Int32)) + (1 : Int32)) + (1 : Int32)) + (1 : Int32)) + (1 : Int32))), .val (.ref w7)] [])) _
    refine XS.aload X8.here hx rfl (hb hby d1_19) rfl rfl ?_
    show Steps p.tables e below (T8.setTop (mkF m 21 #[.val (.int (9 : Int32)), .val (.ref h0.size), .val (.int (10 : Int32)), .val (.int ((((((((0 : Int32) + (1 : Int32)) + (1 : Int32)) + (1 : Int32)) + (1 : Int32)) + (1 : Int32)) + (1 : Int32)) + (1 : Int32))), .val (.ref w7)] [(.ref w7)])) _
    refine st9 _ ?_
    show Steps p.tables e below (T9.setTop (mkF m 24 #[.val (.int (9 : Int32)), .val (.ref h0.size), .val (.int (10 : Int32)), .val (.int ((((((((0 : Int32) + (1 : Int32)) + (1 : Int32)) + (1 : Int32)) + (1 : Int32)) + (1 : Int32)) + (1 : Int32)) + (1 : Int32))), .val (.ref w7)] [(.int (8 : Int32))])) _
    refine XS.iloadN X9.here hx rfl (hb hby d1_24) rfl ?_
    show Steps p.tables e below (T9.setTop (mkF m 25 #[.val (.int (9 : Int32)), .val (.ref h0.size), .val (.int (10 : Int32)), .val (.int ((((((((0 : Int32) + (1 : Int32)) + (1 : Int32)) + (1 : Int32)) + (1 : Int32)) + (1 : Int32)) + (1 : Int32)) + (1 : Int32))), .val (.ref w7)] [(.int (9 : Int32)), (.int (8 : Int32))])) _
    refine XS.icmpYes X9.here hx rfl (pc0 := 25) (pc' := 31) rfl (hb hby d1_25) rfl (feq (by decide +kernel)).2 (by decide) (by decide) ?_
    show Steps p.tables e below (T9.setTop (mkF m 31 #[.val (.int (9 : Int32)), .val (.ref h0.size), .val (.int (10 : Int32)), .val (.int ((((((((0 : Int32) + (1 : Int32)) + (1 : Int32)) + (1 : Int32)) + (1 : Int32)) + (1 : Int32)) + (1 : Int32)) + (1 : Int32))), .val (.ref w7)] [])) _
    refine XS.iinc X9.here hx rfl (hb hby d1_31) rfl (l' := #[.val (.int (9 : Int32)), .val (.ref h0.size), .val (.int (10 : Int32)), .val (.int (((((((((0 : Int32) + (1 : Int32)) + (1 : Int32)) + (1 : Int32)) + (1 : Int32)) + (1 : Int32)) + (1 : Int32)) + (1 : Int32)) + (1 : Int32))), .val (.ref w7)]) rfl ?_
    show Steps p.tables e below (T9.setTop (mkF m 34 #[.val (.int (9 : Int32)), .val (.ref h0.size), .val (.int (10 : Int32)), .val (.int (((((((((0 : Int32) + (1 : Int32)) + (1 : Int32)) + (1 : Int32)) + (1 : Int32)) + (1 : Int32)) + (1 : Int32)) + (1 : Int32)) + (1 : Int32))), .val (.ref w7)] [])) _
    refine XS.goto X9.here hx rfl (pc0 := 34) (pc' := 9) rfl (hb hby d1_34) (by decide) (by decide) ?_
    show Steps p.tables e below (T9.setTop (mkF m 9 #[.val (.int (9 : Int32)), .val (.ref h0.size), .val (.int (10 : Int32)), .val (.int (((((((((0 : Int32) + (1 : Int32)) + (1 : Int32)) + (1 : Int32)) + (1 : Int32)) + (1 : Int32)) + (1 : Int32)) + (1 : Int32)) + (1 : Int32))), .val (.ref w7)] [])) _
    refine XS.iloadN X9.here hx rfl (hb hby d1_9) rfl ?_
    show Steps p.tables e below (T9.setTop (mkF m 10 #[.val (.int (9 : Int32)), .val (.ref h0.size), .val (.int (10 : Int32)), .val (.int (((((((((0 : Int32) + (1 : Int32)) + (1 : Int32)) + (1 : Int32)) + (1 : Int32)) + (1 : Int32)) + (1 : Int32)) + (1 : Int32)) + (1 : Int32))), .val (.ref w7)] [(.int (((((((((0 : Int32) + (1 : Int32)) + (1 : Int32)) + (1 : Int32)) + (1 : Int32)) + (1 : Int32)) + (1 : Int32)) + (1 : Int32)) + (1 : Int32)))])) _
    refine XS.iloadN X9.here hx rfl (hb hby d1_10) rfl ?_
    show Steps p.tables e below (T9.setTop (mkF m 11 #[.val (.int (9 : Int32)), .val (.ref h0.size), .val (.int (10 : Int32)), .val (.int (((((((((0 : Int32) + (1 : Int32)) + (1 : Int32)) + (1 : Int32)) + (1 : Int32)) + (1 : Int32)) + (1 : Int32)) + (1 : Int32)) + (1 : Int32))), .val (.ref w7)] [(.int (10 : Int32)), (.int (((((((((0 : Int32) + (1 : Int32)) + (1 : Int32)) + (1 : Int32)) + (1 : Int32)) + (1 : Int32)) + (1 : Int32)) + (1 : Int32)) + (1 : Int32)))])) _
    refine XS.icmpNo X9.here hx rfl (hb hby d1_11) rfl (tlt (by decide +kernel)).2.1 ?_
    show Steps p.tables e below (T9.setTop (mkF m 14 #[.val (.int (9 : Int32)), .val (.ref h0.size), .val (.int (10 : Int32)), .val (.int (((((((((0 : Int32) + (1 : Int32)) + (1 : Int32)) + (1 : Int32)) + (1 : Int32)) + (1 : Int32)) + (1 : Int32)) + (1 : Int32)) + (1 : Int32))), .val (.ref w7)] [])) _
    refine XS.aloadN X9.here hx rfl (hb hby d1_14) rfl rfl ?_
    show Steps p.tables e below (T9.setTop (mkF m 15 #[.val (.int (9 : Int32)), .val (.ref h0.size), .val (.int (10 : Int32)), .val (.int (((((((((0 : Int32) + (1 : Int32)) + (1 : Int32)) + (1 : Int32)) + (1 : Int32)) + (1 : Int32)) + (1 : Int32)) + (1 : Int32)) + (1 : Int32))), .val (.ref w7)] [(.ref h0.size)])) _
    refine XS.iloadN X9.here hx rfl (hb hby d1_15) rfl ?_
    show Steps p.tables e below (T9.setTop (mkF m 16 #[.val (.int (9 : Int32)), .val (.ref h0.size), .val (.int (10 : Int32)), .val (.int (((((((((0 : Int32) + (1 : Int32)) + (1 : Int32)) + (1 : Int32)) + (1 : Int32)) + (1 : Int32)) + (1 : Int32)) + (1 : Int32)) + (1 : Int32))), .val (.ref w7)] [(.int (((((((((0 : Int32) + (1 : Int32)) + (1 : Int32)) + (1 : Int32)) + (1 : Int32)) + (1 : Int32)) + (1 : Int32)) + (1 : Int32)) + (1 : Int32))), (.ref h0.size)])) _
    refine X9.aaload hx (j := (((((((((0 : Int32) + (1 : Int32)) + (1 : Int32)) + (1 : Int32)) + (1 : Int32)) + (1 : Int32)) + (1 : Int32)) + (1 : Int32)) + (1 : Int32))) (v := (.ref w8)) (by rw [e9]; exact Ar.1) (State.isArrayOf_alike hZ.alike Ar.2.1) rfl Ar.2.2 (inb_of Sz ⟨by decide, by decide⟩) (H.at (inb_of Sz ⟨by decide, by decide⟩) rfl) (g := (mkF m 16 #[.val (.int (9 : Int32)), .val (.ref h0.size), .val (.int (10 : Int32)), .val (.int (((((((((0 : Int32) + (1 : Int32)) + (1 : Int32)) + (1 : Int32)) + (1 : Int32)) + (1 : Int32)) + (1 : Int32)) + (1 : Int32)) + (1 : Int32))), .val (.ref w7)] [(.int (((((((((0 : Int32) + (1 : Int32)) + (1 : Int32)) + (1 : Int32)) + (1 : Int32)) + (1 : Int32)) + (1 : Int32)) + (1 : Int32)) + (1 : Int32))), (.ref h0.size)])) rfl rfl (hb hby d1_16) _ ?_
    show Steps p.tables e below (T9.setTop (mkF m 17 #[.val (.int (9 : Int32)), .val (.ref h0.size), .val (.int (10 : Int32)), .val (.int (((((((((0 : Int32) + (1 : Int32)) + (1 : Int32)) + (1 : Int32)) + (1 : Int32)) + (1 : Int32)) + (1 : Int32)) + (1 : Int32)) + (1 : Int32))), .val (.ref w7)] [(.ref w8)])) _
    refine XS.astore X9.here hx rfl (hb hby d1_17) rfl rfl (l' := #[.val (.int (9 : Int32)), .val (.ref h0.size), .val (.int (10 : Int32)), .val (.int (((((((((0 : Int32) + (1 : Int32)) + (1 : Int32)) + (1 : Int32)) + (1 : Int32)) + (1 : Int32)) + (1 : Int32)) + (1 : Int32)) + (1 : Int32))), .val (.ref w8)]) rfl ?_
    show Steps p.tables e below (T9.setTop (mkF m 19 #[.val (.int (9 : Int32)), .val (.ref h0.size), .val (.int (10 : Int32)), .val (.int (((((((((0 : Int32) + (1 : Int32)) + (1 : Int32)) + (1 : Int32)) + (1 : Int32)) + (1 : Int32)) + (1 : Int32)) + (1 : Int32)) + (1 : Int32))), .val (.ref w8)] [])) _
    refine XS.aload X9.here hx rfl (hb hby d1_19) rfl rfl ?_
    show Steps p.tables e below (T9.setTop (mkF m 21 #[.val (.int (9 : Int32)), .val (.ref h0.size), .val (.int (10 : Int32)), .val (.int (((((((((0 : Int32) + (1 : Int32)) + (1 : Int32)) + (1 : Int32)) + (1 : Int32)) + (1 : Int32)) + (1 : Int32)) + (1 : Int32)) + (1 : Int32))), .val (.ref w8)] [(.ref w8)])) _
    refine st10 _ ?_
    show Steps p.tables e below (T10.setTop (mkF m 24 #[.val (.int (9 : Int32)), .val (.ref h0.size), .val (.int (10 : Int32)), .val (.int (((((((((0 : Int32) + (1 : Int32)) + (1 : Int32)) + (1 : Int32)) + (1 : Int32)) + (1 : Int32)) + (1 : Int32)) + (1 : Int32)) + (1 : Int32))), .val (.ref w8)] [(.int (9 : Int32))])) _
    refine XS.iloadN X10.here hx rfl (hb hby d1_24) rfl ?_
    show Steps p.tables e below (T10.setTop (mkF m 25 #[.val (.int (9 : Int32)), .val (.ref h0.size), .val (.int (10 : Int32)), .val (.int (((((((((0 : Int32) + (1 : Int32)) + (1 : Int32)) + (1 : Int32)) + (1 : Int32)) + (1 : Int32)) + (1 : Int32)) + (1 : Int32)) + (1 : Int32))), .val (.ref w8)] [(.int (9 : Int32)), (.int (9 : Int32))])) _
    refine XS.icmpNo X10.here hx rfl (hb hby d1_25) rfl (teq (by decide +kernel)).2 ?_
    show Steps p.tables e below (T10.setTop (mkF m 28 #[.val (.int (9 : Int32)), .val (.ref h0.size), .val (.int (10 : Int32)), .val (.int (((((((((0 : Int32) + (1 : Int32)) + (1 : Int32)) + (1 : Int32)) + (1 : Int32)) + (1 : Int32)) + (1 : Int32)) + (1 : Int32)) + (1 : Int32))), .val (.ref w8)] [])) _
    refine XS.aload X10.here hx rfl (hb hby d1_28) rfl rfl ?_
    show Steps p.tables e below (T10.setTop (mkF m 30 #[.val (.int (9 : Int32)), .val (.ref h0.size), .val (.int (10 : Int32)), .val (.int (((((((((0 : Int32) + (1 : Int32)) + (1 : Int32)) + (1 : Int32)) + (1 : Int32)) + (1 : Int32)) + (1 : Int32)) + (1 : Int32)) + (1 : Int32))), .val (.ref w8)] [(.ref w8)])) _
    jvm_step X10.here [X10.here.top, hx, (hb hby d1_30), X10.method', Bd.returns, Value.isRef, FieldType.isReference]
    first | (intro acts; rw [hr _ acts rfl rfl rfl]) | rw [hr _ _ rfl rfl rfl]
    exact Steps.refl _
  · show QO_9 Z vA kA w0 w1 w2 w3 w4 w5 w6 w7 w8 w9 h0 n0 _ T10.heap _
    rw [e10]
    exact ⟨rfl, N1, Ex⟩
def QO_10 (Z : State) (vA : Addr) (kA : ClassId) (w0 w1 w2 w3 w4 w5 w6 w7 w8 w9 : Addr) (h0 : Heap) (n0 : Nat) (v : Option Value) (h : Heap) (L : List Loc) : Prop := v = some (.ref w9) ∧ Fr n0 L ∧ Ext h0 h
set_option maxRecDepth 65536 in
set_option maxHeartbeats 40000000 in
theorem rmO_10 (l : Launch) (Z : State) (a0 : Array Value) (hw : ∀ d ∈ tables_1, d.before a0 Z = true) (ws : List Jvm.Cond) (vA : Addr) (kA : ClassId) (w0 w1 w2 w3 w4 w5 w6 w7 w8 w9 : Addr) (h0 : Heap) (n0 : Nat) (Z0 : n0 ≤ h0.size) (SV : Sta Z h0 "com/example/concordat/concordat/log/LogRecord$Kind" "$VALUES" "[Lcom/example/concordat/concordat/log/LogRecord$Kind;" (.ref vA)) (AV : Arv Z h0 vA kA (.object "com/example/concordat/concordat/log/LogRecord$Kind") 10 [.ref w0, .ref w1, .ref w2, .ref w3, .ref w4, .ref w5, .ref w6, .ref w7, .ref w8, .ref w9] .null) (EV : Exa Z h0 vA "[Lcom/example/concordat/concordat/log/LogRecord$Kind;") (FC0 : Fld Z h0 w0 "com/example/concordat/concordat/log/LogRecord$Kind" "code" "B" (.int (1 : Int32))) (FC1 : Fld Z h0 w1 "com/example/concordat/concordat/log/LogRecord$Kind" "code" "B" (.int (2 : Int32))) (FC2 : Fld Z h0 w2 "com/example/concordat/concordat/log/LogRecord$Kind" "code" "B" (.int (3 : Int32))) (FC3 : Fld Z h0 w3 "com/example/concordat/concordat/log/LogRecord$Kind" "code" "B" (.int (4 : Int32))) (FC4 : Fld Z h0 w4 "com/example/concordat/concordat/log/LogRecord$Kind" "code" "B" (.int (5 : Int32))) (FC5 : Fld Z h0 w5 "com/example/concordat/concordat/log/LogRecord$Kind" "code" "B" (.int (6 : Int32))) (FC6 : Fld Z h0 w6 "com/example/concordat/concordat/log/LogRecord$Kind" "code" "B" (.int (7 : Int32))) (FC7 : Fld Z h0 w7 "com/example/concordat/concordat/log/LogRecord$Kind" "code" "B" (.int (8 : Int32))) (FC8 : Fld Z h0 w8 "com/example/concordat/concordat/log/LogRecord$Kind" "code" "B" (.int (9 : Int32))) (FC9 : Fld Z h0 w9 "com/example/concordat/concordat/log/LogRecord$Kind" "code" "B" (.int (10 : Int32))) :
    MetFree l (⟨"com/example/concordat/concordat/log/LogRecord$Kind", "of", "(B)Lcom/example/concordat/concordat/log/LogRecord$Kind;"⟩ : MethodName) (head1 (Jvm.Cond.code (⟨"com/example/concordat/concordat/log/LogRecord$Kind", "of", "(B)Lcom/example/concordat/concordat/log/LogRecord$Kind;"⟩ : MethodName) prog_45_method_4_code 5 (some (.object "com/example/concordat/concordat/log/LogRecord$Kind")) :: ws) ({ frames := 2, cells := 1, slots := 10, locals := 25 } : Room)) (fun a U => a = #[(.int (10 : Int32))] ∧ Z.Warmed39 U.vm ∧ U.heap = h0) (fun _ _ _ _ _ => True) (fun _ U o U' => ∃ v L, o = .returned v ∧ QO_10 Z vA kA w0 w1 w2 w3 w4 w5 w6 w7 w8 w9 h0 n0 v U'.heap L ∧ FrameEnd U o U' L ({ frames := 2, cells := 1, slots := 10, locals := 25 } : Room).cells ({ frames := 2, cells := 1, slots := 10, locals := 25 } : Room).slots) := by
  refine MetFree.of_bodySF (plainFor_of_name pn_LogRecord_Kind) hisR ?_
  intro p e s m args below meth c s₁ Bd hml0 hP hK
  obtain ⟨rfl, hZ, hh⟩ := hP
  have hx := Bd.exec
  have hby := Bd.bytes
  have hml : c.maxLocals = 5 := hml0
  have hown : s.vm.findClass "com/example/concordat/concordat/log/LogRecord$Kind" = some m.cls := findClass_of_methodNamed Bd.named
  have hnm := (name_of_methodNamed Bd.named Bd.method).1
  have X0 : Stand p l e ({ frames := 2, cells := 1, slots := 10, locals := 25 } : Room) s m #[(.int (10 : Int32))] below meth c s₁ [] 0 0 := Stand.of_body Bd
  have e0 : s₁.heap = h0 := by rw [← hh, Bd.state]; rfl
  have N0 := Fr.nil n0
  have pre0 : ∀ t, Steps p.tables e below (s₁.setTop (mkF m 0 #[.val (.int (10 : Int32)), .unset, .unset, .unset, .unset] [])) t → Steps p.tables e below (s₁.setTop (entryFrame m #[(.int (10 : Int32))] 5)) t := fun t k => castTop (ef_1 m (10 : Int32)) k
  obtain ⟨_, _, ⟨T1, L1, k1, n1⟩, -, X1, ⟨Lc1, hQ1, l1, y1, z1⟩, st1⟩ := Jvm.LawKit.callS X0 hx (y := (⟨"com/example/concordat/concordat/log/LogRecord$Kind", "values", "()[Lcom/example/concordat/concordat/log/LogRecord$Kind;"⟩ : MethodName)) hown (mvT hZ (hw _ (List.mem_of_getElem? (i := 4) rfl))) (mvT hZ (hw _ (List.mem_of_getElem? (i := 5) rfl))) (mvT hZ (hw _ (List.mem_of_getElem? (i := 2) rfl))) (mvT hZ (hw _ (List.mem_of_getElem? (i := 6) rfl))) (by decide) (backOf (W := 0) (rmV l Z a0 hw [] vA kA w0 w1 w2 w3 w4 w5 w6 w7 w8 w9 h0 n0 Z0 SV AV EV) hZ (hw _ (List.mem_of_getElem? (i := 6) rfl)) (hw _ (List.mem_of_getElem? (i := 2) rfl)) (by decide) (by decide)) (g := (mkF m 0 #[.val (.int (10 : Int32)), .unset, .unset, .unset, .unset] [])) rfl (by rw [hml]; rfl) (argsL := []) (rest := []) (lenOf pd_0 rfl) rfl (by show 2 * 0 + _ ≤ _; exact Nat.le_of_eq rfl) (hb hby d1_0) (fun _ _ => ⟨rfl, e0, (by decide : 0 + 1 ≤ _), (by decide : 0 + 10 ≤ _)⟩)
  dsimp only [Pt.U, Pt.locs, Pt.cells, Pt.slots] at X1 l1 y1 z1 st1 hQ1
  subst l1 y1 z1
  obtain ⟨rfl, N1q, Ex, Av⟩ := hQ1
  have N1 := Fr.app N0 N1q
  obtain ⟨cl, Ar, -, Sz, Mz, H, -⟩ := Av
  obtain ⟨T2, X2, e2, st2⟩ := getF X1 hx hZ hown (host := "") (Or.inl (hw _ (List.mem_of_getElem? (i := 29) rfl))) Via.refl rfl (FC0.ext Ex) (g := (mkF m 21 #[.val (.int (10 : Int32)), .val (.ref h0.size), .val (.int (10 : Int32)), .val (.int (0 : Int32)), .val (.ref w0)] [(.ref w0)])) rfl rfl (hb hby d1_21)
  obtain ⟨T3, X3, e3, st3⟩ := getF X2 hx hZ hown (host := "") (Or.inl (hw _ (List.mem_of_getElem? (i := 29) rfl))) Via.refl e2 (FC1.ext Ex) (g := (mkF m 21 #[.val (.int (10 : Int32)), .val (.ref h0.size), .val (.int (10 : Int32)), .val (.int ((0 : Int32) + (1 : Int32))), .val (.ref w1)] [(.ref w1)])) rfl rfl (hb hby d1_21)
  obtain ⟨T4, X4, e4, st4⟩ := getF X3 hx hZ hown (host := "") (Or.inl (hw _ (List.mem_of_getElem? (i := 29) rfl))) Via.refl e3 (FC2.ext Ex) (g := (mkF m 21 #[.val (.int (10 : Int32)), .val (.ref h0.size), .val (.int (10 : Int32)), .val (.int (((0 : Int32) + (1 : Int32)) + (1 : Int32))), .val (.ref w2)] [(.ref w2)])) rfl rfl (hb hby d1_21)
  obtain ⟨T5, X5, e5, st5⟩ := getF X4 hx hZ hown (host := "") (Or.inl (hw _ (List.mem_of_getElem? (i := 29) rfl))) Via.refl e4 (FC3.ext Ex) (g := (mkF m 21 #[.val (.int (10 : Int32)), .val (.ref h0.size), .val (.int (10 : Int32)), .val (.int ((((0 : Int32) + (1 : Int32)) + (1 : Int32)) + (1 : Int32))), .val (.ref w3)] [(.ref w3)])) rfl rfl (hb hby d1_21)
  obtain ⟨T6, X6, e6, st6⟩ := getF X5 hx hZ hown (host := "") (Or.inl (hw _ (List.mem_of_getElem? (i := 29) rfl))) Via.refl e5 (FC4.ext Ex) (g := (mkF m 21 #[.val (.int (10 : Int32)), .val (.ref h0.size), .val (.int (10 : Int32)), .val (.int (((((0 : Int32) + (1 : Int32)) + (1 : Int32)) + (1 : Int32)) + (1 : Int32))), .val (.ref w4)] [(.ref w4)])) rfl rfl (hb hby d1_21)
  obtain ⟨T7, X7, e7, st7⟩ := getF X6 hx hZ hown (host := "") (Or.inl (hw _ (List.mem_of_getElem? (i := 29) rfl))) Via.refl e6 (FC5.ext Ex) (g := (mkF m 21 #[.val (.int (10 : Int32)), .val (.ref h0.size), .val (.int (10 : Int32)), .val (.int ((((((0 : Int32) + (1 : Int32)) + (1 : Int32)) + (1 : Int32)) + (1 : Int32)) + (1 : Int32))), .val (.ref w5)] [(.ref w5)])) rfl rfl (hb hby d1_21)
  obtain ⟨T8, X8, e8, st8⟩ := getF X7 hx hZ hown (host := "") (Or.inl (hw _ (List.mem_of_getElem? (i := 29) rfl))) Via.refl e7 (FC6.ext Ex) (g := (mkF m 21 #[.val (.int (10 : Int32)), .val (.ref h0.size), .val (.int (10 : Int32)), .val (.int (((((((0 : Int32) + (1 : Int32)) + (1 : Int32)) + (1 : Int32)) + (1 : Int32)) + (1 : Int32)) + (1 : Int32))), .val (.ref w6)] [(.ref w6)])) rfl rfl (hb hby d1_21)
  obtain ⟨T9, X9, e9, st9⟩ := getF X8 hx hZ hown (host := "") (Or.inl (hw _ (List.mem_of_getElem? (i := 29) rfl))) Via.refl e8 (FC7.ext Ex) (g := (mkF m 21 #[.val (.int (10 : Int32)), .val (.ref h0.size), .val (.int (10 : Int32)), .val (.int ((((((((0 : Int32) + (1 : Int32)) + (1 : Int32)) + (1 : Int32)) + (1 : Int32)) + (1 : Int32)) + (1 : Int32)) + (1 : Int32))), .val (.ref w7)] [(.ref w7)])) rfl rfl (hb hby d1_21)
  obtain ⟨T10, X10, e10, st10⟩ := getF X9 hx hZ hown (host := "") (Or.inl (hw _ (List.mem_of_getElem? (i := 29) rfl))) Via.refl e9 (FC8.ext Ex) (g := (mkF m 21 #[.val (.int (10 : Int32)), .val (.ref h0.size), .val (.int (10 : Int32)), .val (.int (((((((((0 : Int32) + (1 : Int32)) + (1 : Int32)) + (1 : Int32)) + (1 : Int32)) + (1 : Int32)) + (1 : Int32)) + (1 : Int32)) + (1 : Int32))), .val (.ref w8)] [(.ref w8)])) rfl rfl (hb hby d1_21)
  obtain ⟨T11, X11, e11, st11⟩ := getF X10 hx hZ hown (host := "") (Or.inl (hw _ (List.mem_of_getElem? (i := 29) rfl))) Via.refl e10 (FC9.ext Ex) (g := (mkF m 21 #[.val (.int (10 : Int32)), .val (.ref h0.size), .val (.int (10 : Int32)), .val (.int ((((((((((0 : Int32) + (1 : Int32)) + (1 : Int32)) + (1 : Int32)) + (1 : Int32)) + (1 : Int32)) + (1 : Int32)) + (1 : Int32)) + (1 : Int32)) + (1 : Int32))), .val (.ref w9)] [(.ref w9)])) rfl rfl (hb hby d1_21)
  obtain ⟨fs, hr, hrun, hended, hW, hsame⟩ := X11.leave (v := some (.ref w9)) (fun h => by rw [Bd.returns] at h; cases h)
  refine ⟨_, _, pre0 _ ?_, hrun, hended, _, _, rfl, ?_, ⟨_, rfl⟩, hW, hsame.mono (by decide) (by decide)⟩
  · show Steps p.tables e below (s₁.setTop (mkF m 0 #[.val (.int (10 : Int32)), .unset, .unset, .unset, .unset] [])) _
    refine st1 _ ?_
    show Steps p.tables e below (T1.setTop (mkF m 3 #[.val (.int (10 : Int32)), .unset, .unset, .unset, .unset] [(.ref h0.size)])) _
    refine XS.astoreN X1.here hx rfl (hb hby d1_3) rfl rfl (l' := #[.val (.int (10 : Int32)), .val (.ref h0.size), .unset, .unset, .unset]) rfl ?_
    show Steps p.tables e below (T1.setTop (mkF m 4 #[.val (.int (10 : Int32)), .val (.ref h0.size), .unset, .unset, .unset] [])) _
    refine XS.aloadN X1.here hx rfl (hb hby d1_4) rfl rfl ?_
    show Steps p.tables e below (T1.setTop (mkF m 5 #[.val (.int (10 : Int32)), .val (.ref h0.size), .unset, .unset, .unset] [(.ref h0.size)])) _
    refine X1.arraylength hx Ar.1 (State.isArrayOf_alike hZ.alike Ar.2.1) (g := (mkF m 5 #[.val (.int (10 : Int32)), .val (.ref h0.size), .unset, .unset, .unset] [(.ref h0.size)])) rfl rfl (hb hby d1_5) _ ?_
    rw [len_of Sz Mz]
    show Steps p.tables e below (T1.setTop (mkF m 6 #[.val (.int (10 : Int32)), .val (.ref h0.size), .unset, .unset, .unset] [(.int (10 : Int32))])) _
    refine XS.istoreN X1.here hx rfl (hb hby d1_6) rfl (l' := #[.val (.int (10 : Int32)), .val (.ref h0.size), .val (.int (10 : Int32)), .unset, .unset]) rfl ?_
    show Steps p.tables e below (T1.setTop (mkF m 7 #[.val (.int (10 : Int32)), .val (.ref h0.size), .val (.int (10 : Int32)), .unset, .unset] [])) _
    refine XS.iconst X1.here hx rfl (hb hby d1_7) ?_
    show Steps p.tables e below (T1.setTop (mkF m 8 #[.val (.int (10 : Int32)), .val (.ref h0.size), .val (.int (10 : Int32)), .unset, .unset] [(.int (0 : Int32))])) _
    refine XS.istoreN X1.here hx rfl (hb hby d1_8) rfl (l' := #[.val (.int (10 : Int32)), .val (.ref h0.size), .val (.int (10 : Int32)), .val (.int (0 : Int32)), .unset]) rfl ?_
    show Steps p.tables e below (T1.setTop (mkF m 9 #[.val (.int (10 : Int32)), .val (.ref h0.size), .val (.int (10 : Int32)), .val (.int (0 : Int32)), .unset] [])) _
    refine XS.iloadN X1.here hx rfl (hb hby d1_9) rfl ?_
    show Steps p.tables e below (T1.setTop (mkF m 10 #[.val (.int (10 : Int32)), .val (.ref h0.size), .val (.int (10 : Int32)), .val (.int (0 : Int32)), .unset] [(.int (0 : Int32))])) _
    refine XS.iloadN X1.here hx rfl (hb hby d1_10) rfl ?_
    show Steps p.tables e below (T1.setTop (mkF m 11 #[.val (.int (10 : Int32)), .val (.ref h0.size), .val (.int (10 : Int32)), .val (.int (0 : Int32)), .unset] [(.int (10 : Int32)), (.int (0 : Int32))])) _
    refine XS.icmpNo X1.here hx rfl (hb hby d1_11) rfl (tlt (by decide +kernel)).2.1 ?_
    show Steps p.tables e below (T1.setTop (mkF m 14 #[.val (.int (10 : Int32)), .val (.ref h0.size), .val (.int (10 : Int32)), .val (.int (0 : Int32)), .unset] [])) _
    refine XS.aloadN X1.here hx rfl (hb hby d1_14) rfl rfl ?_
    show Steps p.tables e below (T1.setTop (mkF m 15 #[.val (.int (10 : Int32)), .val (.ref h0.size), .val (.int (10 : Int32)), .val (.int (0 : Int32)), .unset] [(.ref h0.size)])) _
    refine XS.iloadN X1.here hx rfl (hb hby d1_15) rfl ?_
    show Steps p.tables e below (T1.setTop (mkF m 16 #[.val (.int (10 : Int32)), .val (.ref h0.size), .val (.int (10 : Int32)), .val (.int (0 : Int32)), .unset] [(.int (0 : Int32)), (.ref h0.size)])) _
    refine X1.aaload hx (j := (0 : Int32)) (v := (.ref w0)) Ar.1 (State.isArrayOf_alike hZ.alike Ar.2.1) rfl Ar.2.2 (inb_of Sz ⟨by decide, by decide⟩) (H.at (inb_of Sz ⟨by decide, by decide⟩) rfl) (g := (mkF m 16 #[.val (.int (10 : Int32)), .val (.ref h0.size), .val (.int (10 : Int32)), .val (.int (0 : Int32)), .unset] [(.int (0 : Int32)), (.ref h0.size)])) rfl rfl (hb hby d1_16) _ ?_
    show Steps p.tables e below (T1.setTop (mkF m 17 #[.val (.int (10 : Int32)), .val (.ref h0.size), .val (.int (10 : Int32)), .val (.int (0 : Int32)), .unset] [(.ref w0)])) _
    refine XS.astore X1.here hx rfl (hb hby d1_17) rfl rfl (l' := #[.val (.int (10 : Int32)), .val (.ref h0.size), .val (.int (10 : Int32)), .val (.int (0 : Int32)), .val (.ref w0)]) rfl ?_
    show Steps p.tables e below (T1.setTop (mkF m 19 #[.val (.int (10 : Int32)), .val (.ref h0.size), .val (.int (10 : Int32)), .val (.int (0 : Int32)), .val (.ref w0)] [])) _
    refine XS.aload X1.here hx rfl (hb hby d1_19) rfl rfl ?_
    show Steps p.tables e below (T1.setTop (mkF m 21 #[.val (.int (10 : Int32)), .val (.ref h0.size), .val (.int (10 : Int32)), .val (.int (0 : Int32)), .val (.ref w0)] [(.ref w0)])) _
    refine st2 _ ?_
    show Steps p.tables e below (T2.setTop (mkF m 24 #[.val (.int (10 : Int32)), .val (.ref h0.size), .val (.int (10 : Int32)), .val (.int (0 : Int32)), .val (.ref w0)] [(.int (1 : Int32))])) _
    refine XS.iloadN X2.here hx rfl (hb hby d1_24) rfl ?_
    show Steps p.tables e below (T2.setTop (mkF m 25 #[.val (.int (10 : Int32)), .val (.ref h0.size), .val (.int (10 : Int32)), .val (.int (0 : Int32)), .val (.ref w0)] [(.int (10 : Int32)), (.int (1 : Int32))])) _
    refine XS.icmpYes X2.here hx rfl (pc0 := 25) (pc' := 31) rfl (hb hby d1_25) rfl (feq (by decide +kernel)).2 (by decide) (by decide) ?_
    show Steps p.tables e below (T2.setTop (mkF m 31 #[.val (.int (10 : Int32)), .val (.ref h0.size), .val (.int (10 : Int32)), .val (.int (0 : Int32)), .val (.ref w0)] [])) _
    refine XS.iinc X2.here hx rfl (hb hby d1_31) rfl (l' := #[.val (.int (10 : Int32)), .val (.ref h0.size), .val (.int (10 : Int32)), .val (.int ((0 : Int32) + (1 : Int32))), .val (.ref w0)]) rfl ?_
    show Steps p.tables e below (T2.setTop (mkF m 34 #[.val (.int (10 : Int32)), .val (.ref h0.size), .val (.int (10 : Int32)), .val (.int ((0 : Int32) + (1 : Int32))), .val (.ref w0)] [])) _
    refine XS.goto X2.here hx rfl (pc0 := 34) (pc' := 9) rfl (hb hby d1_34) (by decide) (by decide) ?_
    show Steps p.tables e below (T2.setTop (mkF m 9 #[.val (.int (10 : Int32)), .val (.ref h0.size), .val (.int (10 : Int32)), .val (.int ((0 : Int32) + (1 : Int32))), .val (.ref w0)] [])) _
    refine XS.iloadN X2.here hx rfl (hb hby d1_9) rfl ?_
    show Steps p.tables e below (T2.setTop (mkF m 10 #[.val (.int (10 : Int32)), .val (.ref h0.size), .val (.int (10 : Int32)), .val (.int ((0 : Int32) + (1 : Int32))), .val (.ref w0)] [(.int ((0 : Int32) + (1 : Int32)))])) _
    refine XS.iloadN X2.here hx rfl (hb hby d1_10) rfl ?_
    show Steps p.tables e below (T2.setTop (mkF m 11 #[.val (.int (10 : Int32)), .val (.ref h0.size), .val (.int (10 : Int32)), .val (.int ((0 : Int32) + (1 : Int32))), .val (.ref w0)] [(.int (10 : Int32)), (.int ((0 : Int32) + (1 : Int32)))])) _
    refine XS.icmpNo X2.here hx rfl (hb hby d1_11) rfl (tlt (by decide +kernel)).2.1 ?_
    show Steps p.tables e below (T2.setTop (mkF m 14 #[.val (.int (10 : Int32)), .val (.ref h0.size), .val (.int (10 : Int32)), .val (.int ((0 : Int32) + (1 : Int32))), .val (.ref w0)] [])) _
    refine XS.aloadN X2.here hx rfl (hb hby d1_14) rfl rfl ?_
    show Steps p.tables e below (T2.setTop (mkF m 15 #[.val (.int (10 : Int32)), .val (.ref h0.size), .val (.int (10 : Int32)), .val (.int ((0 : Int32) + (1 : Int32))), .val (.ref w0)] [(.ref h0.size)])) _
    refine XS.iloadN X2.here hx rfl (hb hby d1_15) rfl ?_
    show Steps p.tables e below (T2.setTop (mkF m 16 #[.val (.int (10 : Int32)), .val (.ref h0.size), .val (.int (10 : Int32)), .val (.int ((0 : Int32) + (1 : Int32))), .val (.ref w0)] [(.int ((0 : Int32) + (1 : Int32))), (.ref h0.size)])) _
    refine X2.aaload hx (j := ((0 : Int32) + (1 : Int32))) (v := (.ref w1)) (by rw [e2]; exact Ar.1) (State.isArrayOf_alike hZ.alike Ar.2.1) rfl Ar.2.2 (inb_of Sz ⟨by decide, by decide⟩) (H.at (inb_of Sz ⟨by decide, by decide⟩) rfl) (g := (mkF m 16 #[.val (.int (10 : Int32)), .val (.ref h0.size), .val (.int (10 : Int32)), .val (.int ((0 : Int32) + (1 : Int32))), .val (.ref w0)] [(.int ((0 : Int32) + (1 : Int32))), (.ref h0.size)])) rfl rfl (hb hby d1_16) _ ?_
    show Steps p.tables e below (T2.setTop (mkF m 17 #[.val (.int (10 : Int32)), .val (.ref h0.size), .val (.int (10 : Int32)), .val (.int ((0 : Int32) + (1 : Int32))), .val (.ref w0)] [(.ref w1)])) _
    refine XS.astore X2.here hx rfl (hb hby d1_17) rfl rfl (l' := #[.val (.int (10 : Int32)), .val (.ref h0.size), .val (.int (10 : Int32)), .val (.int ((0 : Int32) + (1 : Int32))), .val (.ref w1)]) rfl ?_
    show Steps p.tables e below (T2.setTop (mkF m 19 #[.val (.int (10 : Int32)), .val (.ref h0.size), .val (.int (10 : Int32)), .val (.int ((0 : Int32) + (1 : Int32))), .val (.ref w1)] [])) _
    refine XS.aload X2.here hx rfl (hb hby d1_19) rfl rfl ?_
    show Steps p.tables e below (T2.setTop (mkF m 21 #[.val (.int (10 : Int32)), .val (.ref h0.size), .val (.int (10 : Int32)), .val (.int ((0 : Int32) + (1 : Int32))), .val (.ref w1)] [(.ref w1)])) _
    refine st3 _ ?_
    show Steps p.tables e below (T3.setTop (mkF m 24 #[.val (.int (10 : Int32)), .val (.ref h0.size), .val (.int (10 : Int32)), .val (.int ((0 : Int32) + (1 : Int32))), .val (.ref w1)] [(.int (2 : Int32))])) _
    refine XS.iloadN X3.here hx rfl (hb hby d1_24) rfl ?_
    show Steps p.tables e below (T3.setTop (mkF m 25 #[.val (.int (10 : Int32)), .val (.ref h0.size), .val (.int (10 : Int32)), .val (.int ((0 : Int32) + (1 : Int32))), .val (.ref w1)] [(.int (10 : Int32)), (.int (2 : Int32))])) _
    refine XS.icmpYes X3.here hx rfl (pc0 := 25) (pc' := 31) rfl (hb hby d1_25) rfl (feq (by decide +kernel)).2 (by decide) (by decide) ?_
    show Steps p.tables e below (T3.setTop (mkF m 31 #[.val (.int (10 : Int32)), .val (.ref h0.size), .val (.int (10 : Int32)), .val (.int ((0 : Int32) + (1 : Int32))), .val (.ref w1)] [])) _
    refine XS.iinc X3.here hx rfl (hb hby d1_31) rfl (l' := #[.val (.int (10 : Int32)), .val (.ref h0.size), .val (.int (10 : Int32)), .val (.int (((0 : Int32) + (1 : Int32)) + (1 : Int32))), .val (.ref w1)]) rfl ?_
    show Steps p.tables e below (T3.setTop (mkF m 34 #[.val (.int (10 : Int32)), .val (.ref h0.size), .val (.int (10 : Int32)), .val (.int (((0 : Int32) + (1 : Int32)) + (1 : Int32))), .val (.ref w1)] [])) _
    refine XS.goto X3.here hx rfl (pc0 := 34) (pc' := 9) rfl (hb hby d1_34) (by decide) (by decide) ?_
    show Steps p.tables e below (T3.setTop (mkF m 9 #[.val (.int (10 : Int32)), .val (.ref h0.size), .val (.int (10 : Int32)), .val (.int (((0 : Int32) + (1 : Int32)) + (1 : Int32))), .val (.ref w1)] [])) _
    refine XS.iloadN X3.here hx rfl (hb hby d1_9) rfl ?_
    show Steps p.tables e below (T3.setTop (mkF m 10 #[.val (.int (10 : Int32)), .val (.ref h0.size), .val (.int (10 : Int32)), .val (.int (((0 : Int32) + (1 : Int32)) + (1 : Int32))), .val (.ref w1)] [(.int (((0 : Int32) + (1 : Int32)) + (1 : Int32)))])) _
    refine XS.iloadN X3.here hx rfl (hb hby d1_10) rfl ?_
    show Steps p.tables e below (T3.setTop (mkF m 11 #[.val (.int (10 : Int32)), .val (.ref h0.size), .val (.int (10 : Int32)), .val (.int (((0 : Int32) + (1 : Int32)) + (1 : Int32))), .val (.ref w1)] [(.int (10 : Int32)), (.int (((0 : Int32) + (1 : Int32)) + (1 : Int32)))])) _
    refine XS.icmpNo X3.here hx rfl (hb hby d1_11) rfl (tlt (by decide +kernel)).2.1 ?_
    show Steps p.tables e below (T3.setTop (mkF m 14 #[.val (.int (10 : Int32)), .val (.ref h0.size), .val (.int (10 : Int32)), .val (.int (((0 : Int32) + (1 : Int32)) + (1 : Int32))), .val (.ref w1)] [])) _
    refine XS.aloadN X3.here hx rfl (hb hby d1_14) rfl rfl ?_
    show Steps p.tables e below (T3.setTop (mkF m 15 #[.val (.int (10 : Int32)), .val (.ref h0.size), .val (.int (10 : Int32)), .val (.int (((0 : Int32) + (1 : Int32)) + (1 : Int32))), .val (.ref w1)] [(.ref h0.size)])) _
    refine XS.iloadN X3.here hx rfl (hb hby d1_15) rfl ?_
    show Steps p.tables e below (T3.setTop (mkF m 16 #[.val (.int (10 : Int32)), .val (.ref h0.size), .val (.int (10 : Int32)), .val (.int (((0 : Int32) + (1 : Int32)) + (1 : Int32))), .val (.ref w1)] [(.int (((0 : Int32) + (1 : Int32)) + (1 : Int32))), (.ref h0.size)])) _
    refine X3.aaload hx (j := (((0 : Int32) + (1 : Int32)) + (1 : Int32))) (v := (.ref w2)) (by rw [e3]; exact Ar.1) (State.isArrayOf_alike hZ.alike Ar.2.1) rfl Ar.2.2 (inb_of Sz ⟨by decide, by decide⟩) (H.at (inb_of Sz ⟨by decide, by decide⟩) rfl) (g := (mkF m 16 #[.val (.int (10 : Int32)), .val (.ref h0.size), .val (.int (10 : Int32)), .val (.int (((0 : Int32) + (1 : Int32)) + (1 : Int32))), .val (.ref w1)] [(.int (((0 : Int32) + (1 : Int32)) + (1 : Int32))), (.ref h0.size)])) rfl rfl (hb hby d1_16) _ ?_
    show Steps p.tables e below (T3.setTop (mkF m 17 #[.val (.int (10 : Int32)), .val (.ref h0.size), .val (.int (10 : Int32)), .val (.int (((0 : Int32) + (1 : Int32)) + (1 : Int32))), .val (.ref w1)] [(.ref w2)])) _
    refine XS.astore X3.here hx rfl (hb hby d1_17) rfl rfl (l' := #[.val (.int (10 : Int32)), .val (.ref h0.size), .val (.int (10 : Int32)), .val (.int (((0 : Int32) + (1 : Int32)) + (1 : Int32))), .val (.ref w2)]) rfl ?_
    show Steps p.tables e below (T3.setTop (mkF m 19 #[.val (.int (10 : Int32)), .val (.ref h0.size), .val (.int (10 : Int32)), .val (.int (((0 : Int32) + (1 : Int32)) + (1 : Int32))), .val (.ref w2)] [])) _
    refine XS.aload X3.here hx rfl (hb hby d1_19) rfl rfl ?_
    show Steps p.tables e below (T3.setTop (mkF m 21 #[.val (.int (10 : Int32)), .val (.ref h0.size), .val (.int (10 : Int32)), .val (.int (((0 : Int32) + (1 : Int32)) + (1 : Int32))), .val (.ref w2)] [(.ref w2)])) _
    refine st4 _ ?_
    show Steps p.tables e below (T4.setTop (mkF m 24 #[.val (.int (10 : Int32)), .val (.ref h0.size), .val (.int (10 : Int32)), .val (.int (((0 : Int32) + (1 : Int32)) + (1 : Int32))), .val (.ref w2)] [(.int (3 : Int32))])) _
    refine XS.iloadN X4.here hx rfl (hb hby d1_24) rfl ?_
    show Steps p.tables e below (T4.setTop (mkF m 25 #[.val (.int (10 : Int32)), .val (.ref h0.size), .val (.int (10 : Int32)), .val (.int (((0 : Int32) + (1 : Int32)) + (1 : Int32))), .val (.ref w2)] [(.int (10 : Int32)), (.int (3 : Int32))])) _
    refine XS.icmpYes X4.here hx rfl (pc0 := 25) (pc' := 31) rfl (hb hby d1_25) rfl (feq (by decide +kernel)).2 (by decide) (by decide) ?_
    show Steps p.tables e below (T4.setTop (mkF m 31 #[.val (.int (10 : Int32)), .val (.ref h0.size), .val (.int (10 : Int32)), .val (.int (((0 : Int32) + (1 : Int32)) + (1 : Int32))), .val (.ref w2)] [])) _
    refine XS.iinc X4.here hx rfl (hb hby d1_31) rfl (l' := #[.val (.int (10 : Int32)), .val (.ref h0.size), .val (.int (10 : Int32)), .val (.int ((((0 : Int32) + (1 : Int32)) + (1 : Int32)) + (1 : Int32))), .val (.ref w2)]) rfl ?_
    show Steps p.tables e below (T4.setTop (mkF m 34 #[.val (.int (10 : Int32)), .val (.ref h0.size), .val (.int (10 : Int32)), .val (.int ((((0 : Int32) + (1 : Int32)) + (1 : Int32)) + (1 : Int32))), .val (.ref w2)] [])) _
    refine XS.goto X4.here hx rfl (pc0 := 34) (pc' := 9) rfl (hb hby d1_34) (by decide) (by decide) ?_
    show Steps p.tables e below (T4.setTop (mkF m 9 #[.val (.int (10 : Int32)), .val (.ref h0.size), .val (.int (10 : Int32)), .val (.int ((((0 : Int32) + (1 : Int32)) + (1 : Int32)) + (1 : Int32))), .val (.ref w2)] [])) _
    refine XS.iloadN X4.here hx rfl (hb hby d1_9) rfl ?_
    show Steps p.tables e below (T4.setTop (mkF m 10 #[.val (.int (10 : Int32)), .val (.ref h0.size), .val (.int (10 : Int32)), .val (.int ((((0 : Int32) + (1 : Int32)) + (1 : Int32)) + (1 : Int32))), .val (.ref w2)] [(.int ((((0 : Int32) + (1 : Int32)) + (1 : Int32)) + (1 : Int32)))])) _
    refine XS.iloadN X4.here hx rfl (hb hby d1_10) rfl ?_
    show Steps p.tables e below (T4.setTop (mkF m 11 #[.val (.int (10 : Int32)), .val (.ref h0.size), .val (.int (10 : Int32)), .val (.int ((((0 : Int32) + (1 : Int32)) + (1 : Int32)) + (1 : Int32))), .val (.ref w2)] [(.int (10 : Int32)), (.int ((((0 : Int32) + (1 : Int32)) + (1 : Int32)) + (1 : Int32)))])) _
    refine XS.icmpNo X4.here hx rfl (hb hby d1_11) rfl (tlt (by decide +kernel)).2.1 ?_
    show Steps p.tables e below (T4.setTop (mkF m 14 #[.val (.int (10 : Int32)), .val (.ref h0.size), .val (.int (10 : Int32)), .val (.int ((((0 : Int32) + (1 : Int32)) + (1 : Int32)) + (1 : Int32))), .val (.ref w2)] [])) _
    refine XS.aloadN X4.here hx rfl (hb hby d1_14) rfl rfl ?_
    show Steps p.tables e below (T4.setTop (mkF m 15 #[.val (.int (10 : Int32)), .val (.ref h0.size), .val (.int (10 : Int32)), .val (.int ((((0 : Int32) + (1 : Int32)) + (1 : Int32)) + (1 : Int32))), .val (.ref w2)] [(.ref h0.size)])) _
    refine XS.iloadN X4.here hx rfl (hb hby d1_15) rfl ?_
    show Steps p.tables e below (T4.setTop (mkF m 16 #[.val (.int (10 : Int32)), .val (.ref h0.size), .val (.int (10 : Int32)), .val (.int ((((0 : Int32) + (1 : Int32)) + (1 : Int32)) + (1 : Int32))), .val (.ref w2)] [(.int ((((0 : Int32) + (1 : Int32)) + (1 : Int32)) + (1 : Int32))), (.ref h0.size)])) _
    refine X4.aaload hx (j := ((((0 : Int32) + (1 : Int32)) + (1 : Int32)) + (1 : Int32))) (v := (.ref w3)) (by rw [e4]; exact Ar.1) (State.isArrayOf_alike hZ.alike Ar.2.1) rfl Ar.2.2 (inb_of Sz ⟨by decide, by decide⟩) (H.at (inb_of Sz ⟨by decide, by decide⟩) rfl) (g := (mkF m 16 #[.val (.int (10 : Int32)), .val (.ref h0.size), .val (.int (10 : Int32)), .val (.int ((((0 : Int32) + (1 : Int32)) + (1 : Int32)) + (1 : Int32))), .val (.ref w2)] [(.int ((((0 : Int32) + (1 : Int32)) + (1 : Int32)) + (1 : Int32))), (.ref h0.size)])) rfl rfl (hb hby d1_16) _ ?_
    show Steps p.tables e below (T4.setTop (mkF m 17 #[.val (.int (10 : Int32)), .val (.ref h0.size), .val (.int (10 : Int32)), .val (.int ((((0 : Int32) + (1 : Int32)) + (1 : Int32)) + (1 : Int32))), .val (.ref w2)] [(.ref w3)])) _
    refine XS.astore X4.here hx rfl (hb hby d1_17) rfl rfl (l' := #[.val (.int (10 : Int32)), .val (.ref h0.size), .val (.int (10 : Int32)), .val (.int ((((0 : Int32) + (1 : Int32)) + (1 : Int32)) + (1 : Int32))), .val (.ref w3)]) rfl ?_
    show Steps p.tables e below (T4.setTop (mkF m 19 #[.val (.int (10 : Int32)), .val (.ref h0.size), .val (.int (10 : Int32)), .val (.int ((((0 : Int32) + (1 : Int32)) + (1 : Int32)) + (1 : Int32))), .val (.ref w3)] [])) _
    refine XS.aload X4.here hx rfl (hb hby d1_19) rfl rfl ?_
    show Steps p.tables e below (T4.setTop (mkF m 21 #[.val (.int (10 : Int32)), .val (.ref h0.size), .val (.int (10 : Int32)), .val (.int ((((0 : Int32) + (1 : Int32)) + (1 : Int32)) + (1 : Int32))), .val (.ref w3)] [(.ref w3)])) _
    refine st5 _ ?_
    show Steps p.tables e below (T5.setTop (mkF m 24 #[.val (.int (10 : Int32)), .val (.ref h0.size), .val (.int (10 : Int32)), .val (.int ((((0 : Int32) + (1 : Int32)) + (1 : Int32)) + (1 : Int32))), .val (.ref w3)] [(.int (4 : Int32))])) _
    refine XS.iloadN X5.here hx rfl (hb hby d1_24) rfl ?_
    show Steps p.tables e below (T5.setTop (mkF m 25 #[.val (.int (10 : Int32)), .val (.ref h0.size), .val (.int (10 : Int32)), .val (.int ((((0 : Int32) + (1 : Int32)) + (1 : Int32)) + (1 : Int32))), .val (.ref w3)] [(.int (10 : Int32)), (.int (4 : Int32))])) _
    refine XS.icmpYes X5.here hx rfl (pc0 := 25) (pc' := 31) rfl (hb hby d1_25) rfl (feq (by decide +kernel)).2 (by decide) (by decide) ?_
    show Steps p.tables e below (T5.setTop (mkF m 31 #[.val (.int (10 : Int32)), .val (.ref h0.size), .val (.int (10 : Int32)), .val (.int ((((0 : Int32) + (1 : Int32)) + (1 : Int32)) + (1 : Int32))), .val (.ref w3)] [])) _
    refine XS.iinc X5.here hx rfl (hb hby d1_31) rfl (l' := #[.val (.int (10 : Int32)), .val (.ref h0.size), .val (.int (10 : Int32)), .val (.int (((((0 : Int32) + (1 : Int32)) + (1 : Int32)) + (1 : Int32)) + (1 : Int32))), .val (.ref w3)]) rfl ?_
    show Steps p.tables e below (T5.setTop (mkF m 34 #[.val (.int (10 : Int32)), .val (.ref h0.size), .val (.int (10 : Int32)), .val (.int (((((0 : Int32) + (1 : Int32)) + (1 : Int32)) + (1 : Int32)) + (1 : Int32))), .val (.ref w3)] [])) _
    refine XS.goto X5.here hx rfl (pc0 := 34) (pc' := 9) rfl (hb hby d1_34) (by decide) (by decide) ?_
    show Steps p.tables e below (T5.setTop (mkF m 9 #[.val (.int (10 : Int32)), .val (.ref h0.size), .val (.int (10 : Int32)), .val (.int (((((0 : Int32) + (1 : Int32)) + (1 : Int32)) + (1 : Int32)) + (1 : Int32))), .val (.ref w3)] [])) _
    refine XS.iloadN X5.here hx rfl (hb hby d1_9) rfl ?_
    show Steps p.tables e below (T5.setTop (mkF m 10 #[.val (.int (10 : Int32)), .val (.ref h0.size), .val (.int (10 : Int32)), .val (.int (((((0 : Int32) + (1 : Int32)) + (1 : Int32)) + (1 : Int32)) + (1 : Int32))), .val (.ref w3)] [(.int (((((0 : Int32) + (1 : Int32)) + (1 : Int32)) + (1 : Int32)) + (1 : Int32)))])) _
    refine XS.iloadN X5.here hx rfl (hb hby d1_10) rfl ?_
    show Steps p.tables e below (T5.setTop (mkF m 11 #[.val (.int (10 : Int32)), .val (.ref h0.size), .val (.int (10 : Int32)), .val (.int (((((0 : Int32) + (1 : Int32)) + (1 : Int32)) + (1 : Int32)) + (1 : Int32))), .val (.ref w3)] [(.int (10 : Int32)), (.int (((((0 : Int32) + (1 : Int32)) + (1 : Int32)) + (1 : Int32)) + (1 : Int32)))])) _
    refine XS.icmpNo X5.here hx rfl (hb hby d1_11) rfl (tlt (by decide +kernel)).2.1 ?_
    show Steps p.tables e below (T5.setTop (mkF m 14 #[.val (.int (10 : Int32)), .val (.ref h0.size), .val (.int (10 : Int32)), .val (.int (((((0 : Int32) + (1 : Int32)) + (1 : Int32)) + (1 : Int32)) + (1 : Int32))), .val (.ref w3)] [])) _
    refine XS.aloadN X5.here hx rfl (hb hby d1_14) rfl rfl ?_
    show Steps p.tables e below (T5.setTop (mkF m 15 #[.val (.int (10 : Int32)), .val (.ref h0.size), .val (.int (10 : Int32)), .val (.int (((((0 : Int32) + (1 : Int32)) + (1 : Int32)) + (1 : Int32)) + (1 : Int32))), .val (.ref w3)] [(.ref h0.size)])) _
    refine XS.iloadN X5.here hx rfl (hb hby d1_15) rfl ?_
    show Steps p.tables e below (T5.setTop (mkF m 16 #[.val (.int (10 : Int32)), .val (.ref h0.size), .val (.int (10 : Int32)), .val (.int (((((0 : Int32) + (1 : Int32)) + (1 : Int32)) + (1 : Int32)) + (1 : Int32))), .val (.ref w3)] [(.int (((((0 : Int32) + (1 : Int32)) + (1 : Int32)) + (1 : Int32)) + (1 : Int32))), (.ref h0.size)])) _
    refine X5.aaload hx (j := (((((0 : Int32) + (1 : Int32)) + (1 : Int32)) + (1 : Int32)) + (1 : Int32))) (v := (.ref w4)) (by rw [e5]; exact Ar.1) (State.isArrayOf_alike hZ.alike Ar.2.1) rfl Ar.2.2 (inb_of Sz ⟨by decide, by decide⟩) (H.at (inb_of Sz ⟨by decide, by decide⟩) rfl) (g := (mkF m 16 #[.val (.int (10 : Int32)), .val (.ref h0.size), .val (.int (10 : Int32)), .val (.int (((((0 : Int32) + (1 : Int32)) + (1 : Int32)) + (1 : Int32)) + (1 : Int32))), .val (.ref w3)] [(.int (((((0 : Int32) + (1 : Int32)) + (1 : Int32)) + (1 : Int32)) + (1 : Int32))), (.ref h0.size)])) rfl rfl (hb hby d1_16) _ ?_
    show Steps p.tables e below (T5.setTop (mkF m 17 #[.val (.int (10 : Int32)), .val (.ref h0.size), .val (.int (10 : Int32)), .val (.int (((((0 : Int32) + (1 : Int32)) + (1 : Int32)) + (1 : Int32)) + (1 : Int32))), .val (.ref w3)] [(.ref w4)])) _
    refine XS.astore X5.here hx rfl (hb hby d1_17) rfl rfl (l' := #[.val (.int (10 : Int32)), .val (.ref h0.size), .val (.int (10 : Int32)), .val (.int (((((0 : Int32) + (1 : Int32)) + (1 : Int32)) + (1 : Int32)) + (1 : Int32))), .val (.ref w4)]) rfl ?_
    show Steps p.tables e below (T5.setTop (mkF m 19 #[.val (.int (10 : Int32)), .val (.ref h0.size), .val (.int (10 : Int32)), .val (.int (((((0 : Int32) + (1 : Int32)) + (1 : Int32)) + (1 : Int32)) + (1 : Int32))), .val (.ref w4)] [])) _
    refine XS.aload X5.here hx rfl (hb hby d1_19) rfl rfl ?_
    show Steps p.tables e below (T5.setTop (mkF m 21 #[.val (.int (10 : Int32)), .val (.ref h0.size), .val (.int (10 : Int32)), .val (.int (((((0 : Int32) + (1 : Int32)) + (1 : Int32)) + (1 : Int32)) + (1 : Int32))), .val (.ref w4)] [(.ref w4)])) _
    refine st6 _ ?_
    show Steps p.tables e below (T6.setTop (mkF m 24 #[.val (.int (10 : Int32)), .val (.ref h0.size), .val (.int (10 : Int32)), .val (.int (((((0 : Int32) + (1 : Int32)) + (1 : Int32)) + (1 : Int32)) + (1 : Int32))), .val (.ref w4)] [(.int (5 : Int32))])) _
    refine XS.iloadN X6.here hx rfl (hb hby d1_24) rfl ?_
    show Steps p.tables e below (T6.setTop (mkF m 25 #[.val (.int (10 : Int32)), .val (.ref h0.size), .val (.int (10 : Int32)), .val (.int (((((0 : Int32) + (1 : Int32)) + (1 : Int32)) + (1 : Int32)) + (1 : Int32))), .val (.ref w4)] [(.int (10 : Int32)), (.int (5 : Int32))])) _
    refine XS.icmpYes X6.here hx rfl (pc0 := 25) (pc' := 31) rfl (hb hby d1_25) rfl (feq (by decide +kernel)).2 (by decide) (by decide) ?_
    show Steps p.tables e below (T6.setTop (mkF m 31 #[.val (.int (10 : Int32)), .val (.ref h0.size), .val (.int (10 : Int32)), .val (.int (((((0 : Int32) + (1 : Int32)) + (1 : Int32)) + (1 : Int32)) + (1 : Int32))), .val (.ref w4)] [])) _
    refine XS.iinc X6.here hx rfl (hb hby d1_31) rfl (l' := #[.val (.int (10 : Int32)), .val (.ref h0.size), .val (.int (10 : Int32)), .val (.int ((((((0 : Int32) + (1 : Int32)) + (1 : Int32)) + (1 : Int32)) + (1 : Int32)) + (1 : Int32))), .val (.ref w4)]) rfl ?_
    show Steps p.tables e below (T6.setTop (mkF m 34 #[.val (.int (10 : Int32)), .val (.ref h0.size), .val (.int (10 : Int32)), .val (.int ((((((0 : Int32) + (1 : Int32)) + (1 : Int32)) + (1 : Int32)) + (1 : Int32)) + (1 : Int32))), .val (.ref w4)] [])) _
    refine XS.goto X6.here hx rfl (pc0 := 34) (pc' := 9) rfl (hb hby d1_34) (by decide) (by decide) ?_
    show Steps p.tables e below (T6.setTop (mkF m 9 #[.val (.int (10 : Int32)), .val (.ref h0.size), .val (.int (10 : Int32)), .val (.int ((((((0 : Int32) + (1 : Int32)) + (1 : Int32)) + (1 : Int32)) + (1 : Int32)) + (1 : Int32))), .val (.ref w4)] [])) _
    refine XS.iloadN X6.here hx rfl (hb hby d1_9) rfl ?_
    show Steps p.tables e below (T6.setTop (mkF m 10 #[.val (.int (10 : Int32)), .val (.ref h0.size), .val (.int (10 : Int32)), .val (.int ((((((0 : Int32) + (1 : Int32)) + (1 : Int32)) + (1 : Int32)) + (1 : Int32)) + (1 : Int32))), .val (.ref w4)] [(.int ((((((0 : Int32) + (1 : Int32)) + (1 : Int32)) + (1 : Int32)) + (1 : Int32)) + (1 : Int32)))])) _
    refine XS.iloadN X6.here hx rfl (hb hby d1_10) rfl ?_
    show Steps p.tables e below (T6.setTop (mkF m 11 #[.val (.int (10 : Int32)), .val (.ref h0.size), .val (.int (10 : Int32)), .val (.int ((((((0 : Int32) + (1 : Int32)) + (1 : Int32)) + (1 : Int32)) + (1 : Int32)) + (1 : Int32))), .val (.ref w4)] [(.int (10 : Int32)), (.int ((((((0 : Int32) + (1 : Int32)) + (1 : Int32)) + (1 : Int32)) + (1 : Int32)) + (1 : Int32)))])) _
    refine XS.icmpNo X6.here hx rfl (hb hby d1_11) rfl (tlt (by decide +kernel)).2.1 ?_
    show Steps p.tables e below (T6.setTop (mkF m 14 #[.val (.int (10 : Int32)), .val (.ref h0.size), .val (.int (10 : Int32)), .val (.int ((((((0 : Int32) + (1 : Int32)) + (1 : Int32)) + (1 : Int32)) + (1 : Int32)) + (1 : Int32))), .val (.ref w4)] [])) _
    refine XS.aloadN X6.here hx rfl (hb hby d1_14) rfl rfl ?_
    show Steps p.tables e below (T6.setTop (mkF m 15 #[.val (.int (10 : Int32)), .val (.ref h0.size), .val (.int (10 : Int32)), .val (.int ((((((0 : Int32) + (1 : Int32)) + (1 : Int32)) + (1 : Int32)) + (1 : Int32)) + (1 : Int32))), .val (.ref w4)] [(.ref h0.size)])) _
    refine XS.iloadN X6.here hx rfl (hb hby d1_15) rfl ?_
    show Steps p.tables e below (T6.setTop (mkF m 16 #[.val (.int (10 : Int32)), .val (.ref h0.size), .val (.int (10 : Int32)), .val (.int ((((((0 : Int32) + (1 : Int32)) + (1 : Int32)) + (1 : Int32)) + (1 : Int32)) + (1 : Int32))), .val (.ref w4)] [(.int ((((((0 : Int32) + (1 : Int32)) + (1 : Int32)) + (1 : Int32)) + (1 : Int32)) + (1 : Int32))), (.ref h0.size)])) _
    refine X6.aaload hx (j := ((((((0 : Int32) + (1 : Int32)) + (1 : Int32)) + (1 : Int32)) + (1 : Int32)) + (1 : Int32))) (v := (.ref w5)) (by rw [e6]; exact Ar.1) (State.isArrayOf_alike hZ.alike Ar.2.1) rfl Ar.2.2 (inb_of Sz ⟨by decide, by decide⟩) (H.at (inb_of Sz ⟨by decide, by decide⟩) rfl) (g := (mkF m 16 #[.val (.int (10 : Int32)), .val (.ref h0.size), .val (.int (10 : Int32)), .val (.int ((((((0 : Int32) + (1 : Int32)) + (1 : Int32)) + (1 : Int32)) + (1 : Int32)) + (1 : Int32))), .val (.ref w4)] [(.int ((((((0 : Int32) + (1 : Int32)) + (1 : Int32)) + (1 : Int32)) + (1 : Int32)) + (1 : Int32))), (.ref h0.size)])) rfl rfl (hb hby d1_16) _ ?_
    show Steps p.tables e below (T6.setTop (mkF m 17 #[.val (.int (10 : Int32)), .val (.ref h0.size), .val (.int (10 : Int32)), .val (.int ((((((0 : Int32) + (1 : Int32)) + (1 : Int32)) + (1 : Int32)) + (1 : Int32)) + (1 : Int32))), .val (.ref w4)] [(.ref w5)])) _
    refine XS.astore X6.here hx rfl (hb hby d1_17) rfl rfl (l' := #[.val (.int (10 : Int32)), .val (.ref h0.size), .val (.int (10 : Int32)), .val (.int ((((((0 : Int32) + (1 : Int32)) + (1 : Int32)) + (1 : Int32)) + (1 : Int32)) + (1 : Int32))), .val (.ref w5)]) rfl ?_
    show Steps p.tables e below (T6.setTop (mkF m 19 #[.val (.int (10 : Int32)), .val (.ref h0.size), .val (.int (10 : Int32)), .val (.int ((((((0 : Int32) + (1 : Int32)) + (1 : Int32)) + (1 : Int32)) + (1 : Int32)) + (1 : Int32))), .val (.ref w5)] [])) _
    refine XS.aload X6.here hx rfl (hb hby d1_19) rfl rfl ?_
    show Steps p.tables e below (T6.setTop (mkF m 21 #[.val (.int (10 : Int32)), .val (.ref h0.size), .val (.int (10 : Int32)), .val (.int ((((((0 : Int32) + (1 : Int32)) + (1 : Int32)) + (1 : Int32)) + (1 : Int32)) + (1 : Int32))), .val (.ref w5)] [(.ref w5)])) _
    refine st7 _ ?_
    show Steps p.tables e below (T7.setTop (mkF m 24 #[.val (.int (10 : Int32)), .val (.ref h0.size), .val (.int (10 : Int32)), .val (.int ((((((0 : Int32) + (1 : Int32)) + (1 : Int32)) + (1 : Int32)) + (1 : Int32)) + (1 : Int32))), .val (.ref w5)] [(.int (6 : Int32))])) _
    refine XS.iloadN X7.here hx rfl (hb hby d1_24) rfl ?_
    show Steps p.tables e below (T7.setTop (mkF m 25 #[.val (.int (10 : Int32)), .val (.ref h0.size), .val (.int (10 : Int32)), .val (.int ((((((0 : Int32) + (1 : Int32)) + (1 : Int32)) + (1 : Int32)) + (1 : Int32)) + (1 : Int32))), .val (.ref w5)] [(.int (10 : Int32)), (.int (6 : Int32))])) _
    refine XS.icmpYes X7.here hx rfl (pc0 := 25) (pc' := 31) rfl (hb hby d1_25) rfl (feq (by decide +kernel)).2 (by decide) (by decide) ?_
    show Steps p.tables e below (T7.setTop (mkF m 31 #[.val (.int (10 : Int32)), .val (.ref h0.size), .val (.int (10 : Int32)), .val (.int ((((((0 : Int32) + (1 : Int32)) + (1 : Int32)) + (1 : Int32)) + (1 : Int32)) + (1 : Int32))), .val (.ref w5)] [])) _
    refine XS.iinc X7.here hx rfl (hb hby d1_31) rfl (l' := #[.val (.int (10 : Int32)), .val (.ref h0.size), .val (.int (10 : Int32)), .val (.int (((((((0 : Int32) + (1 : Int32)) + (1 : Int32)) + (1 : Int32)) + (1 : Int32)) + (1 : Int32)) + (1 : Int32))), .val (.ref w5)]) rfl ?_
    show Steps p.tables e below (T7.setTop (mkF m 34 #[.val (.int (10 : Int32)), .val (.ref h0.size), .val (.int (10 : Int32)), .val (.int (((((((0 : Int32) + (1 : Int32)) + (1 : Int32)) + (1 : Int32)) + (1 : Int32)) + (1 : Int32)) + (1 : Int32))), .val (.ref w5)] [])) _
    refine XS.goto X7.here hx rfl (pc0 := 34) (pc' := 9) rfl (hb hby d1_34) (by decide) (by decide) ?_
    show Steps p.tables e below (T7.setTop (mkF m 9 #[.val (.int (10 : Int32)), .val (.ref h0.size), .val (.int (10 : Int32)), .val (.int (((((((0 : Int32) + (1 : Int32)) + (1 : Int32)) + (1 : Int32)) + (1 : Int32)) + (1 : Int32)) + (1 : Int32))), .val (.ref w5)] [])) _
    refine XS.iloadN X7.here hx rfl (hb hby d1_9) rfl ?_
    show Steps p.tables e below (T7.setTop (mkF m 10 #[.val (.int (10 : Int32)), .val (.ref h0.size), .val (.int (10 : Int32)), .val (.int (((((((0 : Int32) + (1 : Int32)) + (1 : Int32)) + (1 : Int32)) + (1 : Int32)) + (1 : Int32)) + (1 : Int32))), .val (.ref w5)] [(.int (((((((0 : Int32) + (1 : Int32)) + (1 : Int32)) + (1 : Int32)) + (1 : Int32)) + (1 : Int32)) + (1 : Int32)))])) _
    refine XS.iloadN X7.here hx rfl (hb hby d1_10) rfl ?_
    show Steps p.tables e below (T7.setTop (mkF m 11 #[.val (.int (10 : Int32)), .val (.ref h0.size), .val (.int (10 : Int32)), .val (.int (((((((0 : Int32) + (1 : Int32)) + (1 : Int32)) + (1 : Int32)) + (1 : Int32)) + (1 : Int32)) + (1 : Int32))), .val (.ref w5)] [(.int (10 : Int32)), (.int (((((((0 : Int32) + (1 : Int32)) + (1 : Int32)) + (1 : Int32)) + (1 : Int32)) + (1 : Int32)) + (1 : Int32)))])) _
    refine XS.icmpNo X7.here hx rfl (hb hby d1_11) rfl (tlt (by decide +kernel)).2.1 ?_
    show Steps p.tables e below (T7.setTop (mkF m 14 #[.val (.int (10 : Int32)), .val (.ref h0.size), .val (.int (10 : Int32)), .val (.int (((((((0 : Int32) + (1 : Int32)) + (1 : Int32)) + (1 : Int32)) + (1 : Int32)) + (1 : Int32)) + (1 : Int32))), .val (.ref w5)] [])) _
    refine XS.aloadN X7.here hx rfl (hb hby d1_14) rfl rfl ?_
    show Steps p.tables e below (T7.setTop (mkF m 15 #[.val (.int (10 : Int32)), .val (.ref h0.size), .val (.int (10 : Int32)), .val (.int (((((((0 : Int32) + (1 : Int32)) + (1 : Int32)) + (1 : Int32)) + (1 : Int32)) + (1 : Int32)) + (1 : Int32))), .val (.ref w5)] [(.ref h0.size)])) _
    refine XS.iloadN X7.here hx rfl (hb hby d1_15) rfl ?_
    show Steps p.tables e below (T7.setTop (mkF m 16 #[.val (.int (10 : Int32)), .val (.ref h0.size), .val (.int (10 : Int32)), .val (.int (((((((0 : Int32) + (1 : Int32)) + (1 : Int32)) + (1 : Int32)) + (1 : Int32)) + (1 : Int32)) + (1 : Int32))), .val (.ref w5)] [(.int (((((((0 : Int32) + (1 : Int32)) + (1 : Int32)) + (1 : Int32)) + (1 : Int32)) + (1 : Int32)) + (1 : Int32))), (.ref h0.size)])) _
    refine X7.aaload hx (j := (((((((0 : Int32) + (1 : Int32)) + (1 : Int32)) + (1 : Int32)) + (1 : Int32)) + (1 : Int32)) + (1 : Int32))) (v := (.ref w6)) (by rw [e7]; exact Ar.1) (State.isArrayOf_alike hZ.alike Ar.2.1) rfl Ar.2.2 (inb_of Sz ⟨by decide, by decide⟩) (H.at (inb_of Sz ⟨by decide, by decide⟩) rfl) (g := (mkF m 16 #[.val (.int (10 : Int32)), .val (.ref h0.size), .val (.int (10 : Int32)), .val (.int (((((((0 : Int32) + (1 : Int32)) + (1 : Int32)) + (1 : Int32)) + (1 : Int32)) + (1 : Int32)) + (1 : Int32))), .val (.ref w5)] [(.int (((((((0 : Int32) + (1 : Int32)) + (1 : Int32)) + (1 : Int32)) + (1 : Int32)) + (1 : Int32)) + (1 : Int32))), (.ref h0.size)])) rfl rfl (hb hby d1_16) _ ?_
    show Steps p.tables e below (T7.setTop (mkF m 17 #[.val (.int (10 : Int32)), .val (.ref h0.size), .val (.int (10 : Int32)), .val (.int (((((((0 : Int32) + (1 : Int32)) + (1 : Int32)) + (1 : Int32)) + (1 : Int32)) + (1 : Int32)) + (1 : Int32))), .val (.ref w5)] [(.ref w6)])) _
    refine XS.astore X7.here hx rfl (hb hby d1_17) rfl rfl (l' := #[.val (.int (10 : Int32)), .val (.ref h0.size), .val (.int (10 : Int32)), .val (.int (((((((0 : Int32) + (1 : Int32)) + (1 : Int32)) + (1 : Int32)) + (1 : Int32)) + (1 : Int32)) + (1 : Int32))), .val (.ref w6)]) rfl ?_
    show Steps p.tables e below (T7.setTop (mkF m 19 #[.val (.int (10 : Int32)), .val (.ref h0.size), .val (.int (10 : Int32)), .val (.int (((((((0 : Int32) + (1 : Int32)) + (1 : Int32)) + (1 : Int32)) + (1 : Int32)) + (1 : Int32)) + (1 : Int32))), .val (.ref w6)] [])) _
    refine XS.aload X7.here hx rfl (hb hby d1_19) rfl rfl ?_
    show Steps p.tables e below (T7.setTop (mkF m 21 #[.val (.int (10 : Int32)), .val (.ref h0.size), .val (.int (10 : Int32)), .val (.int (((((((0 : Int32) + (1 : Int32)) + (1 : Int32)) + (1 : Int32)) + (1 : Int32)) + (1 : Int32)) + (1 : Int32))), .val (.ref w6)] [(.ref w6)])) _
    refine st8 _ ?_
    show Steps p.tables e below (T8.setTop (mkF m 24 #[.val (.int (10 : Int32)), .val (.ref h0.size), .val (.int (10 : Int32)), .val (.int (((((((0 : Int32) + (1 : Int32)) + (1 : Int32)) + (1 : Int32)) + (1 : Int32)) + (1 : Int32)) + (1 : Int32))), .val (.ref w6)] [(.int (7 : Int32))])) _
    refine XS.iloadN X8.here hx rfl (hb hby d1_24) rfl ?_
    show Steps p.tables e below (T8.setTop (mkF m 25 #[.val (.int (10 : Int32)), .val (.ref h0.size), .val (.int (10 : Int32)), .val (.int (((((((0 : Int32) + (1 : Int32)) + (1 : Int32)) + (1 : Int32)) + (1 : Int32)) + (1 : Int32)) + (1 : Int32))), .val (.ref w6)] [(.int (10 : Int32)), (.int (7 : Int32))])) _
    refine XS.icmpYes X8.here hx rfl (pc0 := 25) (pc' := 31) rfl (hb hby d1_25) rfl (feq (by decide +kernel)).2 (by decide) (by decide) ?_
    show Steps p.tables e below (T8.setTop (mkF m 31 #[.val (.int (10 : Int32)), .val (.ref h0.size), .val (.int (10 : Int32)), .val (.int (((((((0 : Int32) + (1 : Int32)) + (1 : Int32)) + (1 : Int32)) + (1 : Int32)) + (1 : Int32)) + (1 : Int32))), .val (.ref w6)] [])) _
    refine XS.iinc X8.here hx rfl (hb hby d1_31) rfl (l' := #[.val (.int (10 : Int32)), .val (.ref h0.size), .val (.int (10 : Int32)), .val (.int ((((((((0 : Int32) + (1 : Int32)) + (1 : Int32)) + (1 : Int32)) + (1 : Int32)) + (1 : Int32)) + (1 : Int32)) + (1 : Int32))), .val (.ref w6)]) rfl ?_
    show Steps p.tables e below (T8.setTop (mkF m 34 #[.val (.int (10 : Int32)), .val (.ref h0.size), .val (.int (10 : Int32)), .val (.int ((((((((0 : Int32) + (1 : Int32)) + (1 : Int32)) + (1 : Int32)) + (1 : Int32)) + (1 : Int32)) + (1 : Int32)) + (1 : Int32))), .val (.ref w6)] [])) _
    refine XS.goto X8.here hx rfl (pc0 := 34) (pc' := 9) rfl (hb hby d1_34) (by decide) (by decide) ?_
    show Steps p.tables e below (T8.setTop (mkF m 9 #[.val (.int (10 : Int32)), .val (.ref h0.size), .val (.int (10 : Int32)), .val (.int ((((((((0 : Int32) + (1 : Int32)) + (1 : Int32)) + (1 : Int32)) + (1 : Int32)) + (1 : Int32)) + (1 : Int32)) + (1 : Int32))), .val (.ref w6)] [])) _
    refine XS.iloadN X8.here hx rfl (hb hby d1_9) rfl ?_
    show Steps p.tables e below (T8.setTop (mkF m 10 #[.val (.int (10 : Int32)), .val (.ref h0.size), .val (.int (10 : Int32)), .val (.int ((((((((0 : Int32) + (1 : Int32)) + (1 : Int32)) + (1 : Int32)) + (1 : Int32)) + (1 : Int32)) + (1 : Int32)) + (1 : Int32))), .val (.ref w6)] [(.int ((((((((0 : Int32) + (1 : Int32)) + (1 : Int32)) + (1 : Int32)) + (1 : Int32)) + (1 : Int32)) + (1 : Int32)) + (1 : Int32)))])) _
    refine XS.iloadN X8.here hx rfl (hb hby d1_10) rfl ?_
    show Steps p.tables e below (T8.setTop (mkF m 11 #[.val (.int (10 : Int32)), .val (.ref h0.size), .val (.int (10 : Int32)), .val (.int ((((((((0 : Int32) + (1 : Int32)) + (1 : Int32)) + (1 : Int32)) + (1 : Int32)) + (1 : Int32)) + (1 : Int32)) + (1 : Int32))), .val (.ref w6)] [(.int (10 : Int32)), (.int ((((((((0 : Int32) + (1 : Int32)) + (1 : Int32)) + (1 : Int32)) + (1 : Int32)) + (1 : Int32)) + (1 : Int32)) + (1 : Int32)))])) _
    refine XS.icmpNo X8.here hx rfl (hb hby d1_11) rfl (tlt (by decide +kernel)).2.1 ?_
    show Steps p.tables e below (T8.setTop (mkF m 14 #[.val (.int (10 : Int32)), .val (.ref h0.size), .val (.int (10 : Int32)), .val (.int ((((((((0 : Int32) + (1 : Int32)) + (1 : Int32)) + (1 : Int32)) + (1 : Int32)) + (1 : Int32)) + (1 : Int32)) + (1 : Int32))), .val (.ref w6)] [])) _
    refine XS.aloadN X8.here hx rfl (hb hby d1_14) rfl rfl ?_
    show Steps p.tables e below (T8.setTop (mkF m 15 #[.val (.int (10 : Int32)), .val (.ref h0.size), .val (.int (10 : Int32)), .val (.int ((((((((0 : Int32) + (1 : Int32)) + (1 : Int32)) + (1 : Int32)) + (1 : Int32)) + (1 : Int32)) + (1 : Int32)) + (1 : Int32))), .val (.ref w6)] [(.ref h0.size)])) _
    refine XS.iloadN X8.here hx rfl (hb hby d1_15) rfl ?_
    show Steps p.tables e below (T8.setTop (mkF m 16 #[.val (.int (10 : Int32)), .val (.ref h0.size), .val (.int (10 : Int32)), .val (.int ((((((((0 : Int32) + (1 : Int32)) + (1 : Int32)) + (1 : Int32)) + (1 : Int32)) + (1 : Int32)) + (1 : Int32)) + (1 : Int32))), .val (.ref w6)] [(.int ((((((((0 : Int32) + (1 : Int32)) + (1 : Int32)) + (1 : Int32)) + (1 : Int32)) + (1 : Int32)) + (1 : Int32)) + (1 : Int32))), (.ref h0.size)])) _
    refine X8.aaload hx (j := ((((((((0 : Int32) + (1 : Int32)) + (1 : Int32)) + (1 : Int32)) + (1 : Int32)) + (1 : Int32)) + (1 : Int32)) + (1 : Int32))) (v := (.ref w7)) (by rw [e8]; exact Ar.1) (State.isArrayOf_alike hZ.alike Ar.2.1) rfl Ar.2.2 (inb_of Sz ⟨by decide, by decide⟩) (H.at (inb_of Sz ⟨by decide, by decide⟩) rfl) (g := (mkF m 16 #[.val (.int (10 : Int32)), .val (.ref h0.size), .val (.int (10 : Int32)), .val (.int ((((((((0 : Int32) + (1 : Int32)) + (1 : Int32)) + (1 : Int32)) + (1 : Int32)) + (1 : Int32)) + (1 : Int32)) + (1 : Int32))), .val (.ref w6)] [(.int ((((((((0 : Int32) + (1 : Int32)) + (1 : Int32)) + (1 : Int32)) + (1 : Int32)) + (1 : Int32)) + (1 : Int32)) + (1 : Int32))), (.ref h0.size)])) rfl rfl (hb hby d1_16) _ ?_
    show Steps p.tables e below (T8.setTop (mkF m 17 #[.val (.int (10 : Int32)), .val (.ref h0.size), .val (.int (10 : Int32)), .val (.int ((((((((0 : Int32) + (1 : Int32)) + (1 : Int32)) + (1 : Int32)) + (1 : Int32)) + (1 : Int32)) + (1 : Int32)) + (1 : Int32))), .val (.ref w6)] [(.ref w7)])) _
    refine XS.astore X8.here hx rfl (hb hby d1_17) rfl rfl (l' := #[.val (.int (10 : Int32)), .val (.ref h0.size), .val (.int (10 : Int32)), .val (.int ((((((((0 : Int32) + (1 : Int32)) + (1 : Int32)) + (1 : Int32)) + (1 : Int32)) + (1 : Int32)) + (1 : Int32)) + (1 : Int32))), .val (.ref w7)]) rfl ?_
    show Steps p.tables e below (T8.setTop (mkF m 19 #[.val (.int (10 : Int32)), .val (.ref h0.size), .val (.int (10 : Int32)), .val (.int ((((((((0 : Int32) + (1 : Int32)) + (1 : Int32)) + (1 : Int32)) + (1 : Int32)) + (1 : Int32)) + (1 : Int32)) + (1 : Int32))), .val (.ref w7)] [])) _
    refine XS.aload X8.here hx rfl (hb hby d1_19) rfl rfl ?_
    show Steps p.tables e below (T8.setTop (mkF m 21 #[.val (.int (10 : Int32)), .val (.ref h0.size), .val (.int (10 : Int32)), .val (.int ((((((((0 : Int32) + (1 : Int32)) + (1 : Int32)) + (1 : Int32)) + (1 : Int32)) + (1 : Int32)) + (1 : Int32)) + (1 : Int32))), .val (.ref w7)] [(.ref w7)])) _
    refine st9 _ ?_
    show Steps p.tables e below (T9.setTop (mkF m 24 #[.val (.int (10 : Int32)), .val (.ref h0.size), .val (.int (10 : Int32)), .val (.int ((((((((0 : Int32) + (1 : Int32)) + (1 : Int32)) + (1 : Int32)) + (1 : Int32)) + (1 : Int32)) + (1 : Int32)) + (1 : Int32))), .val (.ref w7)] [(.int (8 : Int32))])) _
    refine XS.iloadN X9.here hx rfl (hb hby d1_24) rfl ?_
    show Steps p.tables e below (T9.setTop (mkF m 25 #[.val (.int (10 : Int32)), .val (.ref h0.size), .val (.int (10 : Int32)), .val (.int ((((((((0 : Int32) + (1 : Int32)) + (1 : Int32)) + (1 : Int32)) + (1 : Int32)) + (1 : Int32)) + (1 : Int32)) + (1 : Int32))), .val (.ref w7)] [(.int (10 : Int32)), (.int (8 : Int32))])) _
    refine XS.icmpYes X9.here hx rfl (pc0 := 25) (pc' := 31) rfl (hb hby d1_25) rfl (feq (by decide +kernel)).2 (by decide) (by decide) ?_
    show Steps p.tables e below (T9.setTop (mkF m 31 #[.val (.int (10 : Int32)), .val (.ref h0.size), .val (.int (10 : Int32)), .val (.int ((((((((0 : Int32) + (1 : Int32)) + (1 : Int32)) + (1 : Int32)) + (1 : Int32)) + (1 : Int32)) + (1 : Int32)) + (1 : Int32))), .val (.ref w7)] [])) _
    refine XS.iinc X9.here hx rfl (hb hby d1_31) rfl (l' := #[.val (.int (10 : Int32)), .val (.ref h0.size), .val (.int (10 : Int32)), .val (.int (((((((((0 : Int32) + (1 : Int32)) + (1 : Int32)) + (1 : Int32)) + (1 : Int32)) + (1 : Int32)) + (1 : Int32)) + (1 : Int32)) + (1 : Int32))), .val (.ref w7)]) rfl ?_
    show Steps p.tables e below (T9.setTop (mkF m 34 #[.val (.int (10 : Int32)), .val (.ref h0.size), .val (.int (10 : Int32)), .val (.int (((((((((0 : Int32) + (1 : Int32)) + (1 : Int32)) + (1 : Int32)) + (1 : Int32)) + (1 : Int32)) + (1 : Int32)) + (1 : Int32)) + (1 : Int32))), .val (.ref w7)] [])) _
    refine XS.goto X9.here hx rfl (pc0 := 34) (pc' := 9) rfl (hb hby d1_34) (by decide) (by decide) ?_
    show Steps p.tables e below (T9.setTop (mkF m 9 #[.val (.int (10 : Int32)), .val (.ref h0.size), .val (.int (10 : Int32)), .val (.int (((((((((0 : Int32) + (1 : Int32)) + (1 : Int32)) + (1 : Int32)) + (1 : Int32)) + (1 : Int32)) + (1 : Int32)) + (1 : Int32)) + (1 : Int32))), .val (.ref w7)] [])) _
    refine XS.iloadN X9.here hx rfl (hb hby d1_9) rfl ?_
    show Steps p.tables e below (T9.setTop (mkF m 10 #[.val (.int (10 : Int32)), .val (.ref h0.size), .val (.int (10 : Int32)), .val (.int (((((((((0 : Int32) + (1 : Int32)) + (1 : Int32)) + (1 : Int32)) + (1 : Int32)) + (1 : Int32)) + (1 : Int32)) + (1 : Int32)) + (1 : Int32))), .val (.ref w7)] [(.int (((((((((0 : Int32) + (1 : Int32)) + (1 : Int32)) + (1 : Int32)) + (1 : Int32)) + (1 : Int32)) + (1 : Int32)) + (1 : Int32)) + (1 : Int32)))])) _
    refine XS.iloadN X9.here hx rfl (hb hby d1_10) rfl ?_
    show Steps p.tables e below (T9.setTop (mkF m 11 #[.val (.int (10 : Int32)), .val (.ref h0.size), .val (.int (10 : Int32)), .val (.int (((((((((0 : Int32) + (1 : Int32)) + (1 : Int32)) + (1 : Int32)) + (1 : Int32)) + (1 : Int32)) + (1 : Int32)) + (1 : Int32)) + (1 : Int32))), .val (.ref w7)] [(.int (10 : Int32)), (.int (((((((((0 : Int32) + (1 : Int32)) + (1 : Int32)) + (1 : Int32)) + (1 : Int32)) + (1 : Int32)) + (1 : Int32)) + (1 : Int32)) + (1 : Int32)))])) _
    refine XS.icmpNo X9.here hx rfl (hb hby d1_11) rfl (tlt (by decide +kernel)).2.1 ?_
    show Steps p.tables e below (T9.setTop (mkF m 14 #[.val (.int (10 : Int32)), .val (.ref h0.size), .val (.int (10 : Int32)), .val (.int (((((((((0 : Int32) + (1 : Int32)) + (1 : Int32)) + (1 : Int32)) + (1 : Int32)) + (1 : Int32)) + (1 : Int32)) + (1 : Int32)) + (1 : Int32))), .val (.ref w7)] [])) _
    refine XS.aloadN X9.here hx rfl (hb hby d1_14) rfl rfl ?_
    show Steps p.tables e below (T9.setTop (mkF m 15 #[.val (.int (10 : Int32)), .val (.ref h0.size), .val (.int (10 : Int32)), .val (.int (((((((((0 : Int32) + (1 : Int32)) + (1 : Int32)) + (1 : Int32)) + (1 : Int32)) + (1 : Int32)) + (1 : Int32)) + (1 : Int32)) + (1 : Int32))), .val (.ref w7)] [(.ref h0.size)])) _
    refine XS.iloadN X9.here hx rfl (hb hby d1_15) rfl ?_
    show Steps p.tables e below (T9.setTop (mkF m 16 #[.val (.int (10 : Int32)), .val (.ref h0.size), .val (.int (10 : Int32)), .val (.int (((((((((0 : Int32) + (1 : Int32)) + (1 : Int32)) + (1 : Int32)) + (1 : Int32)) + (1 : Int32)) + (1 : Int32)) + (1 : Int32)) + (1 : Int32))), .val (.ref w7)] [(.int (((((((((0 : Int32) + (1 : Int32)) + (1 : Int32)) + (1 : Int32)) + (1 : Int32)) + (1 : Int32)) + (1 : Int32)) + (1 : Int32)) + (1 : Int32))), (.ref h0.size)])) _
    refine X9.aaload hx (j := (((((((((0 : Int32) + (1 : Int32)) + (1 : Int32)) + (1 : Int32)) + (1 : Int32)) + (1 : Int32)) + (1 : Int32)) + (1 : Int32)) + (1 : Int32))) (v := (.ref w8)) (by rw [e9]; exact Ar.1) (State.isArrayOf_alike hZ.alike Ar.2.1) rfl Ar.2.2 (inb_of Sz ⟨by decide, by decide⟩) (H.at (inb_of Sz ⟨by decide, by decide⟩) rfl) (g := (mkF m 16 #[.val (.int (10 : Int32)), .val (.ref h0.size), .val (.int (10 : Int32)), .val (.int (((((((((0 : Int32) + (1 : Int32)) + (1 : Int32)) + (1 : Int32)) + (1 : Int32)) + (1 : Int32)) + (1 : Int32)) + (1 : Int32)) + (1 : Int32))), .val (.ref w7)] [(.int (((((((((0 : Int32) + (1 : Int32)) + (1 : Int32)) + (1 : Int32)) + (1 : Int32)) + (1 : Int32)) + (1 : Int32)) + (1 : Int32)) + (1 : Int32))), (.ref h0.size)])) rfl rfl (hb hby d1_16) _ ?_
    show Steps p.tables e below (T9.setTop (mkF m 17 #[.val (.int (10 : Int32)), .val (.ref h0.size), .val (.int (10 : Int32)), .val (.int (((((((((0 : Int32) + (1 : Int32)) + (1 : Int32)) + (1 : Int32)) + (1 : Int32)) + (1 : Int32)) + (1 : Int32)) + (1 : Int32)) + (1 : Int32))), .val (.ref w7)] [(.ref w8)])) _
    refine XS.astore X9.here hx rfl (hb hby d1_17) rfl rfl (l' := #[.val (.int (10 : Int32)), .val (.ref h0.size), .val (.int (10 : Int32)), .val (.int (((((((((0 : Int32) + (1 : Int32)) + (1 : Int32)) + (1 : Int32)) + (1 : Int32)) + (1 : Int32)) + (1 : Int32)) + (1 : Int32)) + (1 : Int32))), .val (.ref w8)]) rfl ?_
    show Steps p.tables e below (T9.setTop (mkF m 19 #[.val (.int (10 : Int32)), .val (.ref h0.size), .val (.int (10 : Int32)), .val (.int (((((((((0 : Int32) + (1 : Int32)) + (1 : Int32)) + (1 : Int32)) + (1 : Int32)) + (1 : Int32)) + (1 : Int32)) + (1 : Int32)) + (1 : Int32))), .val (.ref w8)] [])) _
    refine XS.aload X9.here hx rfl (hb hby d1_19) rfl rfl ?_
    show Steps p.tables e below (T9.setTop (mkF m 21 #[.val (.int (10 : Int32)), .val (.ref h0.size), .val (.int (10 : Int32)), .val (.int (((((((((0 : Int32) + (1 : Int32)) + (1 : Int32)) + (1 : Int32)) + (1 : Int32)) + (1 : Int32)) + (1 : Int32)) + (1 : Int32)) + (1 : Int32))), .val (.ref w8)] [(.ref w8)])) _
    refine st10 _ ?_
    show Steps p.tables e below (T10.setTop (mkF m 24 #[.val (.int (10 : Int32)), .val (.ref h0.size), .val (.int (10 : Int32)), .val (.int (((((((((0 : Int32) + (1 : Int32)) + (1 : Int32)) + (1 : Int32)) + (1 : Int32)) + (1 : Int32)) + (1 : Int32)) + (1 : Int32)) + (1 : Int32))), .val (.ref w8)] [(.int (9 : Int32))])) _
    refine XS.iloadN X10.here hx rfl (hb hby d1_24) rfl ?_
    show Steps p.tables e below (T10.setTop (mkF m 25 #[.val (.int (10 : Int32)), .val (.ref h0.size), .val (.int (10 : Int32)), .val (.int (((((((((0 : Int32) + (1 : Int32)) + (1 : Int32)) + (1 : Int32)) + (1 : Int32)) + (1 : Int32)) + (1 : Int32)) + (1 : Int32)) + (1 : Int32))), .val (.ref w8)] [(.int (10 : Int32)), (.int (9 : Int32))])) _
    refine XS.icmpYes X10.here hx rfl (pc0 := 25) (pc' := 31) rfl (hb hby d1_25) rfl (feq (by decide +kernel)).2 (by decide) (by decide) ?_
    show Steps p.tables e below (T10.setTop (mkF m 31 #[.val (.int (10 : Int32)), .val (.ref h0.size), .val (.int (10 : Int32)), .val (.int (((((((((0 : Int32) + (1 : Int32)) + (1 : Int32)) + (1 : Int32)) + (1 : Int32)) + (1 : Int32)) + (1 : Int32)) + (1 : Int32)) + (1 : Int32))), .val (.ref w8)] [])) _
    refine XS.iinc X10.here hx rfl (hb hby d1_31) rfl (l' := #[.val (.int (10 : Int32)), .val (.ref h0.size), .val (.int (10 : Int32)), .val (.int ((((((((((0 : Int32) + (1 : Int32)) + (1 : Int32)) + (1 : Int32)) + (1 : Int32)) + (1 : Int32)) + (1 : Int32)) + (1 : Int32)) + (1 : Int32)) + (1 : Int32))), .val (.ref w8)]) rfl ?_
    show Steps p.tables e below (T10.setTop (mkF m 34 #[.val (.int (10 : Int32)), .val (.ref h0.size), .val (.int (10 : Int32)), .val (.int ((((((((((0 : Int32) + (1 : Int32)) + (1 : Int32)) + (1 : Int32)) + (1 : Int32)) + (1 : Int32)) + (1 : Int32)) + (1 : Int32)) + (1 : Int32)) + (1 : Int32))), .val (.ref w8)] [])) _
    refine XS.goto X10.here hx rfl (pc0 := 34) (pc' := 9) rfl (hb hby d1_34) (by decide) (by decide) ?_
    show Steps p.tables e below (T10.setTop (mkF m 9 #[.val (.int (10 : Int32)), .val (.ref h0.size), .val (.int (10 : Int32)), .val (.int ((((((((((0 : Int32) + (1 : Int32)) + (1 : Int32)) + (1 : Int32)) + (1 : Int32)) + (1 : Int32)) + (1 : Int32)) + (1 : Int32)) + (1 : Int32)) + (1 : Int32))), .val (.ref w8)] [])) _
    refine XS.iloadN X10.here hx rfl (hb hby d1_9) rfl ?_
    show Steps p.tables e below (T10.setTop (mkF m 10 #[.val (.int (10 : Int32)), .val (.ref h0.size), .val (.int (10 : Int32)), .val (.int ((((((((((0 : Int32) + (1 : Int32)) + (1 : Int32)) + (1 : Int32)) + (1 : Int32)) + (1 : Int32)) + (1 : Int32)) + (1 : Int32)) + (1 : Int32)) + (1 : Int32))), .val (.ref w8)] [(.int ((((((((((0 : Int32) + (1 : Int32)) + (1 : Int32)) + (1 : Int32)) + (1 : Int32)) + (1 : Int32)) + (1 : Int32)) + (1 : Int32)) + (1 : Int32)) + (1 : Int32)))])) _
    refine XS.iloadN X10.here hx rfl (hb hby d1_10) rfl ?_
    show Steps p.tables e below (T10.setTop (mkF m 11 #[.val (.int (10 : Int32)), .val (.ref h0.size), .val (.int (10 : Int32)), .val (.int ((((((((((0 : Int32) + (1 : Int32)) + (1 : Int32)) + (1 : Int32)) + (1 : Int32)) + (1 : Int32)) + (1 : Int32)) + (1 : Int32)) + (1 : Int32)) + (1 : Int32))), .val (.ref w8)] [(.int (10 : Int32)), (.int ((((((((((0 : Int32) + (1 : Int32)) + (1 : Int32)) + (1 : Int32)) + (1 : Int32)) + (1 : Int32)) + (1 : Int32)) + (1 : Int32)) + (1 : Int32)) + (1 : Int32)))])) _
    refine XS.icmpNo X10.here hx rfl (hb hby d1_11) rfl (tlt (by decide +kernel)).2.1 ?_
    show Steps p.tables e below (T10.setTop (mkF m 14 #[.val (.int (10 : Int32)), .val (.ref h0.size), .val (.int (10 : Int32)), .val (.int ((((((((((0 : Int32) + (1 : Int32)) + (1 : Int32)) + (1 : Int32)) + (1 : Int32)) + (1 : Int32)) + (1 : Int32)) + (1 : Int32)) + (1 : Int32)) + (1 : Int32))), .val (.ref w8)] [])) _
    refine XS.aloadN X10.here hx rfl (hb hby d1_14) rfl rfl ?_
    show Steps p.tables e below (T10.setTop (mkF m 15 #[.val (.int (10 : Int32)), .val (.ref h0.size), .val (.int (10 : Int32)), .val (.int ((((((((((0 : Int32) + (1 : Int32)) + (1 : Int32)) + (1 : Int32)) + (1 : Int32)) + (1 : Int32)) + (1 : Int32)) + (1 : Int32)) + (1 : Int32)) + (1 : Int32))), .val (.ref w8)] [(.ref h0.size)])) _
    refine XS.iloadN X10.here hx rfl (hb hby d1_15) rfl ?_
    show Steps p.tables e below (T10.setTop (mkF m 16 #[.val (.int (10 : Int32)), .val (.ref h0.size), .val (.int (10 : Int32)), .val (.int ((((((((((0 : Int32) + (1 : Int32)) + (1 : Int32)) + (1 : Int32)) + (1 : Int32)) + (1 : Int32)) + (1 : Int32)) + (1 : Int32)) + (1 : Int32)) + (1 : Int32))), .val (.ref w8)] [(.int ((((((((((0 : Int32) + (1 : Int32)) + (1 : Int32)) + (1 : Int32)) + (1 : Int32)) + (1 : Int32)) + (1 : Int32)) + (1 : Int32)) + (1 : Int32)) + (1 : Int32))), (.ref h0.size)])) _
    refine X10.aaload hx (j := ((((((((((0 : Int32) + (1 : Int32)) + (1 : Int32)) + (1 : Int32)) + (1 : Int32)) + (1 : Int32)) + (1 : Int32)) + (1 : Int32)) + (1 : Int32)) + (1 : Int32))) (v := (.ref w9)) (by rw [e10]; exact Ar.1) (State.isArrayOf_alike hZ.alike Ar.2.1) rfl Ar.2.2 (inb_of Sz ⟨by decide, by decide⟩) (H.at (inb_of Sz ⟨by decide, by decide⟩) rfl) (g := (mkF m 16 #[.val (.int (10 : Int32)), .val (.ref h0.size), .val (.int (10 : Int32)), .val (.int ((((((((((0 : Int32) + (1 : Int32)) + (1 : Int32)) + (1 : Int32)) + (1 : Int32)) + (1 : Int32)) + (1 : Int32)) + (1 : Int32)) + (1 : Int32)) + (1 : Int32))), .val (.ref w8)] [(.int ((((((((((0 : Int32) + (1 : Int32)) + (1 : Int32)) + (1 : Int32)) + (1 : Int32)) + (1 : Int32)) + (1 : Int32)) + (1 : Int32)) + (1 : Int32)) + (1 : Int32))), (.ref h0.size)])) rfl rfl (hb hby d1_16) _ ?_
    show Steps p.tables e below (T10.setTop (mkF m 17 #[.val (.int (10 : Int32)), .val (.ref h0.size), .val (.int (10 : Int32)), .val (.int ((((((((((0 : Int32) + (1 : Int32)) + (1 : Int32)) + (1 : Int32)) + (1 : Int32)) + (1 : Int32)) + (1 : Int32)) + (1 : Int32)) + (1 : Int32)) + (1 : Int32))), .val (.ref w8)] [(.ref w9)])) _
    refine XS.astore X10.here hx rfl (hb hby d1_17) rfl rfl (l' := #[.val (.int (10 : Int32)), .val (.ref h0.size), .val (.int (10 : Int32)), .val (.int ((((((((((0 : Int32) + (1 : Int32)) + (1 : Int32)) + (1 : Int32)) + (1 : Int32)) + (1 : Int32)) + (1 : Int32)) + (1 : Int32)) + (1 : Int32)) + (1 : Int32))), .val (.ref w9)]) rfl ?_
    show Steps p.tables e below (T10.setTop (mkF m 19 #[.val (.int (10 : Int32)), .val (.ref h0.size), .val (.int (10 : Int32)), .val (.int ((((((((((0 : Int32) + (1 : Int32)) + (1 : Int32)) + (1 : Int32)) + (1 : Int32)) + (1 : Int32)) + (1 : Int32)) + (1 : Int32)) + (1 : Int32)) + (1 : Int32))), .val (.ref w9)] [])) _
    refine XS.aload X10.here hx rfl (hb hby d1_19) rfl rfl ?_
    show Steps p.tables e below (T10.setTop (mkF m 21 #[.val (.int (10 : Int32)), .val (.ref h0.size), .val (.int (10 : Int32)), .val (.int ((((((((((0 : Int32) + (1 : Int32)) + (1 : Int32)) + (1 : Int32)) + (1 : Int32)) + (1 : Int32)) + (1 : Int32)) + (1 : Int32)) + (1 : Int32)) + (1 : Int32))), .val (.ref w9)] [(.ref w9)])) _
    refine st11 _ ?_
    show Steps p.tables e below (T11.setTop (mkF m 24 #[.val (.int (10 : Int32)), .val (.ref h0.size), .val (.int (10 : Int32)), .val (.int ((((((((((0 : Int32) + (1 : Int32)) + (1 : Int32)) + (1 : Int32)) + (1 : Int32)) + (1 : Int32)) + (1 : Int32)) + (1 : Int32)) + (1 : Int32)) + (1 : Int32))), .val (.ref w9)] [(.int (10 : Int32))])) _
    refine XS.iloadN X11.here hx rfl (hb hby d1_24) rfl ?_
    show Steps p.tables e below (T11.setTop (mkF m 25 #[.val (.int (10 : Int32)), .val (.ref h0.size), .val (.int (10 : Int32)), .val (.int ((((((((((0 : Int32) + (1 : Int32)) + (1 : Int32)) + (1 : Int32)) + (1 : Int32)) + (1 : Int32)) + (1 : Int32)) + (1 : Int32)) + (1 : Int32)) + (1 : Int32))), .val (.ref w9)] [(.int (10 : Int32)), (.int (10 : Int32))])) _
    refine XS.icmpNo X11.here hx rfl (hb hby d1_25) rfl (teq (by decide +kernel)).2 ?_
    show Steps p.tables e below (T11.setTop (mkF m 28 #[.val (.int (10 : Int32)), .val (.ref h0.size), .val (.int (10 : Int32)), .val (.int ((((((((((0 : Int32) + (1 : Int32)) + (1 : Int32)) + (1 : Int32)) + (1 : Int32)) + (1 : Int32)) + (1 : Int32)) + (1 : Int32)) + (1 : Int32)) + (1 : Int32))), .val (.ref w9)] [])) _
    refine XS.aload X11.here hx rfl (hb hby d1_28) rfl rfl ?_
    show Steps p.tables e below (T11.setTop (mkF m 30 #[.val (.int (10 : Int32)), .val (.ref h0.size), .val (.int (10 : Int32)), .val (.int ((((((((((0 : Int32) + (1 : Int32)) + (1 : Int32)) + (1 : Int32)) + (1 : Int32)) + (1 : Int32)) + (1 : Int32)) + (1 : Int32)) + (1 : Int32)) + (1 : Int32))), .val (.ref w9)] [(.ref w9)])) _
    jvm_step X11.here [X11.here.top, hx, (hb hby d1_30), X11.method', Bd.returns, Value.isRef, FieldType.isReference]
    first | (intro acts; rw [hr _ acts rfl rfl rfl]) | rw [hr _ _ rfl rfl rfl]
    exact Steps.refl _
  · show QO_10 Z vA kA w0 w1 w2 w3 w4 w5 w6 w7 w8 w9 h0 n0 _ T11.heap _
    rw [e11]
    exact ⟨rfl, N1, Ex⟩
def QO_11 (Z : State) (p1 : Int32) (vA : Addr) (kA : ClassId) (w0 w1 w2 w3 w4 w5 w6 w7 w8 w9 : Addr) (h0 : Heap) (n0 : Nat) (v : Option Value) (h : Heap) (L : List Loc) : Prop := v = some (.null) ∧ Fr n0 L ∧ Ext h0 h
set_option maxRecDepth 65536 in
set_option maxHeartbeats 40000000 in
theorem rmO_11 (l : Launch) (Z : State) (a0 : Array Value) (hw : ∀ d ∈ tables_1, d.before a0 Z = true) (ws : List Jvm.Cond) (p1 : Int32) (vA : Addr) (kA : ClassId) (w0 w1 w2 w3 w4 w5 w6 w7 w8 w9 : Addr) (h0 : Heap) (n0 : Nat) (Z0 : n0 ≤ h0.size) (SV : Sta Z h0 "com/example/concordat/concordat/log/LogRecord$Kind" "$VALUES" "[Lcom/example/concordat/concordat/log/LogRecord$Kind;" (.ref vA)) (AV : Arv Z h0 vA kA (.object "com/example/concordat/concordat/log/LogRecord$Kind") 10 [.ref w0, .ref w1, .ref w2, .ref w3, .ref w4, .ref w5, .ref w6, .ref w7, .ref w8, .ref w9] .null) (EV : Exa Z h0 vA "[Lcom/example/concordat/concordat/log/LogRecord$Kind;") (FC0 : Fld Z h0 w0 "com/example/concordat/concordat/log/LogRecord$Kind" "code" "B" (.int (1 : Int32))) (FC1 : Fld Z h0 w1 "com/example/concordat/concordat/log/LogRecord$Kind" "code" "B" (.int (2 : Int32))) (FC2 : Fld Z h0 w2 "com/example/concordat/concordat/log/LogRecord$Kind" "code" "B" (.int (3 : Int32))) (FC3 : Fld Z h0 w3 "com/example/concordat/concordat/log/LogRecord$Kind" "code" "B" (.int (4 : Int32))) (FC4 : Fld Z h0 w4 "com/example/concordat/concordat/log/LogRecord$Kind" "code" "B" (.int (5 : Int32))) (FC5 : Fld Z h0 w5 "com/example/concordat/concordat/log/LogRecord$Kind" "code" "B" (.int (6 : Int32))) (FC6 : Fld Z h0 w6 "com/example/concordat/concordat/log/LogRecord$Kind" "code" "B" (.int (7 : Int32))) (FC7 : Fld Z h0 w7 "com/example/concordat/concordat/log/LogRecord$Kind" "code" "B" (.int (8 : Int32))) (FC8 : Fld Z h0 w8 "com/example/concordat/concordat/log/LogRecord$Kind" "code" "B" (.int (9 : Int32))) (FC9 : Fld Z h0 w9 "com/example/concordat/concordat/log/LogRecord$Kind" "code" "B" (.int (10 : Int32))) (hn1 : ¬ (1 : Int32) = p1) (hn2 : ¬ (2 : Int32) = p1) (hn3 : ¬ (3 : Int32) = p1) (hn4 : ¬ (4 : Int32) = p1) (hn5 : ¬ (5 : Int32) = p1) (hn6 : ¬ (6 : Int32) = p1) (hn7 : ¬ (7 : Int32) = p1) (hn8 : ¬ (8 : Int32) = p1) (hn9 : ¬ (9 : Int32) = p1) (hn10 : ¬ (10 : Int32) = p1) :
    MetFree l (⟨"com/example/concordat/concordat/log/LogRecord$Kind", "of", "(B)Lcom/example/concordat/concordat/log/LogRecord$Kind;"⟩ : MethodName) (head1 (Jvm.Cond.code (⟨"com/example/concordat/concordat/log/LogRecord$Kind", "of", "(B)Lcom/example/concordat/concordat/log/LogRecord$Kind;"⟩ : MethodName) prog_45_method_4_code 5 (some (.object "com/example/concordat/concordat/log/LogRecord$Kind")) :: ws) ({ frames := 2, cells := 1, slots := 10, locals := 25 } : Room)) (fun a U => a = #[(.int p1)] ∧ Z.Warmed39 U.vm ∧ U.heap = h0) (fun _ _ _ _ _ => True) (fun _ U o U' => ∃ v L, o = .returned v ∧ QO_11 Z p1 vA kA w0 w1 w2 w3 w4 w5 w6 w7 w8 w9 h0 n0 v U'.heap L ∧ FrameEnd U o U' L ({ frames := 2, cells := 1, slots := 10, locals := 25 } : Room).cells ({ frames := 2, cells := 1, slots := 10, locals := 25 } : Room).slots) := by
  refine MetFree.of_bodySF (plainFor_of_name pn_LogRecord_Kind) hisR ?_
  intro p e s m args below meth c s₁ Bd hml0 hP hK
  obtain ⟨rfl, hZ, hh⟩ := hP
  have hx := Bd.exec
  have hby := Bd.bytes
  have hml : c.maxLocals = 5 := hml0
  have hown : s.vm.findClass "com/example/concordat/concordat/log/LogRecord$Kind" = some m.cls := findClass_of_methodNamed Bd.named
  have hnm := (name_of_methodNamed Bd.named Bd.method).1
  have X0 : Stand p l e ({ frames := 2, cells := 1, slots := 10, locals := 25 } : Room) s m #[(.int p1)] below meth c s₁ [] 0 0 := Stand.of_body Bd
  have e0 : s₁.heap = h0 := by rw [← hh, Bd.state]; rfl
  have N0 := Fr.nil n0
  have pre0 : ∀ t, Steps p.tables e below (s₁.setTop (mkF m 0 #[.val (.int p1), .unset, .unset, .unset, .unset] [])) t → Steps p.tables e below (s₁.setTop (entryFrame m #[(.int p1)] 5)) t := fun t k => castTop (ef_1 m p1) k
  obtain ⟨_, _, ⟨T1, L1, k1, n1⟩, -, X1, ⟨Lc1, hQ1, l1, y1, z1⟩, st1⟩ := Jvm.LawKit.callS X0 hx (y := (⟨"com/example/concordat/concordat/log/LogRecord$Kind", "values", "()[Lcom/example/concordat/concordat/log/LogRecord$Kind;"⟩ : MethodName)) hown (mvT hZ (hw _ (List.mem_of_getElem? (i := 4) rfl))) (mvT hZ (hw _ (List.mem_of_getElem? (i := 5) rfl))) (mvT hZ (hw _ (List.mem_of_getElem? (i := 2) rfl))) (mvT hZ (hw _ (List.mem_of_getElem? (i := 6) rfl))) (by decide) (backOf (W := 0) (rmV l Z a0 hw [] vA kA w0 w1 w2 w3 w4 w5 w6 w7 w8 w9 h0 n0 Z0 SV AV EV) hZ (hw _ (List.mem_of_getElem? (i := 6) rfl)) (hw _ (List.mem_of_getElem? (i := 2) rfl)) (by decide) (by decide)) (g := (mkF m 0 #[.val (.int p1), .unset, .unset, .unset, .unset] [])) rfl (by rw [hml]; rfl) (argsL := []) (rest := []) (lenOf pd_0 rfl) rfl (by show 2 * 0 + _ ≤ _; exact Nat.le_of_eq rfl) (hb hby d1_0) (fun _ _ => ⟨rfl, e0, (by decide : 0 + 1 ≤ _), (by decide : 0 + 10 ≤ _)⟩)
  dsimp only [Pt.U, Pt.locs, Pt.cells, Pt.slots] at X1 l1 y1 z1 st1 hQ1
  subst l1 y1 z1
  obtain ⟨rfl, N1q, Ex, Av⟩ := hQ1
  have N1 := Fr.app N0 N1q
  obtain ⟨cl, Ar, -, Sz, Mz, H, -⟩ := Av
  obtain ⟨T2, X2, e2, st2⟩ := getF X1 hx hZ hown (host := "") (Or.inl (hw _ (List.mem_of_getElem? (i := 29) rfl))) Via.refl rfl (FC0.ext Ex) (g := (mkF m 21 #[.val (.int p1), .val (.ref h0.size), .val (.int (10 : Int32)), .val (.int (0 : Int32)), .val (.ref w0)] [(.ref w0)])) rfl rfl (hb hby d1_21)
  obtain ⟨T3, X3, e3, st3⟩ := getF X2 hx hZ hown (host := "") (Or.inl (hw _ (List.mem_of_getElem? (i := 29) rfl))) Via.refl e2 (FC1.ext Ex) (g := (mkF m 21 #[.val (.int p1), .val (.ref h0.size), .val (.int (10 : Int32)), .val (.int ((0 : Int32) + (1 : Int32))), .val (.ref w1)] [(.ref w1)])) rfl rfl (hb hby d1_21)
  obtain ⟨T4, X4, e4, st4⟩ := getF X3 hx hZ hown (host := "") (Or.inl (hw _ (List.mem_of_getElem? (i := 29) rfl))) Via.refl e3 (FC2.ext Ex) (g := (mkF m 21 #[.val (.int p1), .val (.ref h0.size), .val (.int (10 : Int32)), .val (.int (((0 : Int32) + (1 : Int32)) + (1 : Int32))), .val (.ref w2)] [(.ref w2)])) rfl rfl (hb hby d1_21)
  obtain ⟨T5, X5, e5, st5⟩ := getF X4 hx hZ hown (host := "") (Or.inl (hw _ (List.mem_of_getElem? (i := 29) rfl))) Via.refl e4 (FC3.ext Ex) (g := (mkF m 21 #[.val (.int p1), .val (.ref h0.size), .val (.int (10 : Int32)), .val (.int ((((0 : Int32) + (1 : Int32)) + (1 : Int32)) + (1 : Int32))), .val (.ref w3)] [(.ref w3)])) rfl rfl (hb hby d1_21)
  obtain ⟨T6, X6, e6, st6⟩ := getF X5 hx hZ hown (host := "") (Or.inl (hw _ (List.mem_of_getElem? (i := 29) rfl))) Via.refl e5 (FC4.ext Ex) (g := (mkF m 21 #[.val (.int p1), .val (.ref h0.size), .val (.int (10 : Int32)), .val (.int (((((0 : Int32) + (1 : Int32)) + (1 : Int32)) + (1 : Int32)) + (1 : Int32))), .val (.ref w4)] [(.ref w4)])) rfl rfl (hb hby d1_21)
  obtain ⟨T7, X7, e7, st7⟩ := getF X6 hx hZ hown (host := "") (Or.inl (hw _ (List.mem_of_getElem? (i := 29) rfl))) Via.refl e6 (FC5.ext Ex) (g := (mkF m 21 #[.val (.int p1), .val (.ref h0.size), .val (.int (10 : Int32)), .val (.int ((((((0 : Int32) + (1 : Int32)) + (1 : Int32)) + (1 : Int32)) + (1 : Int32)) + (1 : Int32))), .val (.ref w5)] [(.ref w5)])) rfl rfl (hb hby d1_21)
  obtain ⟨T8, X8, e8, st8⟩ := getF X7 hx hZ hown (host := "") (Or.inl (hw _ (List.mem_of_getElem? (i := 29) rfl))) Via.refl e7 (FC6.ext Ex) (g := (mkF m 21 #[.val (.int p1), .val (.ref h0.size), .val (.int (10 : Int32)), .val (.int (((((((0 : Int32) + (1 : Int32)) + (1 : Int32)) + (1 : Int32)) + (1 : Int32)) + (1 : Int32)) + (1 : Int32))), .val (.ref w6)] [(.ref w6)])) rfl rfl (hb hby d1_21)
  obtain ⟨T9, X9, e9, st9⟩ := getF X8 hx hZ hown (host := "") (Or.inl (hw _ (List.mem_of_getElem? (i := 29) rfl))) Via.refl e8 (FC7.ext Ex) (g := (mkF m 21 #[.val (.int p1), .val (.ref h0.size), .val (.int (10 : Int32)), .val (.int ((((((((0 : Int32) + (1 : Int32)) + (1 : Int32)) + (1 : Int32)) + (1 : Int32)) + (1 : Int32)) + (1 : Int32)) + (1 : Int32))), .val (.ref w7)] [(.ref w7)])) rfl rfl (hb hby d1_21)
  obtain ⟨T10, X10, e10, st10⟩ := getF X9 hx hZ hown (host := "") (Or.inl (hw _ (List.mem_of_getElem? (i := 29) rfl))) Via.refl e9 (FC8.ext Ex) (g := (mkF m 21 #[.val (.int p1), .val (.ref h0.size), .val (.int (10 : Int32)), .val (.int (((((((((0 : Int32) + (1 : Int32)) + (1 : Int32)) + (1 : Int32)) + (1 : Int32)) + (1 : Int32)) + (1 : Int32)) + (1 : Int32)) + (1 : Int32))), .val (.ref w8)] [(.ref w8)])) rfl rfl (hb hby d1_21)
  obtain ⟨T11, X11, e11, st11⟩ := getF X10 hx hZ hown (host := "") (Or.inl (hw _ (List.mem_of_getElem? (i := 29) rfl))) Via.refl e10 (FC9.ext Ex) (g := (mkF m 21 #[.val (.int p1), .val (.ref h0.size), .val (.int (10 : Int32)), .val (.int ((((((((((0 : Int32) + (1 : Int32)) + (1 : Int32)) + (1 : Int32)) + (1 : Int32)) + (1 : Int32)) + (1 : Int32)) + (1 : Int32)) + (1 : Int32)) + (1 : Int32))), .val (.ref w9)] [(.ref w9)])) rfl rfl (hb hby d1_21)
  obtain ⟨fs, hr, hrun, hended, hW, hsame⟩ := X11.leave (v := some .null) (fun h => by rw [Bd.returns] at h; cases h)
  refine ⟨_, _, pre0 _ ?_, hrun, hended, _, _, rfl, ?_, ⟨_, rfl⟩, hW, hsame.mono (by decide) (by decide)⟩
  · show Steps p.tables e below (s₁.setTop (mkF m 0 #[.val (.int p1), .unset, .unset, .unset, .unset] [])) _
    refine st1 _ ?_
    show Steps p.tables e below (T1.setTop (mkF m 3 #[.val (.int p1), .unset, .unset, .unset, .unset] [(.ref h0.size)])) _
    refine XS.astoreN X1.here hx rfl (hb hby d1_3) rfl rfl (l' := #[.val (.int p1), .val (.ref h0.size), .unset, .unset, .unset]) rfl ?_
    show Steps p.tables e below (T1.setTop (mkF m 4 #[.val (.int p1), .val (.ref h0.size), .unset, .unset, .unset] [])) _
    refine XS.aloadN X1.here hx rfl (hb hby d1_4) rfl rfl ?_
    show Steps p.tables e below (T1.setTop (mkF m 5 #[.val (.int p1), .val (.ref h0.size), .unset, .unset, .unset] [(.ref h0.size)])) _
    refine X1.arraylength hx Ar.1 (State.isArrayOf_alike hZ.alike Ar.2.1) (g := (mkF m 5 #[.val (.int p1), .val (.ref h0.size), .unset, .unset, .unset] [(.ref h0.size)])) rfl rfl (hb hby d1_5) _ ?_
    rw [len_of Sz Mz]
    show Steps p.tables e below (T1.setTop (mkF m 6 #[.val (.int p1), .val (.ref h0.size), .unset, .unset, .unset] [(.int (10 : Int32))])) _
    refine XS.istoreN X1.here hx rfl (hb hby d1_6) rfl (l' := #[.val (.int p1), .val (.ref h0.size), .val (.int (10 : Int32)), .unset, .unset]) rfl ?_
    show Steps p.tables e below (T1.setTop (mkF m 7 #[.val (.int p1), .val (.ref h0.size), .val (.int (10 : Int32)), .unset, .unset] [])) _
    refine XS.iconst X1.here hx rfl (hb hby d1_7) ?_
    show Steps p.tables e below (T1.setTop (mkF m 8 #[.val (.int p1), .val (.ref h0.size), .val (.int (10 : Int32)), .unset, .unset] [(.int (0 : Int32))])) _
    refine XS.istoreN X1.here hx rfl (hb hby d1_8) rfl (l' := #[.val (.int p1), .val (.ref h0.size), .val (.int (10 : Int32)), .val (.int (0 : Int32)), .unset]) rfl ?_
    show Steps p.tables e below (T1.setTop (mkF m 9 #[.val (.int p1), .val (.ref h0.size), .val (.int (10 : Int32)), .val (.int (0 : Int32)), .unset] [])) _
    refine XS.iloadN X1.here hx rfl (hb hby d1_9) rfl ?_
    show Steps p.tables e below (T1.setTop (mkF m 10 #[.val (.int p1), .val (.ref h0.size), .val (.int (10 : Int32)), .val (.int (0 : Int32)), .unset] [(.int (0 : Int32))])) _
    refine XS.iloadN X1.here hx rfl (hb hby d1_10) rfl ?_
    show Steps p.tables e below (T1.setTop (mkF m 11 #[.val (.int p1), .val (.ref h0.size), .val (.int (10 : Int32)), .val (.int (0 : Int32)), .unset] [(.int (10 : Int32)), (.int (0 : Int32))])) _
    refine XS.icmpNo X1.here hx rfl (hb hby d1_11) rfl (tlt (by decide +kernel)).2.1 ?_
    show Steps p.tables e below (T1.setTop (mkF m 14 #[.val (.int p1), .val (.ref h0.size), .val (.int (10 : Int32)), .val (.int (0 : Int32)), .unset] [])) _
    refine XS.aloadN X1.here hx rfl (hb hby d1_14) rfl rfl ?_
    show Steps p.tables e below (T1.setTop (mkF m 15 #[.val (.int p1), .val (.ref h0.size), .val (.int (10 : Int32)), .val (.int (0 : Int32)), .unset] [(.ref h0.size)])) _
    refine XS.iloadN X1.here hx rfl (hb hby d1_15) rfl ?_
    show Steps p.tables e below (T1.setTop (mkF m 16 #[.val (.int p1), .val (.ref h0.size), .val (.int (10 : Int32)), .val (.int (0 : Int32)), .unset] [(.int (0 : Int32)), (.ref h0.size)])) _
    refine X1.aaload hx (j := (0 : Int32)) (v := (.ref w0)) Ar.1 (State.isArrayOf_alike hZ.alike Ar.2.1) rfl Ar.2.2 (inb_of Sz ⟨by decide, by decide⟩) (H.at (inb_of Sz ⟨by decide, by decide⟩) rfl) (g := (mkF m 16 #[.val (.int p1), .val (.ref h0.size), .val (.int (10 : Int32)), .val (.int (0 : Int32)), .unset] [(.int (0 : Int32)), (.ref h0.size)])) rfl rfl (hb hby d1_16) _ ?_
    show Steps p.tables e below (T1.setTop (mkF m 17 #[.val (.int p1), .val (.ref h0.size), .val (.int (10 : Int32)), .val (.int (0 : Int32)), .unset] [(.ref w0)])) _
    refine XS.astore X1.here hx rfl (hb hby d1_17) rfl rfl (l' := #[.val (.int p1), .val (.ref h0.size), .val (.int (10 : Int32)), .val (.int (0 : Int32)), .val (.ref w0)]) rfl ?_
    show Steps p.tables e below (T1.setTop (mkF m 19 #[.val (.int p1), .val (.ref h0.size), .val (.int (10 : Int32)), .val (.int (0 : Int32)), .val (.ref w0)] [])) _
    refine XS.aload X1.here hx rfl (hb hby d1_19) rfl rfl ?_
    show Steps p.tables e below (T1.setTop (mkF m 21 #[.val (.int p1), .val (.ref h0.size), .val (.int (10 : Int32)), .val (.int (0 : Int32)), .val (.ref w0)] [(.ref w0)])) _
    refine st2 _ ?_
    show Steps p.tables e below (T2.setTop (mkF m 24 #[.val (.int p1), .val (.ref h0.size), .val (.int (10 : Int32)), .val (.int (0 : Int32)), .val (.ref w0)] [(.int (1 : Int32))])) _
    refine XS.iloadN X2.here hx rfl (hb hby d1_24) rfl ?_
    show Steps p.tables e below (T2.setTop (mkF m 25 #[.val (.int p1), .val (.ref h0.size), .val (.int (10 : Int32)), .val (.int (0 : Int32)), .val (.ref w0)] [(.int p1), (.int (1 : Int32))])) _
    refine XS.icmpYes X2.here hx rfl (pc0 := 25) (pc' := 31) rfl (hb hby d1_25) rfl (feq hn1).2 (by decide) (by decide) ?_
    show Steps p.tables e below (T2.setTop (mkF m 31 #[.val (.int p1), .val (.ref h0.size), .val (.int (10 : Int32)), .val (.int (0 : Int32)), .val (.ref w0)] [])) _
    refine XS.iinc X2.here hx rfl (hb hby d1_31) rfl (l' := #[.val (.int p1), .val (.ref h0.size), .val (.int (10 : Int32)), .val (.int ((0 : Int32) + (1 : Int32))), .val (.ref w0)]) rfl ?_
    show Steps p.tables e below (T2.setTop (mkF m 34 #[.val (.int p1), .val (.ref h0.size), .val (.int (10 : Int32)), .val (.int ((0 : Int32) + (1 : Int32))), .val (.ref w0)] [])) _
    refine XS.goto X2.here hx rfl (pc0 := 34) (pc' := 9) rfl (hb hby d1_34) (by decide) (by decide) ?_
    show Steps p.tables e below (T2.setTop (mkF m 9 #[.val (.int p1), .val (.ref h0.size), .val (.int (10 : Int32)), .val (.int ((0 : Int32) + (1 : Int32))), .val (.ref w0)] [])) _
    refine XS.iloadN X2.here hx rfl (hb hby d1_9) rfl ?_
    show Steps p.tables e below (T2.setTop (mkF m 10 #[.val (.int p1), .val (.ref h0.size), .val (.int (10 : Int32)), .val (.int ((0 : Int32) + (1 : Int32))), .val (.ref w0)] [(.int ((0 : Int32) + (1 : Int32)))])) _
    refine XS.iloadN X2.here hx rfl (hb hby d1_10) rfl ?_
    show Steps p.tables e below (T2.setTop (mkF m 11 #[.val (.int p1), .val (.ref h0.size), .val (.int (10 : Int32)), .val (.int ((0 : Int32) + (1 : Int32))), .val (.ref w0)] [(.int (10 : Int32)), (.int ((0 : Int32) + (1 : Int32)))])) _
    refine XS.icmpNo X2.here hx rfl (hb hby d1_11) rfl (tlt (by decide +kernel)).2.1 ?_
    show Steps p.tables e below (T2.setTop (mkF m 14 #[.val (.int p1), .val (.ref h0.size), .val (.int (10 : Int32)), .val (.int ((0 : Int32) + (1 : Int32))), .val (.ref w0)] [])) _
    refine XS.aloadN X2.here hx rfl (hb hby d1_14) rfl rfl ?_
    show Steps p.tables e below (T2.setTop (mkF m 15 #[.val (.int p1), .val (.ref h0.size), .val (.int (10 : Int32)), .val (.int ((0 : Int32) + (1 : Int32))), .val (.ref w0)] [(.ref h0.size)])) _
    refine XS.iloadN X2.here hx rfl (hb hby d1_15) rfl ?_
    show Steps p.tables e below (T2.setTop (mkF m 16 #[.val (.int p1), .val (.ref h0.size), .val (.int (10 : Int32)), .val (.int ((0 : Int32) + (1 : Int32))), .val (.ref w0)] [(.int ((0 : Int32) + (1 : Int32))), (.ref h0.size)])) _
    refine X2.aaload hx (j := ((0 : Int32) + (1 : Int32))) (v := (.ref w1)) (by rw [e2]; exact Ar.1) (State.isArrayOf_alike hZ.alike Ar.2.1) rfl Ar.2.2 (inb_of Sz ⟨by decide, by decide⟩) (H.at (inb_of Sz ⟨by decide, by decide⟩) rfl) (g := (mkF m 16 #[.val (.int p1), .val (.ref h0.size), .val (.int (10 : Int32)), .val (.int ((0 : Int32) + (1 : Int32))), .val (.ref w0)] [(.int ((0 : Int32) + (1 : Int32))), (.ref h0.size)])) rfl rfl (hb hby d1_16) _ ?_
    show Steps p.tables e below (T2.setTop (mkF m 17 #[.val (.int p1), .val (.ref h0.size), .val (.int (10 : Int32)), .val (.int ((0 : Int32) + (1 : Int32))), .val (.ref w0)] [(.ref w1)])) _
    refine XS.astore X2.here hx rfl (hb hby d1_17) rfl rfl (l' := #[.val (.int p1), .val (.ref h0.size), .val (.int (10 : Int32)), .val (.int ((0 : Int32) + (1 : Int32))), .val (.ref w1)]) rfl ?_
    show Steps p.tables e below (T2.setTop (mkF m 19 #[.val (.int p1), .val (.ref h0.size), .val (.int (10 : Int32)), .val (.int ((0 : Int32) + (1 : Int32))), .val (.ref w1)] [])) _
    refine XS.aload X2.here hx rfl (hb hby d1_19) rfl rfl ?_
    show Steps p.tables e below (T2.setTop (mkF m 21 #[.val (.int p1), .val (.ref h0.size), .val (.int (10 : Int32)), .val (.int ((0 : Int32) + (1 : Int32))), .val (.ref w1)] [(.ref w1)])) _
    refine st3 _ ?_
    show Steps p.tables e below (T3.setTop (mkF m 24 #[.val (.int p1), .val (.ref h0.size), .val (.int (10 : Int32)), .val (.int ((0 : Int32) + (1 : Int32))), .val (.ref w1)] [(.int (2 : Int32))])) _
    refine XS.iloadN X3.here hx rfl (hb hby d1_24) rfl ?_
    show Steps p.tables e below (T3.setTop (mkF m 25 #[.val (.int p1), .val (.ref h0.size), .val (.int (10 : Int32)), .val (.int ((0 : Int32) + (1 : Int32))), .val (.ref w1)] [(.int p1), (.int (2 : Int32))])) _
    refine XS.icmpYes X3.here hx rfl (pc0 := 25) (pc' := 31) rfl (hb hby d1_25) rfl (feq hn2).2 (by decide) (by decide) ?_
    show Steps p.tables e below (T3.setTop (mkF m 31 #[.val (.int p1), .val (.ref h0.size), .val (.int (10 : Int32)), .val (.int ((0 : Int32) + (1 : Int32))), .val (.ref w1)] [])) _
    refine XS.iinc X3.here hx rfl (hb hby d1_31) rfl (l' := #[.val (.int p1), .val (.ref h0.size), .val (.int (10 : Int32)), .val (.int (((0 : Int32) + (1 : Int32)) + (1 : Int32))), .val (.ref w1)]) rfl ?_
    show Steps p.tables e below (T3.setTop (mkF m 34 #[.val (.int p1), .val (.ref h0.size), .val (.int (10 : Int32)), .val (.int (((0 : Int32) + (1 : Int32)) + (1 : Int32))), .val (.ref w1)] [])) _
    refine XS.goto X3.here hx rfl (pc0 := 34) (pc' := 9) rfl (hb hby d1_34) (by decide) (by decide) ?_
    show Steps p.tables e below (T3.setTop (mkF m 9 #[.val (.int p1), .val (.ref h0.size), .val (.int (10 : Int32)), .val (.int (((0 : Int32) + (1 : Int32)) + (1 : Int32))), .val (.ref w1)] [])) _
    refine XS.iloadN X3.here hx rfl (hb hby d1_9) rfl ?_
    show Steps p.tables e below (T3.setTop (mkF m 10 #[.val (.int p1), .val (.ref h0.size), .val (.int (10 : Int32)), .val (.int (((0 : Int32) + (1 : Int32)) + (1 : Int32))), .val (.ref w1)] [(.int (((0 : Int32) + (1 : Int32)) + (1 : Int32)))])) _
    refine XS.iloadN X3.here hx rfl (hb hby d1_10) rfl ?_
    show Steps p.tables e below (T3.setTop (mkF m 11 #[.val (.int p1), .val (.ref h0.size), .val (.int (10 : Int32)), .val (.int (((0 : Int32) + (1 : Int32)) + (1 : Int32))), .val (.ref w1)] [(.int (10 : Int32)), (.int (((0 : Int32) + (1 : Int32)) + (1 : Int32)))])) _
    refine XS.icmpNo X3.here hx rfl (hb hby d1_11) rfl (tlt (by decide +kernel)).2.1 ?_
    show Steps p.tables e below (T3.setTop (mkF m 14 #[.val (.int p1), .val (.ref h0.size), .val (.int (10 : Int32)), .val (.int (((0 : Int32) + (1 : Int32)) + (1 : Int32))), .val (.ref w1)] [])) _
    refine XS.aloadN X3.here hx rfl (hb hby d1_14) rfl rfl ?_
    show Steps p.tables e below (T3.setTop (mkF m 15 #[.val (.int p1), .val (.ref h0.size), .val (.int (10 : Int32)), .val (.int (((0 : Int32) + (1 : Int32)) + (1 : Int32))), .val (.ref w1)] [(.ref h0.size)])) _
    refine XS.iloadN X3.here hx rfl (hb hby d1_15) rfl ?_
    show Steps p.tables e below (T3.setTop (mkF m 16 #[.val (.int p1), .val (.ref h0.size), .val (.int (10 : Int32)), .val (.int (((0 : Int32) + (1 : Int32)) + (1 : Int32))), .val (.ref w1)] [(.int (((0 : Int32) + (1 : Int32)) + (1 : Int32))), (.ref h0.size)])) _
    refine X3.aaload hx (j := (((0 : Int32) + (1 : Int32)) + (1 : Int32))) (v := (.ref w2)) (by rw [e3]; exact Ar.1) (State.isArrayOf_alike hZ.alike Ar.2.1) rfl Ar.2.2 (inb_of Sz ⟨by decide, by decide⟩) (H.at (inb_of Sz ⟨by decide, by decide⟩) rfl) (g := (mkF m 16 #[.val (.int p1), .val (.ref h0.size), .val (.int (10 : Int32)), .val (.int (((0 : Int32) + (1 : Int32)) + (1 : Int32))), .val (.ref w1)] [(.int (((0 : Int32) + (1 : Int32)) + (1 : Int32))), (.ref h0.size)])) rfl rfl (hb hby d1_16) _ ?_
    show Steps p.tables e below (T3.setTop (mkF m 17 #[.val (.int p1), .val (.ref h0.size), .val (.int (10 : Int32)), .val (.int (((0 : Int32) + (1 : Int32)) + (1 : Int32))), .val (.ref w1)] [(.ref w2)])) _
    refine XS.astore X3.here hx rfl (hb hby d1_17) rfl rfl (l' := #[.val (.int p1), .val (.ref h0.size), .val (.int (10 : Int32)), .val (.int (((0 : Int32) + (1 : Int32)) + (1 : Int32))), .val (.ref w2)]) rfl ?_
    show Steps p.tables e below (T3.setTop (mkF m 19 #[.val (.int p1), .val (.ref h0.size), .val (.int (10 : Int32)), .val (.int (((0 : Int32) + (1 : Int32)) + (1 : Int32))), .val (.ref w2)] [])) _
    refine XS.aload X3.here hx rfl (hb hby d1_19) rfl rfl ?_
    show Steps p.tables e below (T3.setTop (mkF m 21 #[.val (.int p1), .val (.ref h0.size), .val (.int (10 : Int32)), .val (.int (((0 : Int32) + (1 : Int32)) + (1 : Int32))), .val (.ref w2)] [(.ref w2)])) _
    refine st4 _ ?_
    show Steps p.tables e below (T4.setTop (mkF m 24 #[.val (.int p1), .val (.ref h0.size), .val (.int (10 : Int32)), .val (.int (((0 : Int32) + (1 : Int32)) + (1 : Int32))), .val (.ref w2)] [(.int (3 : Int32))])) _
    refine XS.iloadN X4.here hx rfl (hb hby d1_24) rfl ?_
    show Steps p.tables e below (T4.setTop (mkF m 25 #[.val (.int p1), .val (.ref h0.size), .val (.int (10 : Int32)), .val (.int (((0 : Int32) + (1 : Int32)) + (1 : Int32))), .val (.ref w2)] [(.int p1), (.int (3 : Int32))])) _
    refine XS.icmpYes X4.here hx rfl (pc0 := 25) (pc' := 31) rfl (hb hby d1_25) rfl (feq hn3).2 (by decide) (by decide) ?_
    show Steps p.tables e below (T4.setTop (mkF m 31 #[.val (.int p1), .val (.ref h0.size), .val (.int (10 : Int32)), .val (.int (((0 : Int32) + (1 : Int32)) + (1 : Int32))), .val (.ref w2)] [])) _
    refine XS.iinc X4.here hx rfl (hb hby d1_31) rfl (l' := #[.val (.int p1), .val (.ref h0.size), .val (.int (10 : Int32)), .val (.int ((((0 : Int32) + (1 : Int32)) + (1 : Int32)) + (1 : Int32))), .val (.ref w2)]) rfl ?_
    show Steps p.tables e below (T4.setTop (mkF m 34 #[.val (.int p1), .val (.ref h0.size), .val (.int (10 : Int32)), .val (.int ((((0 : Int32) + (1 : Int32)) + (1 : Int32)) + (1 : Int32))), .val (.ref w2)] [])) _
    refine XS.goto X4.here hx rfl (pc0 := 34) (pc' := 9) rfl (hb hby d1_34) (by decide) (by decide) ?_
    show Steps p.tables e below (T4.setTop (mkF m 9 #[.val (.int p1), .val (.ref h0.size), .val (.int (10 : Int32)), .val (.int ((((0 : Int32) + (1 : Int32)) + (1 : Int32)) + (1 : Int32))), .val (.ref w2)] [])) _
    refine XS.iloadN X4.here hx rfl (hb hby d1_9) rfl ?_
    show Steps p.tables e below (T4.setTop (mkF m 10 #[.val (.int p1), .val (.ref h0.size), .val (.int (10 : Int32)), .val (.int ((((0 : Int32) + (1 : Int32)) + (1 : Int32)) + (1 : Int32))), .val (.ref w2)] [(.int ((((0 : Int32) + (1 : Int32)) + (1 : Int32)) + (1 : Int32)))])) _
    refine XS.iloadN X4.here hx rfl (hb hby d1_10) rfl ?_
    show Steps p.tables e below (T4.setTop (mkF m 11 #[.val (.int p1), .val (.ref h0.size), .val (.int (10 : Int32)), .val (.int ((((0 : Int32) + (1 : Int32)) + (1 : Int32)) + (1 : Int32))), .val (.ref w2)] [(.int (10 : Int32)), (.int ((((0 : Int32) + (1 : Int32)) + (1 : Int32)) + (1 : Int32)))])) _
    refine XS.icmpNo X4.here hx rfl (hb hby d1_11) rfl (tlt (by decide +kernel)).2.1 ?_
    show Steps p.tables e below (T4.setTop (mkF m 14 #[.val (.int p1), .val (.ref h0.size), .val (.int (10 : Int32)), .val (.int ((((0 : Int32) + (1 : Int32)) + (1 : Int32)) + (1 : Int32))), .val (.ref w2)] [])) _
    refine XS.aloadN X4.here hx rfl (hb hby d1_14) rfl rfl ?_
    show Steps p.tables e below (T4.setTop (mkF m 15 #[.val (.int p1), .val (.ref h0.size), .val (.int (10 : Int32)), .val (.int ((((0 : Int32) + (1 : Int32)) + (1 : Int32)) + (1 : Int32))), .val (.ref w2)] [(.ref h0.size)])) _
    refine XS.iloadN X4.here hx rfl (hb hby d1_15) rfl ?_
    show Steps p.tables e below (T4.setTop (mkF m 16 #[.val (.int p1), .val (.ref h0.size), .val (.int (10 : Int32)), .val (.int ((((0 : Int32) + (1 : Int32)) + (1 : Int32)) + (1 : Int32))), .val (.ref w2)] [(.int ((((0 : Int32) + (1 : Int32)) + (1 : Int32)) + (1 : Int32))), (.ref h0.size)])) _
    refine X4.aaload hx (j := ((((0 : Int32) + (1 : Int32)) + (1 : Int32)) + (1 : Int32))) (v := (.ref w3)) (by rw [e4]; exact Ar.1) (State.isArrayOf_alike hZ.alike Ar.2.1) rfl Ar.2.2 (inb_of Sz ⟨by decide, by decide⟩) (H.at (inb_of Sz ⟨by decide, by decide⟩) rfl) (g := (mkF m 16 #[.val (.int p1), .val (.ref h0.size), .val (.int (10 : Int32)), .val (.int ((((0 : Int32) + (1 : Int32)) + (1 : Int32)) + (1 : Int32))), .val (.ref w2)] [(.int ((((0 : Int32) + (1 : Int32)) + (1 : Int32)) + (1 : Int32))), (.ref h0.size)])) rfl rfl (hb hby d1_16) _ ?_
    show Steps p.tables e below (T4.setTop (mkF m 17 #[.val (.int p1), .val (.ref h0.size), .val (.int (10 : Int32)), .val (.int ((((0 : Int32) + (1 : Int32)) + (1 : Int32)) + (1 : Int32))), .val (.ref w2)] [(.ref w3)])) _
    refine XS.astore X4.here hx rfl (hb hby d1_17) rfl rfl (l' := #[.val (.int p1), .val (.ref h0.size), .val (.int (10 : Int32)), .val (.int ((((0 : Int32) + (1 : Int32)) + (1 : Int32)) + (1 : Int32))), .val (.ref w3)]) rfl ?_
    show Steps p.tables e below (T4.setTop (mkF m 19 #[.val (.int p1), .val (.ref h0.size), .val (.int (10 : Int32)), .val (.int ((((0 : Int32) + (1 : Int32)) + (1 : Int32)) + (1 : Int32))), .val (.ref w3)] [])) _
    refine XS.aload X4.here hx rfl (hb hby d1_19) rfl rfl ?_
    show Steps p.tables e below (T4.setTop (mkF m 21 #[.val (.int p1), .val (.ref h0.size), .val (.int (10 : Int32)), .val (.int ((((0 : Int32) + (1 : Int32)) + (1 : Int32)) + (1 : Int32))), .val (.ref w3)] [(.ref w3)])) _
    refine st5 _ ?_
    show Steps p.tables e below (T5.setTop (mkF m 24 #[.val (.int p1), .val (.ref h0.size), .val (.int (10 : Int32)), .val (.int ((((0 : Int32) + (1 : Int32)) + (1 : Int32)) + (1 : Int32))), .val (.ref w3)] [(.int (4 : Int32))])) _
    refine XS.iloadN X5.here hx rfl (hb hby d1_24) rfl ?_
    show Steps p.tables e below (T5.setTop (mkF m 25 #[.val (.int p1), .val (.ref h0.size), .val (.int (10 : Int32)), .val (.int ((((0 : Int32) + (1 : Int32)) + (1 : Int32)) + (1 : Int32))), .val (.ref w3)] [(.int p1), (.int (4 : Int32))])) _
    refine XS.icmpYes X5.here hx rfl (pc0 := 25) (pc' := 31) rfl (hb hby d1_25) rfl (feq hn4).2 (by decide) (by decide) ?_
    show Steps p.tables e below (T5.setTop (mkF m 31 #[.val (.int p1), .val (.ref h0.size), .val (.int (10 : Int32)), .val (.int ((((0 : Int32) + (1 : Int32)) + (1 : Int32)) + (1 : Int32))), .val (.ref w3)] [])) _
    refine XS.iinc X5.here hx rfl (hb hby d1_31) rfl (l' := #[.val (.int p1), .val (.ref h0.size), .val (.int (10 : Int32)), .val (.int (((((0 : Int32) + (1 : Int32)) + (1 : Int32)) + (1 : Int32)) + (1 : Int32))), .val (.ref w3)]) rfl ?_
    show Steps p.tables e below (T5.setTop (mkF m 34 #[.val (.int p1), .val (.ref h0.size), .val (.int (10 : Int32)), .val (.int (((((0 : Int32) + (1 : Int32)) + (1 : Int32)) + (1 : Int32)) + (1 : Int32))), .val (.ref w3)] [])) _
    refine XS.goto X5.here hx rfl (pc0 := 34) (pc' := 9) rfl (hb hby d1_34) (by decide) (by decide) ?_
    show Steps p.tables e below (T5.setTop (mkF m 9 #[.val (.int p1), .val (.ref h0.size), .val (.int (10 : Int32)), .val (.int (((((0 : Int32) + (1 : Int32)) + (1 : Int32)) + (1 : Int32)) + (1 : Int32))), .val (.ref w3)] [])) _
    refine XS.iloadN X5.here hx rfl (hb hby d1_9) rfl ?_
    show Steps p.tables e below (T5.setTop (mkF m 10 #[.val (.int p1), .val (.ref h0.size), .val (.int (10 : Int32)), .val (.int (((((0 : Int32) + (1 : Int32)) + (1 : Int32)) + (1 : Int32)) + (1 : Int32))), .val (.ref w3)] [(.int (((((0 : Int32) + (1 : Int32)) + (1 : Int32)) + (1 : Int32)) + (1 : Int32)))])) _
    refine XS.iloadN X5.here hx rfl (hb hby d1_10) rfl ?_
    show Steps p.tables e below (T5.setTop (mkF m 11 #[.val (.int p1), .val (.ref h0.size), .val (.int (10 : Int32)), .val (.int (((((0 : Int32) + (1 : Int32)) + (1 : Int32)) + (1 : Int32)) + (1 : Int32))), .val (.ref w3)] [(.int (10 : Int32)), (.int (((((0 : Int32) + (1 : Int32)) + (1 : Int32)) + (1 : Int32)) + (1 : Int32)))])) _
    refine XS.icmpNo X5.here hx rfl (hb hby d1_11) rfl (tlt (by decide +kernel)).2.1 ?_
    show Steps p.tables e below (T5.setTop (mkF m 14 #[.val (.int p1), .val (.ref h0.size), .val (.int (10 : Int32)), .val (.int (((((0 : Int32) + (1 : Int32)) + (1 : Int32)) + (1 : Int32)) + (1 : Int32))), .val (.ref w3)] [])) _
    refine XS.aloadN X5.here hx rfl (hb hby d1_14) rfl rfl ?_
    show Steps p.tables e below (T5.setTop (mkF m 15 #[.val (.int p1), .val (.ref h0.size), .val (.int (10 : Int32)), .val (.int (((((0 : Int32) + (1 : Int32)) + (1 : Int32)) + (1 : Int32)) + (1 : Int32))), .val (.ref w3)] [(.ref h0.size)])) _
    refine XS.iloadN X5.here hx rfl (hb hby d1_15) rfl ?_
    show Steps p.tables e below (T5.setTop (mkF m 16 #[.val (.int p1), .val (.ref h0.size), .val (.int (10 : Int32)), .val (.int (((((0 : Int32) + (1 : Int32)) + (1 : Int32)) + (1 : Int32)) + (1 : Int32))), .val (.ref w3)] [(.int (((((0 : Int32) + (1 : Int32)) + (1 : Int32)) + (1 : Int32)) + (1 : Int32))), (.ref h0.size)])) _
    refine X5.aaload hx (j := (((((0 : Int32) + (1 : Int32)) + (1 : Int32)) + (1 : Int32)) + (1 : Int32))) (v := (.ref w4)) (by rw [e5]; exact Ar.1) (State.isArrayOf_alike hZ.alike Ar.2.1) rfl Ar.2.2 (inb_of Sz ⟨by decide, by decide⟩) (H.at (inb_of Sz ⟨by decide, by decide⟩) rfl) (g := (mkF m 16 #[.val (.int p1), .val (.ref h0.size), .val (.int (10 : Int32)), .val (.int (((((0 : Int32) + (1 : Int32)) + (1 : Int32)) + (1 : Int32)) + (1 : Int32))), .val (.ref w3)] [(.int (((((0 : Int32) + (1 : Int32)) + (1 : Int32)) + (1 : Int32)) + (1 : Int32))), (.ref h0.size)])) rfl rfl (hb hby d1_16) _ ?_
    show Steps p.tables e below (T5.setTop (mkF m 17 #[.val (.int p1), .val (.ref h0.size), .val (.int (10 : Int32)), .val (.int (((((0 : Int32) + (1 : Int32)) + (1 : Int32)) + (1 : Int32)) + (1 : Int32))), .val (.ref w3)] [(.ref w4)])) _
    refine XS.astore X5.here hx rfl (hb hby d1_17) rfl rfl (l' := #[.val (.int p1), .val (.ref h0.size), .val (.int (10 : Int32)), .val (.int (((((0 : Int32) + (1 : Int32)) + (1 : Int32)) + (1 : Int32)) + (1 : Int32))), .val (.ref w4)]) rfl ?_
    show Steps p.tables e below (T5.setTop (mkF m 19 #[.val (.int p1), .val (.ref h0.size), .val (.int (10 : Int32)), .val (.int (((((0 : Int32) + (1 : Int32)) + (1 : Int32)) + (1 : Int32)) + (1 : Int32))), .val (.ref w4)] [])) _
    refine XS.aload X5.here hx rfl (hb hby d1_19) rfl rfl ?_
    show Steps p.tables e below (T5.setTop (mkF m 21 #[.val (.int p1), .val (.ref h0.size), .val (.int (10 : Int32)), .val (.int (((((0 : Int32) + (1 : Int32)) + (1 : Int32)) + (1 : Int32)) + (1 : Int32))), .val (.ref w4)] [(.ref w4)])) _
    refine st6 _ ?_
    show Steps p.tables e below (T6.setTop (mkF m 24 #[.val (.int p1), .val (.ref h0.size), .val (.int (10 : Int32)), .val (.int (((((0 : Int32) + (1 : Int32)) + (1 : Int32)) + (1 : Int32)) + (1 : Int32))), .val (.ref w4)] [(.int (5 : Int32))])) _
    refine XS.iloadN X6.here hx rfl (hb hby d1_24) rfl ?_
    show Steps p.tables e below (T6.setTop (mkF m 25 #[.val (.int p1), .val (.ref h0.size), .val (.int (10 : Int32)), .val (.int (((((0 : Int32) + (1 : Int32)) + (1 : Int32)) + (1 : Int32)) + (1 : Int32))), .val (.ref w4)] [(.int p1), (.int (5 : Int32))])) _
    refine XS.icmpYes X6.here hx rfl (pc0 := 25) (pc' := 31) rfl (hb hby d1_25) rfl (feq hn5).2 (by decide) (by decide) ?_
    show Steps p.tables e below (T6.setTop (mkF m 31 #[.val (.int p1), .val (.ref h0.size), .val (.int (10 : Int32)), .val (.int (((((0 : Int32) + (1 : Int32)) + (1 : Int32)) + (1 : Int32)) + (1 : Int32))), .val (.ref w4)] [])) _
    refine XS.iinc X6.here hx rfl (hb hby d1_31) rfl (l' := #[.val (.int p1), .val (.ref h0.size), .val (.int (10 : Int32)), .val (.int ((((((0 : Int32) + (1 : Int32)) + (1 : Int32)) + (1 : Int32)) + (1 : Int32)) + (1 : Int32))), .val (.ref w4)]) rfl ?_
    show Steps p.tables e below (T6.setTop (mkF m 34 #[.val (.int p1), .val (.ref h0.size), .val (.int (10 : Int32)), .val (.int ((((((0 : Int32) + (1 : Int32)) + (1 : Int32)) + (1 : Int32)) + (1 : Int32)) + (1 : Int32))), .val (.ref w4)] [])) _
    refine XS.goto X6.here hx rfl (pc0 := 34) (pc' := 9) rfl (hb hby d1_34) (by decide) (by decide) ?_
    show Steps p.tables e below (T6.setTop (mkF m 9 #[.val (.int p1), .val (.ref h0.size), .val (.int (10 : Int32)), .val (.int ((((((0 : Int32) + (1 : Int32)) + (1 : Int32)) + (1 : Int32)) + (1 : Int32)) + (1 : Int32))), .val (.ref w4)] [])) _
    refine XS.iloadN X6.here hx rfl (hb hby d1_9) rfl ?_
    show Steps p.tables e below (T6.setTop (mkF m 10 #[.val (.int p1), .val (.ref h0.size), .val (.int (10 : Int32)), .val (.int ((((((0 : Int32) + (1 : Int32)) + (1 : Int32)) + (1 : Int32)) + (1 : Int32)) + (1 : Int32))), .val (.ref w4)] [(.int ((((((0 : Int32) + (1 : Int32)) + (1 : Int32)) + (1 : Int32)) + (1 : Int32)) + (1 : Int32)))])) _
    refine XS.iloadN X6.here hx rfl (hb hby d1_10) rfl ?_
    show Steps p.tables e below (T6.setTop (mkF m 11 #[.val (.int p1), .val (.ref h0.size), .val (.int (10 : Int32)), .val (.int ((((((0 : Int32) + (1 : Int32)) + (1 : Int32)) + (1 : Int32)) + (1 : Int32)) + (1 : Int32))), .val (.ref w4)] [(.int (10 : Int32)), (.int ((((((0 : Int32) + (1 : Int32)) + (1 : Int32)) + (1 : Int32)) + (1 : Int32)) + (1 : Int32)))])) _
    refine XS.icmpNo X6.here hx rfl (hb hby d1_11) rfl (tlt (by decide +kernel)).2.1 ?_
    show Steps p.tables e below (T6.setTop (mkF m 14 #[.val (.int p1), .val (.ref h0.size), .val (.int (10 : Int32)), .val (.int ((((((0 : Int32) + (1 : Int32)) + (1 : Int32)) + (1 : Int32)) + (1 : Int32)) + (1 : Int32))), .val (.ref w4)] [])) _
    refine XS.aloadN X6.here hx rfl (hb hby d1_14) rfl rfl ?_
    show Steps p.tables e below (T6.setTop (mkF m 15 #[.val (.int p1), .val (.ref h0.size), .val (.int (10 : Int32)), .val (.int ((((((0 : Int32) + (1 : Int32)) + (1 : Int32)) + (1 : Int32)) + (1 : Int32)) + (1 : Int32))), .val (.ref w4)] [(.ref h0.size)])) _
    refine XS.iloadN X6.here hx rfl (hb hby d1_15) rfl ?_
    show Steps p.tables e below (T6.setTop (mkF m 16 #[.val (.int p1), .val (.ref h0.size), .val (.int (10 : Int32)), .val (.int ((((((0 : Int32) + (1 : Int32)) + (1 : Int32)) + (1 : Int32)) + (1 : Int32)) + (1 : Int32))), .val (.ref w4)] [(.int ((((((0 : Int32) + (1 : Int32)) + (1 : Int32)) + (1 : Int32)) + (1 : Int32)) + (1 : Int32))), (.ref h0.size)])) _
    refine X6.aaload hx (j := ((((((0 : Int32) + (1 : Int32)) + (1 : Int32)) + (1 : Int32)) + (1 : Int32)) + (1 : Int32))) (v := (.ref w5)) (by rw [e6]; exact Ar.1) (State.isArrayOf_alike hZ.alike Ar.2.1) rfl Ar.2.2 (inb_of Sz ⟨by decide, by decide⟩) (H.at (inb_of Sz ⟨by decide, by decide⟩) rfl) (g := (mkF m 16 #[.val (.int p1), .val (.ref h0.size), .val (.int (10 : Int32)), .val (.int ((((((0 : Int32) + (1 : Int32)) + (1 : Int32)) + (1 : Int32)) + (1 : Int32)) + (1 : Int32))), .val (.ref w4)] [(.int ((((((0 : Int32) + (1 : Int32)) + (1 : Int32)) + (1 : Int32)) + (1 : Int32)) + (1 : Int32))), (.ref h0.size)])) rfl rfl (hb hby d1_16) _ ?_
    show Steps p.tables e below (T6.setTop (mkF m 17 #[.val (.int p1), .val (.ref h0.size), .val (.int (10 : Int32)), .val (.int ((((((0 : Int32) + (1 : Int32)) + (1 : Int32)) + (1 : Int32)) + (1 : Int32)) + (1 : Int32))), .val (.ref w4)] [(.ref w5)])) _
    refine XS.astore X6.here hx rfl (hb hby d1_17) rfl rfl (l' := #[.val (.int p1), .val (.ref h0.size), .val (.int (10 : Int32)), .val (.int ((((((0 : Int32) + (1 : Int32)) + (1 : Int32)) + (1 : Int32)) + (1 : Int32)) + (1 : Int32))), .val (.ref w5)]) rfl ?_
    show Steps p.tables e below (T6.setTop (mkF m 19 #[.val (.int p1), .val (.ref h0.size), .val (.int (10 : Int32)), .val (.int ((((((0 : Int32) + (1 : Int32)) + (1 : Int32)) + (1 : Int32)) + (1 : Int32)) + (1 : Int32))), .val (.ref w5)] [])) _
    refine XS.aload X6.here hx rfl (hb hby d1_19) rfl rfl ?_
    show Steps p.tables e below (T6.setTop (mkF m 21 #[.val (.int p1), .val (.ref h0.size), .val (.int (10 : Int32)), .val (.int ((((((0 : Int32) + (1 : Int32)) + (1 : Int32)) + (1 : Int32)) + (1 : Int32)) + (1 : Int32))), .val (.ref w5)] [(.ref w5)])) _
    refine st7 _ ?_
    show Steps p.tables e below (T7.setTop (mkF m 24 #[.val (.int p1), .val (.ref h0.size), .val (.int (10 : Int32)), .val (.int ((((((0 : Int32) + (1 : Int32)) + (1 : Int32)) + (1 : Int32)) + (1 : Int32)) + (1 : Int32))), .val (.ref w5)] [(.int (6 : Int32))])) _
    refine XS.iloadN X7.here hx rfl (hb hby d1_24) rfl ?_
    show Steps p.tables e below (T7.setTop (mkF m 25 #[.val (.int p1), .val (.ref h0.size), .val (.int (10 : Int32)), .val (.int ((((((0 : Int32) + (1 : Int32)) + (1 : Int32)) + (1 : Int32)) + (1 : Int32)) + (1 : Int32))), .val (.ref w5)] [(.int p1), (.int (6 : Int32))])) _
    refine XS.icmpYes X7.here hx rfl (pc0 := 25) (pc' := 31) rfl (hb hby d1_25) rfl (feq hn6).2 (by decide) (by decide) ?_
    show Steps p.tables e below (T7.setTop (mkF m 31 #[.val (.int p1), .val (.ref h0.size), .val (.int (10 : Int32)), .val (.int ((((((0 : Int32) + (1 : Int32)) + (1 : Int32)) + (1 : Int32)) + (1 : Int32)) + (1 : Int32))), .val (.ref w5)] [])) _
    refine XS.iinc X7.here hx rfl (hb hby d1_31) rfl (l' := #[.val (.int p1), .val (.ref h0.size), .val (.int (10 : Int32)), .val (.int (((((((0 : Int32) + (1 : Int32)) + (1 : Int32)) + (1 : Int32)) + (1 : Int32)) + (1 : Int32)) + (1 : Int32))), .val (.ref w5)]) rfl ?_
    show Steps p.tables e below (T7.setTop (mkF m 34 #[.val (.int p1), .val (.ref h0.size), .val (.int (10 : Int32)), .val (.int (((((((0 : Int32) + (1 : Int32)) + (1 : Int32)) + (1 : Int32)) + (1 : Int32)) + (1 : Int32)) + (1 : Int32))), .val (.ref w5)] [])) _
    refine XS.goto X7.here hx rfl (pc0 := 34) (pc' := 9) rfl (hb hby d1_34) (by decide) (by decide) ?_
    show Steps p.tables e below (T7.setTop (mkF m 9 #[.val (.int p1), .val (.ref h0.size), .val (.int (10 : Int32)), .val (.int (((((((0 : Int32) + (1 : Int32)) + (1 : Int32)) + (1 : Int32)) + (1 : Int32)) + (1 : Int32)) + (1 : Int32))), .val (.ref w5)] [])) _
    refine XS.iloadN X7.here hx rfl (hb hby d1_9) rfl ?_
    show Steps p.tables e below (T7.setTop (mkF m 10 #[.val (.int p1), .val (.ref h0.size), .val (.int (10 : Int32)), .val (.int (((((((0 : Int32) + (1 : Int32)) + (1 : Int32)) + (1 : Int32)) + (1 : Int32)) + (1 : Int32)) + (1 : Int32))), .val (.ref w5)] [(.int (((((((0 : Int32) + (1 : Int32)) + (1 : Int32)) + (1 : Int32)) + (1 : Int32)) + (1 : Int32)) + (1 : Int32)))])) _
    refine XS.iloadN X7.here hx rfl (hb hby d1_10) rfl ?_
    show Steps p.tables e below (T7.setTop (mkF m 11 #[.val (.int p1), .val (.ref h0.size), .val (.int (10 : Int32)), .val (.int (((((((0 : Int32) + (1 : Int32)) + (1 : Int32)) + (1 : Int32)) + (1 : Int32)) + (1 : Int32)) + (1 : Int32))), .val (.ref w5)] [(.int (10 : Int32)), (.int (((((((0 : Int32) + (1 : Int32)) + (1 : Int32)) + (1 : Int32)) + (1 : Int32)) + (1 : Int32)) + (1 : Int32)))])) _
    refine XS.icmpNo X7.here hx rfl (hb hby d1_11) rfl (tlt (by decide +kernel)).2.1 ?_
    show Steps p.tables e below (T7.setTop (mkF m 14 #[.val (.int p1), .val (.ref h0.size), .val (.int (10 : Int32)), .val (.int (((((((0 : Int32) + (1 : Int32)) + (1 : Int32)) + (1 : Int32)) + (1 : Int32)) + (1 : Int32)) + (1 : Int32))), .val (.ref w5)] [])) _
    refine XS.aloadN X7.here hx rfl (hb hby d1_14) rfl rfl ?_
    show Steps p.tables e below (T7.setTop (mkF m 15 #[.val (.int p1), .val (.ref h0.size), .val (.int (10 : Int32)), .val (.int (((((((0 : Int32) + (1 : Int32)) + (1 : Int32)) + (1 : Int32)) + (1 : Int32)) + (1 : Int32)) + (1 : Int32))), .val (.ref w5)] [(.ref h0.size)])) _
    refine XS.iloadN X7.here hx rfl (hb hby d1_15) rfl ?_
    show Steps p.tables e below (T7.setTop (mkF m 16 #[.val (.int p1), .val (.ref h0.size), .val (.int (10 : Int32)), .val (.int (((((((0 : Int32) + (1 : Int32)) + (1 : Int32)) + (1 : Int32)) + (1 : Int32)) + (1 : Int32)) + (1 : Int32))), .val (.ref w5)] [(.int (((((((0 : Int32) + (1 : Int32)) + (1 : Int32)) + (1 : Int32)) + (1 : Int32)) + (1 : Int32)) + (1 : Int32))), (.ref h0.size)])) _
    refine X7.aaload hx (j := (((((((0 : Int32) + (1 : Int32)) + (1 : Int32)) + (1 : Int32)) + (1 : Int32)) + (1 : Int32)) + (1 : Int32))) (v := (.ref w6)) (by rw [e7]; exact Ar.1) (State.isArrayOf_alike hZ.alike Ar.2.1) rfl Ar.2.2 (inb_of Sz ⟨by decide, by decide⟩) (H.at (inb_of Sz ⟨by decide, by decide⟩) rfl) (g := (mkF m 16 #[.val (.int p1), .val (.ref h0.size), .val (.int (10 : Int32)), .val (.int (((((((0 : Int32) + (1 : Int32)) + (1 : Int32)) + (1 : Int32)) + (1 : Int32)) + (1 : Int32)) + (1 : Int32))), .val (.ref w5)] [(.int (((((((0 : Int32) + (1 : Int32)) + (1 : Int32)) + (1 : Int32)) + (1 : Int32)) + (1 : Int32)) + (1 : Int32))), (.ref h0.size)])) rfl rfl (hb hby d1_16) _ ?_
    show Steps p.tables e below (T7.setTop (mkF m 17 #[.val (.int p1), .val (.ref h0.size), .val (.int (10 : Int32)), .val (.int (((((((0 : Int32) + (1 : Int32)) + (1 : Int32)) + (1 : Int32)) + (1 : Int32)) + (1 : Int32)) + (1 : Int32))), .val (.ref w5)] [(.ref w6)])) _
    refine XS.astore X7.here hx rfl (hb hby d1_17) rfl rfl (l' := #[.val (.int p1), .val (.ref h0.size), .val (.int (10 : Int32)), .val (.int (((((((0 : Int32) + (1 : Int32)) + (1 : Int32)) + (1 : Int32)) + (1 : Int32)) + (1 : Int32)) + (1 : Int32))), .val (.ref w6)]) rfl ?_
    show Steps p.tables e below (T7.setTop (mkF m 19 #[.val (.int p1), .val (.ref h0.size), .val (.int (10 : Int32)), .val (.int (((((((0 : Int32) + (1 : Int32)) + (1 : Int32)) + (1 : Int32)) + (1 : Int32)) + (1 : Int32)) + (1 : Int32))), .val (.ref w6)] [])) _
    refine XS.aload X7.here hx rfl (hb hby d1_19) rfl rfl ?_
    show Steps p.tables e below (T7.setTop (mkF m 21 #[.val (.int p1), .val (.ref h0.size), .val (.int (10 : Int32)), .val (.int (((((((0 : Int32) + (1 : Int32)) + (1 : Int32)) + (1 : Int32)) + (1 : Int32)) + (1 : Int32)) + (1 : Int32))), .val (.ref w6)] [(.ref w6)])) _
    refine st8 _ ?_
    show Steps p.tables e below (T8.setTop (mkF m 24 #[.val (.int p1), .val (.ref h0.size), .val (.int (10 : Int32)), .val (.int (((((((0 : Int32) + (1 : Int32)) + (1 : Int32)) + (1 : Int32)) + (1 : Int32)) + (1 : Int32)) + (1 : Int32))), .val (.ref w6)] [(.int (7 : Int32))])) _
    refine XS.iloadN X8.here hx rfl (hb hby d1_24) rfl ?_
    show Steps p.tables e below (T8.setTop (mkF m 25 #[.val (.int p1), .val (.ref h0.size), .val (.int (10 : Int32)), .val (.int (((((((0 : Int32) + (1 : Int32)) + (1 : Int32)) + (1 : Int32)) + (1 : Int32)) + (1 : Int32)) + (1 : Int32))), .val (.ref w6)] [(.int p1), (.int (7 : Int32))])) _
    refine XS.icmpYes X8.here hx rfl (pc0 := 25) (pc' := 31) rfl (hb hby d1_25) rfl (feq hn7).2 (by decide) (by decide) ?_
    show Steps p.tables e below (T8.setTop (mkF m 31 #[.val (.int p1), .val (.ref h0.size), .val (.int (10 : Int32)), .val (.int (((((((0 : Int32) + (1 : Int32)) + (1 : Int32)) + (1 : Int32)) + (1 : Int32)) + (1 : Int32)) + (1 : Int32))), .val (.ref w6)] [])) _
    refine XS.iinc X8.here hx rfl (hb hby d1_31) rfl (l' := #[.val (.int p1), .val (.ref h0.size), .val (.int (10 : Int32)), .val (.int ((((((((0 : Int32) + (1 : Int32)) + (1 : Int32)) + (1 : Int32)) + (1 : Int32)) + (1 : Int32)) + (1 : Int32)) + (1 : Int32))), .val (.ref w6)]) rfl ?_
    show Steps p.tables e below (T8.setTop (mkF m 34 #[.val (.int p1), .val (.ref h0.size), .val (.int (10 : Int32)), .val (.int ((((((((0 : Int32) + (1 : Int32)) + (1 : Int32)) + (1 : Int32)) + (1 : Int32)) + (1 : Int32)) + (1 : Int32)) + (1 : Int32))), .val (.ref w6)] [])) _
    refine XS.goto X8.here hx rfl (pc0 := 34) (pc' := 9) rfl (hb hby d1_34) (by decide) (by decide) ?_
    show Steps p.tables e below (T8.setTop (mkF m 9 #[.val (.int p1), .val (.ref h0.size), .val (.int (10 : Int32)), .val (.int ((((((((0 : Int32) + (1 : Int32)) + (1 : Int32)) + (1 : Int32)) + (1 : Int32)) + (1 : Int32)) + (1 : Int32)) + (1 : Int32))), .val (.ref w6)] [])) _
    refine XS.iloadN X8.here hx rfl (hb hby d1_9) rfl ?_
    show Steps p.tables e below (T8.setTop (mkF m 10 #[.val (.int p1), .val (.ref h0.size), .val (.int (10 : Int32)), .val (.int ((((((((0 : Int32) + (1 : Int32)) + (1 : Int32)) + (1 : Int32)) + (1 : Int32)) + (1 : Int32)) + (1 : Int32)) + (1 : Int32))), .val (.ref w6)] [(.int ((((((((0 : Int32) + (1 : Int32)) + (1 : Int32)) + (1 : Int32)) + (1 : Int32)) + (1 : Int32)) + (1 : Int32)) + (1 : Int32)))])) _
    refine XS.iloadN X8.here hx rfl (hb hby d1_10) rfl ?_
    show Steps p.tables e below (T8.setTop (mkF m 11 #[.val (.int p1), .val (.ref h0.size), .val (.int (10 : Int32)), .val (.int ((((((((0 : Int32) + (1 : Int32)) + (1 : Int32)) + (1 : Int32)) + (1 : Int32)) + (1 : Int32)) + (1 : Int32)) + (1 : Int32))), .val (.ref w6)] [(.int (10 : Int32)), (.int ((((((((0 : Int32) + (1 : Int32)) + (1 : Int32)) + (1 : Int32)) + (1 : Int32)) + (1 : Int32)) + (1 : Int32)) + (1 : Int32)))])) _
    refine XS.icmpNo X8.here hx rfl (hb hby d1_11) rfl (tlt (by decide +kernel)).2.1 ?_
    show Steps p.tables e below (T8.setTop (mkF m 14 #[.val (.int p1), .val (.ref h0.size), .val (.int (10 : Int32)), .val (.int ((((((((0 : Int32) + (1 : Int32)) + (1 : Int32)) + (1 : Int32)) + (1 : Int32)) + (1 : Int32)) + (1 : Int32)) + (1 : Int32))), .val (.ref w6)] [])) _
    refine XS.aloadN X8.here hx rfl (hb hby d1_14) rfl rfl ?_
    show Steps p.tables e below (T8.setTop (mkF m 15 #[.val (.int p1), .val (.ref h0.size), .val (.int (10 : Int32)), .val (.int ((((((((0 : Int32) + (1 : Int32)) + (1 : Int32)) + (1 : Int32)) + (1 : Int32)) + (1 : Int32)) + (1 : Int32)) + (1 : Int32))), .val (.ref w6)] [(.ref h0.size)])) _
    refine XS.iloadN X8.here hx rfl (hb hby d1_15) rfl ?_
    show Steps p.tables e below (T8.setTop (mkF m 16 #[.val (.int p1), .val (.ref h0.size), .val (.int (10 : Int32)), .val (.int ((((((((0 : Int32) + (1 : Int32)) + (1 : Int32)) + (1 : Int32)) + (1 : Int32)) + (1 : Int32)) + (1 : Int32)) + (1 : Int32))), .val (.ref w6)] [(.int ((((((((0 : Int32) + (1 : Int32)) + (1 : Int32)) + (1 : Int32)) + (1 : Int32)) + (1 : Int32)) + (1 : Int32)) + (1 : Int32))), (.ref h0.size)])) _
    refine X8.aaload hx (j := ((((((((0 : Int32) + (1 : Int32)) + (1 : Int32)) + (1 : Int32)) + (1 : Int32)) + (1 : Int32)) + (1 : Int32)) + (1 : Int32))) (v := (.ref w7)) (by rw [e8]; exact Ar.1) (State.isArrayOf_alike hZ.alike Ar.2.1) rfl Ar.2.2 (inb_of Sz ⟨by decide, by decide⟩) (H.at (inb_of Sz ⟨by decide, by decide⟩) rfl) (g := (mkF m 16 #[.val (.int p1), .val (.ref h0.size), .val (.int (10 : Int32)), .val (.int ((((((((0 : Int32) + (1 : Int32)) + (1 : Int32)) + (1 : Int32)) + (1 : Int32)) + (1 : Int32)) + (1 : Int32)) + (1 : Int32))), .val (.ref w6)] [(.int ((((((((0 : Int32) + (1 : Int32)) + (1 : Int32)) + (1 : Int32)) + (1 : Int32)) + (1 : Int32)) + (1 : Int32)) + (1 : Int32))), (.ref h0.size)])) rfl rfl (hb hby d1_16) _ ?_
    show Steps p.tables e below (T8.setTop (mkF m 17 #[.val (.int p1), .val (.ref h0.size), .val (.int (10 : Int32)), .val (.int ((((((((0 : Int32) + (1 : Int32)) + (1 : Int32)) + (1 : Int32)) + (1 : Int32)) + (1 : Int32)) + (1 : Int32)) + (1 : Int32))), .val (.ref w6)] [(.ref w7)])) _
    refine XS.astore X8.here hx rfl (hb hby d1_17) rfl rfl (l' := #[.val (.int p1), .val (.ref h0.size), .val (.int (10 : Int32)), .val (.int ((((((((0 : Int32) + (1 : Int32)) + (1 : Int32)) + (1 : Int32)) + (1 : Int32)) + (1 : Int32)) + (1 : Int32)) + (1 : Int32))), .val (.ref w7)]) rfl ?_
    show Steps p.tables e below (T8.setTop (mkF m 19 #[.val (.int p1), .val (.ref h0.size), .val (.int (10 : Int32)), .val (.int ((((((((0 : Int32) + (1 : Int32)) + (1 : Int32)) + (1 : Int32)) + (1 : Int32)) + (1 : Int32)) + (1 : Int32)) + (1 : Int32))), .val (.ref w7)] [])) _
    refine XS.aload X8.here hx rfl (hb hby d1_19) rfl rfl ?_
    show Steps p.tables e below (T8.setTop (mkF m 21 #[.val (.int p1), .val (.ref h0.size), .val (.int (10 : Int32)), .val (.int ((((((((0 : Int32) + (1 : Int32)) + (1 : Int32)) + (1 : Int32)) + (1 : Int32)) + (1 : Int32)) + (1 : Int32)) + (1 : Int32))), .val (.ref w7)] [(.ref w7)])) _
    refine st9 _ ?_
    show Steps p.tables e below (T9.setTop (mkF m 24 #[.val (.int p1), .val (.ref h0.size), .val (.int (10 : Int32)), .val (.int ((((((((0 : Int32) + (1 : Int32)) + (1 : Int32)) + (1 : Int32)) + (1 : Int32)) + (1 : Int32)) + (1 : Int32)) + (1 : Int32))), .val (.ref w7)] [(.int (8 : Int32))])) _
    refine XS.iloadN X9.here hx rfl (hb hby d1_24) rfl ?_
    show Steps p.tables e below (T9.setTop (mkF m 25 #[.val (.int p1), .val (.ref h0.size), .val (.int (10 : Int32)), .val (.int ((((((((0 : Int32) + (1 : Int32)) + (1 : Int32)) + (1 : Int32)) + (1 : Int32)) + (1 : Int32)) + (1 : Int32)) + (1 : Int32))), .val (.ref w7)] [(.int p1), (.int (8 : Int32))])) _
    refine XS.icmpYes X9.here hx rfl (pc0 := 25) (pc' := 31) rfl (hb hby d1_25) rfl (feq hn8).2 (by decide) (by decide) ?_
    show Steps p.tables e below (T9.setTop (mkF m 31 #[.val (.int p1), .val (.ref h0.size), .val (.int (10 : Int32)), .val (.int ((((((((0 : Int32) + (1 : Int32)) + (1 : Int32)) + (1 : Int32)) + (1 : Int32)) + (1 : Int32)) + (1 : Int32)) + (1 : Int32))), .val (.ref w7)] [])) _
    refine XS.iinc X9.here hx rfl (hb hby d1_31) rfl (l' := #[.val (.int p1), .val (.ref h0.size), .val (.int (10 : Int32)), .val (.int (((((((((0 : Int32) + (1 : Int32)) + (1 : Int32)) + (1 : Int32)) + (1 : Int32)) + (1 : Int32)) + (1 : Int32)) + (1 : Int32)) + (1 : Int32))), .val (.ref w7)]) rfl ?_
    show Steps p.tables e below (T9.setTop (mkF m 34 #[.val (.int p1), .val (.ref h0.size), .val (.int (10 : Int32)), .val (.int (((((((((0 : Int32) + (1 : Int32)) + (1 : Int32)) + (1 : Int32)) + (1 : Int32)) + (1 : Int32)) + (1 : Int32)) + (1 : Int32)) + (1 : Int32))), .val (.ref w7)] [])) _
    refine XS.goto X9.here hx rfl (pc0 := 34) (pc' := 9) rfl (hb hby d1_34) (by decide) (by decide) ?_
    show Steps p.tables e below (T9.setTop (mkF m 9 #[.val (.int p1), .val (.ref h0.size), .val (.int (10 : Int32)), .val (.int (((((((((0 : Int32) + (1 : Int32)) + (1 : Int32)) + (1 : Int32)) + (1 : Int32)) + (1 : Int32)) + (1 : Int32)) + (1 : Int32)) + (1 : Int32))), .val (.ref w7)] [])) _
    refine XS.iloadN X9.here hx rfl (hb hby d1_9) rfl ?_
    show Steps p.tables e below (T9.setTop (mkF m 10 #[.val (.int p1), .val (.ref h0.size), .val (.int (10 : Int32)), .val (.int (((((((((0 : Int32) + (1 : Int32)) + (1 : Int32)) + (1 : Int32)) + (1 : Int32)) + (1 : Int32)) + (1 : Int32)) + (1 : Int32)) + (1 : Int32))), .val (.ref w7)] [(.int (((((((((0 : Int32) + (1 : Int32)) + (1 : Int32)) + (1 : Int32)) + (1 : Int32)) + (1 : Int32)) + (1 : Int32)) + (1 : Int32)) + (1 : Int32)))])) _
    refine XS.iloadN X9.here hx rfl (hb hby d1_10) rfl ?_
    show Steps p.tables e below (T9.setTop (mkF m 11 #[.val (.int p1), .val (.ref h0.size), .val (.int (10 : Int32)), .val (.int (((((((((0 : Int32) + (1 : Int32)) + (1 : Int32)) + (1 : Int32)) + (1 : Int32)) + (1 : Int32)) + (1 : Int32)) + (1 : Int32)) + (1 : Int32))), .val (.ref w7)] [(.int (10 : Int32)), (.int (((((((((0 : Int32) + (1 : Int32)) + (1 : Int32)) + (1 : Int32)) + (1 : Int32)) + (1 : Int32)) + (1 : Int32)) + (1 : Int32)) + (1 : Int32)))])) _
    refine XS.icmpNo X9.here hx rfl (hb hby d1_11) rfl (tlt (by decide +kernel)).2.1 ?_
    show Steps p.tables e below (T9.setTop (mkF m 14 #[.val (.int p1), .val (.ref h0.size), .val (.int (10 : Int32)), .val (.int (((((((((0 : Int32) + (1 : Int32)) + (1 : Int32)) + (1 : Int32)) + (1 : Int32)) + (1 : Int32)) + (1 : Int32)) + (1 : Int32)) + (1 : Int32))), .val (.ref w7)] [])) _
    refine XS.aloadN X9.here hx rfl (hb hby d1_14) rfl rfl ?_
    show Steps p.tables e below (T9.setTop (mkF m 15 #[.val (.int p1), .val (.ref h0.size), .val (.int (10 : Int32)), .val (.int (((((((((0 : Int32) + (1 : Int32)) + (1 : Int32)) + (1 : Int32)) + (1 : Int32)) + (1 : Int32)) + (1 : Int32)) + (1 : Int32)) + (1 : Int32))), .val (.ref w7)] [(.ref h0.size)])) _
    refine XS.iloadN X9.here hx rfl (hb hby d1_15) rfl ?_
    show Steps p.tables e below (T9.setTop (mkF m 16 #[.val (.int p1), .val (.ref h0.size), .val (.int (10 : Int32)), .val (.int (((((((((0 : Int32) + (1 : Int32)) + (1 : Int32)) + (1 : Int32)) + (1 : Int32)) + (1 : Int32)) + (1 : Int32)) + (1 : Int32)) + (1 : Int32))), .val (.ref w7)] [(.int (((((((((0 : Int32) + (1 : Int32)) + (1 : Int32)) + (1 : Int32)) + (1 : Int32)) + (1 : Int32)) + (1 : Int32)) + (1 : Int32)) + (1 : Int32))), (.ref h0.size)])) _
    refine X9.aaload hx (j := (((((((((0 : Int32) + (1 : Int32)) + (1 : Int32)) + (1 : Int32)) + (1 : Int32)) + (1 : Int32)) + (1 : Int32)) + (1 : Int32)) + (1 : Int32))) (v := (.ref w8)) (by rw [e9]; exact Ar.1) (State.isArrayOf_alike hZ.alike Ar.2.1) rfl Ar.2.2 (inb_of Sz ⟨by decide, by decide⟩) (H.at (inb_of Sz ⟨by decide, by decide⟩) rfl) (g := (mkF m 16 #[.val (.int p1), .val (.ref h0.size), .val (.int (10 : Int32)), .val (.int (((((((((0 : Int32) + (1 : Int32)) + (1 : Int32)) + (1 : Int32)) + (1 : Int32)) + (1 : Int32)) + (1 : Int32)) + (1 : Int32)) + (1 : Int32))), .val (.ref w7)] [(.int (((((((((0 : Int32) + (1 : Int32)) + (1 : Int32)) + (1 : Int32)) + (1 : Int32)) + (1 : Int32)) + (1 : Int32)) + (1 : Int32)) + (1 : Int32))), (.ref h0.size)])) rfl rfl (hb hby d1_16) _ ?_
    show Steps p.tables e below (T9.setTop (mkF m 17 #[.val (.int p1), .val (.ref h0.size), .val (.int (10 : Int32)), .val (.int (((((((((0 : Int32) + (1 : Int32)) + (1 : Int32)) + (1 : Int32)) + (1 : Int32)) + (1 : Int32)) + (1 : Int32)) + (1 : Int32)) + (1 : Int32))), .val (.ref w7)] [(.ref w8)])) _
    refine XS.astore X9.here hx rfl (hb hby d1_17) rfl rfl (l' := #[.val (.int p1), .val (.ref h0.size), .val (.int (10 : Int32)), .val (.int (((((((((0 : Int32) + (1 : Int32)) + (1 : Int32)) + (1 : Int32)) + (1 : Int32)) + (1 : Int32)) + (1 : Int32)) + (1 : Int32)) + (1 : Int32))), .val (.ref w8)]) rfl ?_
    show Steps p.tables e below (T9.setTop (mkF m 19 #[.val (.int p1), .val (.ref h0.size), .val (.int (10 : Int32)), .val (.int (((((((((0 : Int32) + (1 : Int32)) + (1 : Int32)) + (1 : Int32)) + (1 : Int32)) + (1 : Int32)) + (1 : Int32)) + (1 : Int32)) + (1 : Int32))), .val (.ref w8)] [])) _
    refine XS.aload X9.here hx rfl (hb hby d1_19) rfl rfl ?_
    show Steps p.tables e below (T9.setTop (mkF m 21 #[.val (.int p1), .val (.ref h0.size), .val (.int (10 : Int32)), .val (.int (((((((((0 : Int32) + (1 : Int32)) + (1 : Int32)) + (1 : Int32)) + (1 : Int32)) + (1 : Int32)) + (1 : Int32)) + (1 : Int32)) + (1 : Int32))), .val (.ref w8)] [(.ref w8)])) _
    refine st10 _ ?_
    show Steps p.tables e below (T10.setTop (mkF m 24 #[.val (.int p1), .val (.ref h0.size), .val (.int (10 : Int32)), .val (.int (((((((((0 : Int32) + (1 : Int32)) + (1 : Int32)) + (1 : Int32)) + (1 : Int32)) + (1 : Int32)) + (1 : Int32)) + (1 : Int32)) + (1 : Int32))), .val (.ref w8)] [(.int (9 : Int32))])) _
    refine XS.iloadN X10.here hx rfl (hb hby d1_24) rfl ?_
    show Steps p.tables e below (T10.setTop (mkF m 25 #[.val (.int p1), .val (.ref h0.size), .val (.int (10 : Int32)), .val (.int (((((((((0 : Int32) + (1 : Int32)) + (1 : Int32)) + (1 : Int32)) + (1 : Int32)) + (1 : Int32)) + (1 : Int32)) + (1 : Int32)) + (1 : Int32))), .val (.ref w8)] [(.int p1), (.int (9 : Int32))])) _
    refine XS.icmpYes X10.here hx rfl (pc0 := 25) (pc' := 31) rfl (hb hby d1_25) rfl (feq hn9).2 (by decide) (by decide) ?_
    show Steps p.tables e below (T10.setTop (mkF m 31 #[.val (.int p1), .val (.ref h0.size), .val (.int (10 : Int32)), .val (.int (((((((((0 : Int32) + (1 : Int32)) + (1 : Int32)) + (1 : Int32)) + (1 : Int32)) + (1 : Int32)) + (1 : Int32)) + (1 : Int32)) + (1 : Int32))), .val (.ref w8)] [])) _
    refine XS.iinc X10.here hx rfl (hb hby d1_31) rfl (l' := #[.val (.int p1), .val (.ref h0.size), .val (.int (10 : Int32)), .val (.int ((((((((((0 : Int32) + (1 : Int32)) + (1 : Int32)) + (1 : Int32)) + (1 : Int32)) + (1 : Int32)) + (1 : Int32)) + (1 : Int32)) + (1 : Int32)) + (1 : Int32))), .val (.ref w8)]) rfl ?_
    show Steps p.tables e below (T10.setTop (mkF m 34 #[.val (.int p1), .val (.ref h0.size), .val (.int (10 : Int32)), .val (.int ((((((((((0 : Int32) + (1 : Int32)) + (1 : Int32)) + (1 : Int32)) + (1 : Int32)) + (1 : Int32)) + (1 : Int32)) + (1 : Int32)) + (1 : Int32)) + (1 : Int32))), .val (.ref w8)] [])) _
    refine XS.goto X10.here hx rfl (pc0 := 34) (pc' := 9) rfl (hb hby d1_34) (by decide) (by decide) ?_
    show Steps p.tables e below (T10.setTop (mkF m 9 #[.val (.int p1), .val (.ref h0.size), .val (.int (10 : Int32)), .val (.int ((((((((((0 : Int32) + (1 : Int32)) + (1 : Int32)) + (1 : Int32)) + (1 : Int32)) + (1 : Int32)) + (1 : Int32)) + (1 : Int32)) + (1 : Int32)) + (1 : Int32))), .val (.ref w8)] [])) _
    refine XS.iloadN X10.here hx rfl (hb hby d1_9) rfl ?_
    show Steps p.tables e below (T10.setTop (mkF m 10 #[.val (.int p1), .val (.ref h0.size), .val (.int (10 : Int32)), .val (.int ((((((((((0 : Int32) + (1 : Int32)) + (1 : Int32)) + (1 : Int32)) + (1 : Int32)) + (1 : Int32)) + (1 : Int32)) + (1 : Int32)) + (1 : Int32)) + (1 : Int32))), .val (.ref w8)] [(.int ((((((((((0 : Int32) + (1 : Int32)) + (1 : Int32)) + (1 : Int32)) + (1 : Int32)) + (1 : Int32)) + (1 : Int32)) + (1 : Int32)) + (1 : Int32)) + (1 : Int32)))])) _
    refine XS.iloadN X10.here hx rfl (hb hby d1_10) rfl ?_
    show Steps p.tables e below (T10.setTop (mkF m 11 #[.val (.int p1), .val (.ref h0.size), .val (.int (10 : Int32)), .val (.int ((((((((((0 : Int32) + (1 : Int32)) + (1 : Int32)) + (1 : Int32)) + (1 : Int32)) + (1 : Int32)) + (1 : Int32)) + (1 : Int32)) + (1 : Int32)) + (1 : Int32))), .val (.ref w8)] [(.int (10 : Int32)), (.int ((((((((((0 : Int32) + (1 : Int32)) + (1 : Int32)) + (1 : Int32)) + (1 : Int32)) + (1 : Int32)) + (1 : Int32)) + (1 : Int32)) + (1 : Int32)) + (1 : Int32)))])) _
    refine XS.icmpNo X10.here hx rfl (hb hby d1_11) rfl (tlt (by decide +kernel)).2.1 ?_
    show Steps p.tables e below (T10.setTop (mkF m 14 #[.val (.int p1), .val (.ref h0.size), .val (.int (10 : Int32)), .val (.int ((((((((((0 : Int32) + (1 : Int32)) + (1 : Int32)) + (1 : Int32)) + (1 : Int32)) + (1 : Int32)) + (1 : Int32)) + (1 : Int32)) + (1 : Int32)) + (1 : Int32))), .val (.ref w8)] [])) _
    refine XS.aloadN X10.here hx rfl (hb hby d1_14) rfl rfl ?_
    show Steps p.tables e below (T10.setTop (mkF m 15 #[.val (.int p1), .val (.ref h0.size), .val (.int (10 : Int32)), .val (.int ((((((((((0 : Int32) + (1 : Int32)) + (1 : Int32)) + (1 : Int32)) + (1 : Int32)) + (1 : Int32)) + (1 : Int32)) + (1 : Int32)) + (1 : Int32)) + (1 : Int32))), .val (.ref w8)] [(.ref h0.size)])) _
    refine XS.iloadN X10.here hx rfl (hb hby d1_15) rfl ?_
    show Steps p.tables e below (T10.setTop (mkF m 16 #[.val (.int p1), .val (.ref h0.size), .val (.int (10 : Int32)), .val (.int ((((((((((0 : Int32) + (1 : Int32)) + (1 : Int32)) + (1 : Int32)) + (1 : Int32)) + (1 : Int32)) + (1 : Int32)) + (1 : Int32)) + (1 : Int32)) + (1 : Int32))), .val (.ref w8)] [(.int ((((((((((0 : Int32) + (1 : Int32)) + (1 : Int32)) + (1 : Int32)) + (1 : Int32)) + (1 : Int32)) + (1 : Int32)) + (1 : Int32)) + (1 : Int32)) + (1 : Int32))), (.ref h0.size)])) _
    refine X10.aaload hx (j := ((((((((((0 : Int32) + (1 : Int32)) + (1 : Int32)) + (1 : Int32)) + (1 : Int32)) + (1 : Int32)) + (1 : Int32)) + (1 : Int32)) + (1 : Int32)) + (1 : Int32))) (v := (.ref w9)) (by rw [e10]; exact Ar.1) (State.isArrayOf_alike hZ.alike Ar.2.1) rfl Ar.2.2 (inb_of Sz ⟨by decide, by decide⟩) (H.at (inb_of Sz ⟨by decide, by decide⟩) rfl) (g := (mkF m 16 #[.val (.int p1), .val (.ref h0.size), .val (.int (10 : Int32)), .val (.int ((((((((((0 : Int32) + (1 : Int32)) + (1 : Int32)) + (1 : Int32)) + (1 : Int32)) + (1 : Int32)) + (1 : Int32)) + (1 : Int32)) + (1 : Int32)) + (1 : Int32))), .val (.ref w8)] [(.int ((((((((((0 : Int32) + (1 : Int32)) + (1 : Int32)) + (1 : Int32)) + (1 : Int32)) + (1 : Int32)) + (1 : Int32)) + (1 : Int32)) + (1 : Int32)) + (1 : Int32))), (.ref h0.size)])) rfl rfl (hb hby d1_16) _ ?_
    show Steps p.tables e below (T10.setTop (mkF m 17 #[.val (.int p1), .val (.ref h0.size), .val (.int (10 : Int32)), .val (.int ((((((((((0 : Int32) + (1 : Int32)) + (1 : Int32)) + (1 : Int32)) + (1 : Int32)) + (1 : Int32)) + (1 : Int32)) + (1 : Int32)) + (1 : Int32)) + (1 : Int32))), .val (.ref w8)] [(.ref w9)])) _
    refine XS.astore X10.here hx rfl (hb hby d1_17) rfl rfl (l' := #[.val (.int p1), .val (.ref h0.size), .val (.int (10 : Int32)), .val (.int ((((((((((0 : Int32) + (1 : Int32)) + (1 : Int32)) + (1 : Int32)) + (1 : Int32)) + (1 : Int32)) + (1 : Int32)) + (1 : Int32)) + (1 : Int32)) + (1 : Int32))), .val (.ref w9)]) rfl ?_
    show Steps p.tables e below (T10.setTop (mkF m 19 #[.val (.int p1), .val (.ref h0.size), .val (.int (10 : Int32)), .val (.int ((((((((((0 : Int32) + (1 : Int32)) + (1 : Int32)) + (1 : Int32)) + (1 : Int32)) + (1 : Int32)) + (1 : Int32)) + (1 : Int32)) + (1 : Int32)) + (1 : Int32))), .val (.ref w9)] [])) _
    refine XS.aload X10.here hx rfl (hb hby d1_19) rfl rfl ?_
    show Steps p.tables e below (T10.setTop (mkF m 21 #[.val (.int p1), .val (.ref h0.size), .val (.int (10 : Int32)), .val (.int ((((((((((0 : Int32) + (1 : Int32)) + (1 : Int32)) + (1 : Int32)) + (1 : Int32)) + (1 : Int32)) + (1 : Int32)) + (1 : Int32)) + (1 : Int32)) + (1 : Int32))), .val (.ref w9)] [(.ref w9)])) _
    refine st11 _ ?_
    show Steps p.tables e below (T11.setTop (mkF m 24 #[.val (.int p1), .val (.ref h0.size), .val (.int (10 : Int32)), .val (.int ((((((((((0 : Int32) + (1 : Int32)) + (1 : Int32)) + (1 : Int32)) + (1 : Int32)) + (1 : Int32)) + (1 : Int32)) + (1 : Int32)) + (1 : Int32)) + (1 : Int32))), .val (.ref w9)] [(.int (10 : Int32))])) _
    refine XS.iloadN X11.here hx rfl (hb hby d1_24) rfl ?_
    show Steps p.tables e below (T11.setTop (mkF m 25 #[.val (.int p1), .val (.ref h0.size), .val (.int (10 : Int32)), .val (.int ((((((((((0 : Int32) + (1 : Int32)) + (1 : Int32)) + (1 : Int32)) + (1 : Int32)) + (1 : Int32)) + (1 : Int32)) + (1 : Int32)) + (1 : Int32)) + (1 : Int32))), .val (.ref w9)] [(.int p1), (.int (10 : Int32))])) _
    refine XS.icmpYes X11.here hx rfl (pc0 := 25) (pc' := 31) rfl (hb hby d1_25) rfl (feq hn10).2 (by decide) (by decide) ?_
    show Steps p.tables e below (T11.setTop (mkF m 31 #[.val (.int p1), .val (.ref h0.size), .val (.int (10 : Int32)), .val (.int ((((((((((0 : Int32) + (1 : Int32)) + (1 : Int32)) + (1 : Int32)) + (1 : Int32)) + (1 : Int32)) + (1 : Int32)) + (1 : Int32)) + (1 : Int32)) + (1 : Int32))), .val (.ref w9)] [])) _
    refine XS.iinc X11.here hx rfl (hb hby d1_31) rfl (l' := #[.val (.int p1), .val (.ref h0.size), .val (.int (10 : Int32)), .val (.int (((((((((((0 : Int32) + (1 : Int32)) + (1 : Int32)) + (1 : Int32)) + (1 : Int32)) + (1 : Int32)) + (1 : Int32)) + (1 : Int32)) + (1 : Int32)) + (1 : Int32)) + (1 : Int32))), .val (.ref w9)]) rfl ?_
    show Steps p.tables e below (T11.setTop (mkF m 34 #[.val (.int p1), .val (.ref h0.size), .val (.int (10 : Int32)), .val (.int (((((((((((0 : Int32) + (1 : Int32)) + (1 : Int32)) + (1 : Int32)) + (1 : Int32)) + (1 : Int32)) + (1 : Int32)) + (1 : Int32)) + (1 : Int32)) + (1 : Int32)) + (1 : Int32))), .val (.ref w9)] [])) _
    refine XS.goto X11.here hx rfl (pc0 := 34) (pc' := 9) rfl (hb hby d1_34) (by decide) (by decide) ?_
    show Steps p.tables e below (T11.setTop (mkF m 9 #[.val (.int p1), .val (.ref h0.size), .val (.int (10 : Int32)), .val (.int (((((((((((0 : Int32) + (1 : Int32)) + (1 : Int32)) + (1 : Int32)) + (1 : Int32)) + (1 : Int32)) + (1 : Int32)) + (1 : Int32)) + (1 : Int32)) + (1 : Int32)) + (1 : Int32))), .val (.ref w9)] [])) _
    refine XS.iloadN X11.here hx rfl (hb hby d1_9) rfl ?_
    show Steps p.tables e below (T11.setTop (mkF m 10 #[.val (.int p1), .val (.ref h0.size), .val (.int (10 : Int32)), .val (.int (((((((((((0 : Int32) + (1 : Int32)) + (1 : Int32)) + (1 : Int32)) + (1 : Int32)) + (1 : Int32)) + (1 : Int32)) + (1 : Int32)) + (1 : Int32)) + (1 : Int32)) + (1 : Int32))), .val (.ref w9)] [(.int (((((((((((0 : Int32) + (1 : Int32)) + (1 : Int32)) + (1 : Int32)) + (1 : Int32)) + (1 : Int32)) + (1 : Int32)) + (1 : Int32)) + (1 : Int32)) + (1 : Int32)) + (1 : Int32)))])) _
    refine XS.iloadN X11.here hx rfl (hb hby d1_10) rfl ?_
    show Steps p.tables e below (T11.setTop (mkF m 11 #[.val (.int p1), .val (.ref h0.size), .val (.int (10 : Int32)), .val (.int (((((((((((0 : Int32) + (1 : Int32)) + (1 : Int32)) + (1 : Int32)) + (1 : Int32)) + (1 : Int32)) + (1 : Int32)) + (1 : Int32)) + (1 : Int32)) + (1 : Int32)) + (1 : Int32))), .val (.ref w9)] [(.int (10 : Int32)), (.int (((((((((((0 : Int32) + (1 : Int32)) + (1 : Int32)) + (1 : Int32)) + (1 : Int32)) + (1 : Int32)) + (1 : Int32)) + (1 : Int32)) + (1 : Int32)) + (1 : Int32)) + (1 : Int32)))])) _
    refine XS.icmpYes X11.here hx rfl (pc0 := 11) (pc' := 37) rfl (hb hby d1_11) rfl (flt (by decide +kernel)).2.1 (by decide) (by decide) ?_
    show Steps p.tables e below (T11.setTop (mkF m 37 #[.val (.int p1), .val (.ref h0.size), .val (.int (10 : Int32)), .val (.int (((((((((((0 : Int32) + (1 : Int32)) + (1 : Int32)) + (1 : Int32)) + (1 : Int32)) + (1 : Int32)) + (1 : Int32)) + (1 : Int32)) + (1 : Int32)) + (1 : Int32)) + (1 : Int32))), .val (.ref w9)] [])) _
    refine XS.aconstNull X11.here hx rfl (hb hby d1_37) ?_
    show Steps p.tables e below (T11.setTop (mkF m 38 #[.val (.int p1), .val (.ref h0.size), .val (.int (10 : Int32)), .val (.int (((((((((((0 : Int32) + (1 : Int32)) + (1 : Int32)) + (1 : Int32)) + (1 : Int32)) + (1 : Int32)) + (1 : Int32)) + (1 : Int32)) + (1 : Int32)) + (1 : Int32)) + (1 : Int32))), .val (.ref w9)] [.null])) _
    jvm_step X11.here [X11.here.top, hx, (hb hby d1_38), X11.method', Bd.returns, Value.isRef, FieldType.isReference]
    first | (intro acts; rw [hr _ acts rfl rfl rfl]) | rw [hr _ _ rfl rfl rfl]
    exact Steps.refl _
  · show QO_11 Z p1 vA kA w0 w1 w2 w3 w4 w5 w6 w7 w8 w9 h0 n0 _ T11.heap _
    rw [e11]
    exact ⟨rfl, N1, Ex⟩
theorem d3_0 : decode method_2_code 0 = .ok (.iload_n 0, 1) := by decide +kernel
theorem d3_1 : decode method_2_code 1 = .ok (.iconst 1, 1) := by decide +kernel
theorem d3_2 : decode method_2_code 2 = .ok (.if_icmp .ne 7, 3) := by decide +kernel
theorem d3_5 : decode method_2_code 5 = .ok (.getstatic 7, 3) := by decide +kernel
theorem d3_8 : decode method_2_code 8 = .ok (.areturn, 1) := by decide +kernel
theorem d3_9 : decode method_2_code 9 = .ok (.iload_n 0, 1) := by decide +kernel
theorem d3_10 : decode method_2_code 10 = .ok (.iconst 2, 1) := by decide +kernel
theorem d3_11 : decode method_2_code 11 = .ok (.if_icmp .ne 7, 3) := by decide +kernel
theorem d3_14 : decode method_2_code 14 = .ok (.getstatic 13, 3) := by decide +kernel
theorem d3_17 : decode method_2_code 17 = .ok (.areturn, 1) := by decide +kernel
theorem d3_18 : decode method_2_code 18 = .ok (.iload_n 0, 1) := by decide +kernel
theorem d3_19 : decode method_2_code 19 = .ok (.iconst 3, 1) := by decide +kernel
theorem d3_20 : decode method_2_code 20 = .ok (.if_icmp .ne 7, 3) := by decide +kernel
theorem d3_23 : decode method_2_code 23 = .ok (.getstatic 16, 3) := by decide +kernel
theorem d3_26 : decode method_2_code 26 = .ok (.areturn, 1) := by decide +kernel
theorem d3_27 : decode method_2_code 27 = .ok (.iload_n 0, 1) := by decide +kernel
theorem d3_28 : decode method_2_code 28 = .ok (.iconst 4, 1) := by decide +kernel
theorem d3_29 : decode method_2_code 29 = .ok (.if_icmp .ne 7, 3) := by decide +kernel
theorem d3_32 : decode method_2_code 32 = .ok (.getstatic 19, 3) := by decide +kernel
theorem d3_35 : decode method_2_code 35 = .ok (.areturn, 1) := by decide +kernel
theorem d3_36 : decode method_2_code 36 = .ok (.iload_n 0, 1) := by decide +kernel
theorem d3_37 : decode method_2_code 37 = .ok (.iconst 5, 1) := by decide +kernel
theorem d3_38 : decode method_2_code 38 = .ok (.if_icmp .ne 7, 3) := by decide +kernel
theorem d3_41 : decode method_2_code 41 = .ok (.getstatic 22, 3) := by decide +kernel
theorem d3_44 : decode method_2_code 44 = .ok (.areturn, 1) := by decide +kernel
theorem d3_45 : decode method_2_code 45 = .ok (.iload_n 0, 1) := by decide +kernel
theorem d3_46 : decode method_2_code 46 = .ok (.bipush 6, 2) := by decide +kernel
theorem d3_48 : decode method_2_code 48 = .ok (.if_icmp .ne 7, 3) := by decide +kernel
theorem d3_51 : decode method_2_code 51 = .ok (.getstatic 25, 3) := by decide +kernel
theorem d3_54 : decode method_2_code 54 = .ok (.areturn, 1) := by decide +kernel
theorem d3_55 : decode method_2_code 55 = .ok (.iload_n 0, 1) := by decide +kernel
theorem d3_56 : decode method_2_code 56 = .ok (.bipush 7, 2) := by decide +kernel
theorem d3_58 : decode method_2_code 58 = .ok (.if_icmp .ne 7, 3) := by decide +kernel
theorem d3_61 : decode method_2_code 61 = .ok (.getstatic 28, 3) := by decide +kernel
theorem d3_64 : decode method_2_code 64 = .ok (.areturn, 1) := by decide +kernel
theorem d3_65 : decode method_2_code 65 = .ok (.iload_n 0, 1) := by decide +kernel
theorem d3_66 : decode method_2_code 66 = .ok (.bipush 8, 2) := by decide +kernel
theorem d3_68 : decode method_2_code 68 = .ok (.if_icmp .ne 7, 3) := by decide +kernel
theorem d3_71 : decode method_2_code 71 = .ok (.getstatic 31, 3) := by decide +kernel
theorem d3_74 : decode method_2_code 74 = .ok (.areturn, 1) := by decide +kernel
theorem d3_75 : decode method_2_code 75 = .ok (.iload_n 0, 1) := by decide +kernel
theorem d3_76 : decode method_2_code 76 = .ok (.bipush 9, 2) := by decide +kernel
theorem d3_78 : decode method_2_code 78 = .ok (.if_icmp .ne 7, 3) := by decide +kernel
theorem d3_81 : decode method_2_code 81 = .ok (.getstatic 34, 3) := by decide +kernel
theorem d3_84 : decode method_2_code 84 = .ok (.areturn, 1) := by decide +kernel
theorem d3_85 : decode method_2_code 85 = .ok (.iload_n 0, 1) := by decide +kernel
theorem d3_86 : decode method_2_code 86 = .ok (.bipush 10, 2) := by decide +kernel
theorem d3_88 : decode method_2_code 88 = .ok (.if_icmp .ne 7, 3) := by decide +kernel
theorem d3_91 : decode method_2_code 91 = .ok (.getstatic 37, 3) := by decide +kernel
theorem d3_94 : decode method_2_code 94 = .ok (.areturn, 1) := by decide +kernel
theorem d3_95 : decode method_2_code 95 = .ok (.aconst_null, 1) := by decide +kernel
theorem d3_96 : decode method_2_code 96 = .ok (.areturn, 1) := by decide +kernel
theorem pn_KindOfPinLaw : plainName "com/example/concordat/concordat/log/KindOfPinLaw" = true := by first | (simp [plainName, overriddenIn]; done) | decide +kernel
theorem ef_3 (m : MethodId) (x0 : Int32) : entryFrame m #[(.int x0)] 1 = mkF m 0 #[.val (.int x0)] [] := by first | (simp [entryFrame, mkF, argsToLocals, Value.category]; done) | rfl
def QE_1 (Z : State) (w : Addr) (h0 : Heap) (n0 : Nat) (v : Option Value) (h : Heap) (L : List Loc) : Prop := v = some (.ref w) ∧ Fr n0 L ∧ h = h0
set_option maxRecDepth 65536 in
set_option maxHeartbeats 40000000 in
theorem rmE_1 (l : Launch) (Z : State) (a0 : Array Value) (hw : ∀ d ∈ tables_1, d.before a0 Z = true) (ws : List Jvm.Cond) (w : Addr) (h0 : Heap) (n0 : Nat) (Z0 : n0 ≤ h0.size) (S : Sta Z h0 "com/example/concordat/concordat/log/LogRecord$Kind" "COMMIT" "Lcom/example/concordat/concordat/log/LogRecord$Kind;" (.ref w)) :
    MetFree l (⟨"com/example/concordat/concordat/log/KindOfPinLaw", "expected", "(B)Lcom/example/concordat/concordat/log/LogRecord$Kind;"⟩ : MethodName) (head1 (Jvm.Cond.code (⟨"com/example/concordat/concordat/log/KindOfPinLaw", "expected", "(B)Lcom/example/concordat/concordat/log/LogRecord$Kind;"⟩ : MethodName) method_2_code 1 (some (.object "com/example/concordat/concordat/log/LogRecord$Kind")) :: ws) ({ frames := 0, cells := 0, slots := 0, locals := 0 } : Room)) (fun a U => a = #[(.int (1 : Int32))] ∧ Z.Warmed39 U.vm ∧ U.heap = h0) (fun _ _ _ _ _ => True) (fun _ U o U' => ∃ v L, o = .returned v ∧ QE_1 Z w h0 n0 v U'.heap L ∧ FrameEnd U o U' L ({ frames := 0, cells := 0, slots := 0, locals := 0 } : Room).cells ({ frames := 0, cells := 0, slots := 0, locals := 0 } : Room).slots) := by
  refine MetFree.of_bodySF (plainFor_of_name pn_KindOfPinLaw) hisR ?_
  intro p e s m args below meth c s₁ Bd hml0 hP hK
  obtain ⟨rfl, hZ, hh⟩ := hP
  have hx := Bd.exec
  have hby := Bd.bytes
  have hml : c.maxLocals = 1 := hml0
  have hown : s.vm.findClass "com/example/concordat/concordat/log/KindOfPinLaw" = some m.cls := findClass_of_methodNamed Bd.named
  have hnm := (name_of_methodNamed Bd.named Bd.method).1
  have X0 : Stand p l e ({ frames := 0, cells := 0, slots := 0, locals := 0 } : Room) s m #[(.int (1 : Int32))] below meth c s₁ [] 0 0 := Stand.of_body Bd
  have e0 : s₁.heap = h0 := by rw [← hh, Bd.state]; rfl
  have N0 := Fr.nil n0
  have pre0 : ∀ t, Steps p.tables e below (s₁.setTop (mkF m 0 #[.val (.int (1 : Int32))] [])) t → Steps p.tables e below (s₁.setTop (entryFrame m #[(.int (1 : Int32))] 1)) t := fun t k => castTop (ef_3 m (1 : Int32)) k
  obtain ⟨T1, X1, e1, st1⟩ := getS2 X0 hx hZ hown (host := "") (Or.inl (hw _ (List.mem_of_getElem? (i := 40) rfl))) Via.refl e0 S (g := (mkF m 5 #[.val (.int (1 : Int32))] [])) rfl (hb hby d3_5)
  obtain ⟨fs, hr, hrun, hended, hW, hsame⟩ := X1.leave (v := some (.ref w)) (fun h => by rw [Bd.returns] at h; cases h)
  refine ⟨_, _, pre0 _ ?_, hrun, hended, _, _, rfl, ?_, ⟨_, rfl⟩, hW, hsame.mono (by decide) (by decide)⟩
  · show Steps p.tables e below (s₁.setTop (mkF m 0 #[.val (.int (1 : Int32))] [])) _
    refine XS.iloadN X0.here hx rfl (hb hby d3_0) rfl ?_
    show Steps p.tables e below (s₁.setTop (mkF m 1 #[.val (.int (1 : Int32))] [(.int (1 : Int32))])) _
    refine XS.iconst X0.here hx rfl (hb hby d3_1) ?_
    show Steps p.tables e below (s₁.setTop (mkF m 2 #[.val (.int (1 : Int32))] [(.int (1 : Int32)), (.int (1 : Int32))])) _
    refine XS.icmpNo X0.here hx rfl (hb hby d3_2) rfl (teq (by decide +kernel)).2 ?_
    show Steps p.tables e below (s₁.setTop (mkF m 5 #[.val (.int (1 : Int32))] [])) _
    refine st1 _ ?_
    show Steps p.tables e below (T1.setTop (mkF m 8 #[.val (.int (1 : Int32))] [(.ref w)])) _
    jvm_step X1.here [X1.here.top, hx, (hb hby d3_8), X1.method', Bd.returns, Value.isRef, FieldType.isReference]
    first | (intro acts; rw [hr _ acts rfl rfl rfl]) | rw [hr _ _ rfl rfl rfl]
    exact Steps.refl _
  · show QE_1 Z w h0 n0 _ T1.heap _
    rw [e1]
    exact ⟨rfl, N0, rfl⟩
def QE_2 (Z : State) (w : Addr) (h0 : Heap) (n0 : Nat) (v : Option Value) (h : Heap) (L : List Loc) : Prop := v = some (.ref w) ∧ Fr n0 L ∧ h = h0
set_option maxRecDepth 65536 in
set_option maxHeartbeats 40000000 in
theorem rmE_2 (l : Launch) (Z : State) (a0 : Array Value) (hw : ∀ d ∈ tables_1, d.before a0 Z = true) (ws : List Jvm.Cond) (w : Addr) (h0 : Heap) (n0 : Nat) (Z0 : n0 ≤ h0.size) (S : Sta Z h0 "com/example/concordat/concordat/log/LogRecord$Kind" "PREPARE" "Lcom/example/concordat/concordat/log/LogRecord$Kind;" (.ref w)) :
    MetFree l (⟨"com/example/concordat/concordat/log/KindOfPinLaw", "expected", "(B)Lcom/example/concordat/concordat/log/LogRecord$Kind;"⟩ : MethodName) (head1 (Jvm.Cond.code (⟨"com/example/concordat/concordat/log/KindOfPinLaw", "expected", "(B)Lcom/example/concordat/concordat/log/LogRecord$Kind;"⟩ : MethodName) method_2_code 1 (some (.object "com/example/concordat/concordat/log/LogRecord$Kind")) :: ws) ({ frames := 0, cells := 0, slots := 0, locals := 0 } : Room)) (fun a U => a = #[(.int (2 : Int32))] ∧ Z.Warmed39 U.vm ∧ U.heap = h0) (fun _ _ _ _ _ => True) (fun _ U o U' => ∃ v L, o = .returned v ∧ QE_2 Z w h0 n0 v U'.heap L ∧ FrameEnd U o U' L ({ frames := 0, cells := 0, slots := 0, locals := 0 } : Room).cells ({ frames := 0, cells := 0, slots := 0, locals := 0 } : Room).slots) := by
  refine MetFree.of_bodySF (plainFor_of_name pn_KindOfPinLaw) hisR ?_
  intro p e s m args below meth c s₁ Bd hml0 hP hK
  obtain ⟨rfl, hZ, hh⟩ := hP
  have hx := Bd.exec
  have hby := Bd.bytes
  have hml : c.maxLocals = 1 := hml0
  have hown : s.vm.findClass "com/example/concordat/concordat/log/KindOfPinLaw" = some m.cls := findClass_of_methodNamed Bd.named
  have hnm := (name_of_methodNamed Bd.named Bd.method).1
  have X0 : Stand p l e ({ frames := 0, cells := 0, slots := 0, locals := 0 } : Room) s m #[(.int (2 : Int32))] below meth c s₁ [] 0 0 := Stand.of_body Bd
  have e0 : s₁.heap = h0 := by rw [← hh, Bd.state]; rfl
  have N0 := Fr.nil n0
  have pre0 : ∀ t, Steps p.tables e below (s₁.setTop (mkF m 0 #[.val (.int (2 : Int32))] [])) t → Steps p.tables e below (s₁.setTop (entryFrame m #[(.int (2 : Int32))] 1)) t := fun t k => castTop (ef_3 m (2 : Int32)) k
  obtain ⟨T1, X1, e1, st1⟩ := getS2 X0 hx hZ hown (host := "") (Or.inl (hw _ (List.mem_of_getElem? (i := 38) rfl))) Via.refl e0 S (g := (mkF m 14 #[.val (.int (2 : Int32))] [])) rfl (hb hby d3_14)
  obtain ⟨fs, hr, hrun, hended, hW, hsame⟩ := X1.leave (v := some (.ref w)) (fun h => by rw [Bd.returns] at h; cases h)
  refine ⟨_, _, pre0 _ ?_, hrun, hended, _, _, rfl, ?_, ⟨_, rfl⟩, hW, hsame.mono (by decide) (by decide)⟩
  · show Steps p.tables e below (s₁.setTop (mkF m 0 #[.val (.int (2 : Int32))] [])) _
    refine XS.iloadN X0.here hx rfl (hb hby d3_0) rfl ?_
    show Steps p.tables e below (s₁.setTop (mkF m 1 #[.val (.int (2 : Int32))] [(.int (2 : Int32))])) _
    refine XS.iconst X0.here hx rfl (hb hby d3_1) ?_
    show Steps p.tables e below (s₁.setTop (mkF m 2 #[.val (.int (2 : Int32))] [(.int (1 : Int32)), (.int (2 : Int32))])) _
    refine XS.icmpYes X0.here hx rfl (pc0 := 2) (pc' := 9) rfl (hb hby d3_2) rfl (feq (by decide +kernel)).2 (by decide) (by decide) ?_
    show Steps p.tables e below (s₁.setTop (mkF m 9 #[.val (.int (2 : Int32))] [])) _
    refine XS.iloadN X0.here hx rfl (hb hby d3_9) rfl ?_
    show Steps p.tables e below (s₁.setTop (mkF m 10 #[.val (.int (2 : Int32))] [(.int (2 : Int32))])) _
    refine XS.iconst X0.here hx rfl (hb hby d3_10) ?_
    show Steps p.tables e below (s₁.setTop (mkF m 11 #[.val (.int (2 : Int32))] [(.int (2 : Int32)), (.int (2 : Int32))])) _
    refine XS.icmpNo X0.here hx rfl (hb hby d3_11) rfl (teq (by decide +kernel)).2 ?_
    show Steps p.tables e below (s₁.setTop (mkF m 14 #[.val (.int (2 : Int32))] [])) _
    refine st1 _ ?_
    show Steps p.tables e below (T1.setTop (mkF m 17 #[.val (.int (2 : Int32))] [(.ref w)])) _
    jvm_step X1.here [X1.here.top, hx, (hb hby d3_17), X1.method', Bd.returns, Value.isRef, FieldType.isReference]
    first | (intro acts; rw [hr _ acts rfl rfl rfl]) | rw [hr _ _ rfl rfl rfl]
    exact Steps.refl _
  · show QE_2 Z w h0 n0 _ T1.heap _
    rw [e1]
    exact ⟨rfl, N0, rfl⟩
def QE_3 (Z : State) (w : Addr) (h0 : Heap) (n0 : Nat) (v : Option Value) (h : Heap) (L : List Loc) : Prop := v = some (.ref w) ∧ Fr n0 L ∧ h = h0
set_option maxRecDepth 65536 in
set_option maxHeartbeats 40000000 in
theorem rmE_3 (l : Launch) (Z : State) (a0 : Array Value) (hw : ∀ d ∈ tables_1, d.before a0 Z = true) (ws : List Jvm.Cond) (w : Addr) (h0 : Heap) (n0 : Nat) (Z0 : n0 ≤ h0.size) (S : Sta Z h0 "com/example/concordat/concordat/log/LogRecord$Kind" "COMMIT_PREPARED" "Lcom/example/concordat/concordat/log/LogRecord$Kind;" (.ref w)) :
    MetFree l (⟨"com/example/concordat/concordat/log/KindOfPinLaw", "expected", "(B)Lcom/example/concordat/concordat/log/LogRecord$Kind;"⟩ : MethodName) (head1 (Jvm.Cond.code (⟨"com/example/concordat/concordat/log/KindOfPinLaw", "expected", "(B)Lcom/example/concordat/concordat/log/LogRecord$Kind;"⟩ : MethodName) method_2_code 1 (some (.object "com/example/concordat/concordat/log/LogRecord$Kind")) :: ws) ({ frames := 0, cells := 0, slots := 0, locals := 0 } : Room)) (fun a U => a = #[(.int (3 : Int32))] ∧ Z.Warmed39 U.vm ∧ U.heap = h0) (fun _ _ _ _ _ => True) (fun _ U o U' => ∃ v L, o = .returned v ∧ QE_3 Z w h0 n0 v U'.heap L ∧ FrameEnd U o U' L ({ frames := 0, cells := 0, slots := 0, locals := 0 } : Room).cells ({ frames := 0, cells := 0, slots := 0, locals := 0 } : Room).slots) := by
  refine MetFree.of_bodySF (plainFor_of_name pn_KindOfPinLaw) hisR ?_
  intro p e s m args below meth c s₁ Bd hml0 hP hK
  obtain ⟨rfl, hZ, hh⟩ := hP
  have hx := Bd.exec
  have hby := Bd.bytes
  have hml : c.maxLocals = 1 := hml0
  have hown : s.vm.findClass "com/example/concordat/concordat/log/KindOfPinLaw" = some m.cls := findClass_of_methodNamed Bd.named
  have hnm := (name_of_methodNamed Bd.named Bd.method).1
  have X0 : Stand p l e ({ frames := 0, cells := 0, slots := 0, locals := 0 } : Room) s m #[(.int (3 : Int32))] below meth c s₁ [] 0 0 := Stand.of_body Bd
  have e0 : s₁.heap = h0 := by rw [← hh, Bd.state]; rfl
  have N0 := Fr.nil n0
  have pre0 : ∀ t, Steps p.tables e below (s₁.setTop (mkF m 0 #[.val (.int (3 : Int32))] [])) t → Steps p.tables e below (s₁.setTop (entryFrame m #[(.int (3 : Int32))] 1)) t := fun t k => castTop (ef_3 m (3 : Int32)) k
  obtain ⟨T1, X1, e1, st1⟩ := getS2 X0 hx hZ hown (host := "") (Or.inl (hw _ (List.mem_of_getElem? (i := 35) rfl))) Via.refl e0 S (g := (mkF m 23 #[.val (.int (3 : Int32))] [])) rfl (hb hby d3_23)
  obtain ⟨fs, hr, hrun, hended, hW, hsame⟩ := X1.leave (v := some (.ref w)) (fun h => by rw [Bd.returns] at h; cases h)
  refine ⟨_, _, pre0 _ ?_, hrun, hended, _, _, rfl, ?_, ⟨_, rfl⟩, hW, hsame.mono (by decide) (by decide)⟩
  · show Steps p.tables e below (s₁.setTop (mkF m 0 #[.val (.int (3 : Int32))] [])) _
    refine XS.iloadN X0.here hx rfl (hb hby d3_0) rfl ?_
    show Steps p.tables e below (s₁.setTop (mkF m 1 #[.val (.int (3 : Int32))] [(.int (3 : Int32))])) _
    refine XS.iconst X0.here hx rfl (hb hby d3_1) ?_
    show Steps p.tables e below (s₁.setTop (mkF m 2 #[.val (.int (3 : Int32))] [(.int (1 : Int32)), (.int (3 : Int32))])) _
    refine XS.icmpYes X0.here hx rfl (pc0 := 2) (pc' := 9) rfl (hb hby d3_2) rfl (feq (by decide +kernel)).2 (by decide) (by decide) ?_
    show Steps p.tables e below (s₁.setTop (mkF m 9 #[.val (.int (3 : Int32))] [])) _
    refine XS.iloadN X0.here hx rfl (hb hby d3_9) rfl ?_
    show Steps p.tables e below (s₁.setTop (mkF m 10 #[.val (.int (3 : Int32))] [(.int (3 : Int32))])) _
    refine XS.iconst X0.here hx rfl (hb hby d3_10) ?_
    show Steps p.tables e below (s₁.setTop (mkF m 11 #[.val (.int (3 : Int32))] [(.int (2 : Int32)), (.int (3 : Int32))])) _
    refine XS.icmpYes X0.here hx rfl (pc0 := 11) (pc' := 18) rfl (hb hby d3_11) rfl (feq (by decide +kernel)).2 (by decide) (by decide) ?_
    show Steps p.tables e below (s₁.setTop (mkF m 18 #[.val (.int (3 : Int32))] [])) _
    refine XS.iloadN X0.here hx rfl (hb hby d3_18) rfl ?_
    show Steps p.tables e below (s₁.setTop (mkF m 19 #[.val (.int (3 : Int32))] [(.int (3 : Int32))])) _
    refine XS.iconst X0.here hx rfl (hb hby d3_19) ?_
    show Steps p.tables e below (s₁.setTop (mkF m 20 #[.val (.int (3 : Int32))] [(.int (3 : Int32)), (.int (3 : Int32))])) _
    refine XS.icmpNo X0.here hx rfl (hb hby d3_20) rfl (teq (by decide +kernel)).2 ?_
    show Steps p.tables e below (s₁.setTop (mkF m 23 #[.val (.int (3 : Int32))] [])) _
    refine st1 _ ?_
    show Steps p.tables e below (T1.setTop (mkF m 26 #[.val (.int (3 : Int32))] [(.ref w)])) _
    jvm_step X1.here [X1.here.top, hx, (hb hby d3_26), X1.method', Bd.returns, Value.isRef, FieldType.isReference]
    first | (intro acts; rw [hr _ acts rfl rfl rfl]) | rw [hr _ _ rfl rfl rfl]
    exact Steps.refl _
  · show QE_3 Z w h0 n0 _ T1.heap _
    rw [e1]
    exact ⟨rfl, N0, rfl⟩
def QE_4 (Z : State) (w : Addr) (h0 : Heap) (n0 : Nat) (v : Option Value) (h : Heap) (L : List Loc) : Prop := v = some (.ref w) ∧ Fr n0 L ∧ h = h0
set_option maxRecDepth 65536 in
set_option maxHeartbeats 40000000 in
theorem rmE_4 (l : Launch) (Z : State) (a0 : Array Value) (hw : ∀ d ∈ tables_1, d.before a0 Z = true) (ws : List Jvm.Cond) (w : Addr) (h0 : Heap) (n0 : Nat) (Z0 : n0 ≤ h0.size) (S : Sta Z h0 "com/example/concordat/concordat/log/LogRecord$Kind" "ABORT_PREPARED" "Lcom/example/concordat/concordat/log/LogRecord$Kind;" (.ref w)) :
    MetFree l (⟨"com/example/concordat/concordat/log/KindOfPinLaw", "expected", "(B)Lcom/example/concordat/concordat/log/LogRecord$Kind;"⟩ : MethodName) (head1 (Jvm.Cond.code (⟨"com/example/concordat/concordat/log/KindOfPinLaw", "expected", "(B)Lcom/example/concordat/concordat/log/LogRecord$Kind;"⟩ : MethodName) method_2_code 1 (some (.object "com/example/concordat/concordat/log/LogRecord$Kind")) :: ws) ({ frames := 0, cells := 0, slots := 0, locals := 0 } : Room)) (fun a U => a = #[(.int (4 : Int32))] ∧ Z.Warmed39 U.vm ∧ U.heap = h0) (fun _ _ _ _ _ => True) (fun _ U o U' => ∃ v L, o = .returned v ∧ QE_4 Z w h0 n0 v U'.heap L ∧ FrameEnd U o U' L ({ frames := 0, cells := 0, slots := 0, locals := 0 } : Room).cells ({ frames := 0, cells := 0, slots := 0, locals := 0 } : Room).slots) := by
  refine MetFree.of_bodySF (plainFor_of_name pn_KindOfPinLaw) hisR ?_
  intro p e s m args below meth c s₁ Bd hml0 hP hK
  obtain ⟨rfl, hZ, hh⟩ := hP
  have hx := Bd.exec
  have hby := Bd.bytes
  have hml : c.maxLocals = 1 := hml0
  have hown : s.vm.findClass "com/example/concordat/concordat/log/KindOfPinLaw" = some m.cls := findClass_of_methodNamed Bd.named
  have hnm := (name_of_methodNamed Bd.named Bd.method).1
  have X0 : Stand p l e ({ frames := 0, cells := 0, slots := 0, locals := 0 } : Room) s m #[(.int (4 : Int32))] below meth c s₁ [] 0 0 := Stand.of_body Bd
  have e0 : s₁.heap = h0 := by rw [← hh, Bd.state]; rfl
  have N0 := Fr.nil n0
  have pre0 : ∀ t, Steps p.tables e below (s₁.setTop (mkF m 0 #[.val (.int (4 : Int32))] [])) t → Steps p.tables e below (s₁.setTop (entryFrame m #[(.int (4 : Int32))] 1)) t := fun t k => castTop (ef_3 m (4 : Int32)) k
  obtain ⟨T1, X1, e1, st1⟩ := getS2 X0 hx hZ hown (host := "") (Or.inl (hw _ (List.mem_of_getElem? (i := 45) rfl))) Via.refl e0 S (g := (mkF m 32 #[.val (.int (4 : Int32))] [])) rfl (hb hby d3_32)
  obtain ⟨fs, hr, hrun, hended, hW, hsame⟩ := X1.leave (v := some (.ref w)) (fun h => by rw [Bd.returns] at h; cases h)
  refine ⟨_, _, pre0 _ ?_, hrun, hended, _, _, rfl, ?_, ⟨_, rfl⟩, hW, hsame.mono (by decide) (by decide)⟩
  · show Steps p.tables e below (s₁.setTop (mkF m 0 #[.val (.int (4 : Int32))] [])) _
    refine XS.iloadN X0.here hx rfl (hb hby d3_0) rfl ?_
    show Steps p.tables e below (s₁.setTop (mkF m 1 #[.val (.int (4 : Int32))] [(.int (4 : Int32))])) _
    refine XS.iconst X0.here hx rfl (hb hby d3_1) ?_
    show Steps p.tables e below (s₁.setTop (mkF m 2 #[.val (.int (4 : Int32))] [(.int (1 : Int32)), (.int (4 : Int32))])) _
    refine XS.icmpYes X0.here hx rfl (pc0 := 2) (pc' := 9) rfl (hb hby d3_2) rfl (feq (by decide +kernel)).2 (by decide) (by decide) ?_
    show Steps p.tables e below (s₁.setTop (mkF m 9 #[.val (.int (4 : Int32))] [])) _
    refine XS.iloadN X0.here hx rfl (hb hby d3_9) rfl ?_
    show Steps p.tables e below (s₁.setTop (mkF m 10 #[.val (.int (4 : Int32))] [(.int (4 : Int32))])) _
    refine XS.iconst X0.here hx rfl (hb hby d3_10) ?_
    show Steps p.tables e below (s₁.setTop (mkF m 11 #[.val (.int (4 : Int32))] [(.int (2 : Int32)), (.int (4 : Int32))])) _
    refine XS.icmpYes X0.here hx rfl (pc0 := 11) (pc' := 18) rfl (hb hby d3_11) rfl (feq (by decide +kernel)).2 (by decide) (by decide) ?_
    show Steps p.tables e below (s₁.setTop (mkF m 18 #[.val (.int (4 : Int32))] [])) _
    refine XS.iloadN X0.here hx rfl (hb hby d3_18) rfl ?_
    show Steps p.tables e below (s₁.setTop (mkF m 19 #[.val (.int (4 : Int32))] [(.int (4 : Int32))])) _
    refine XS.iconst X0.here hx rfl (hb hby d3_19) ?_
    show Steps p.tables e below (s₁.setTop (mkF m 20 #[.val (.int (4 : Int32))] [(.int (3 : Int32)), (.int (4 : Int32))])) _
    refine XS.icmpYes X0.here hx rfl (pc0 := 20) (pc' := 27) rfl (hb hby d3_20) rfl (feq (by decide +kernel)).2 (by decide) (by decide) ?_
    show Steps p.tables e below (s₁.setTop (mkF m 27 #[.val (.int (4 : Int32))] [])) _
    refine XS.iloadN X0.here hx rfl (hb hby d3_27) rfl ?_
    show Steps p.tables e below (s₁.setTop (mkF m 28 #[.val (.int (4 : Int32))] [(.int (4 : Int32))])) _
    refine XS.iconst X0.here hx rfl (hb hby d3_28) ?_
    show Steps p.tables e below (s₁.setTop (mkF m 29 #[.val (.int (4 : Int32))] [(.int (4 : Int32)), (.int (4 : Int32))])) _
    refine XS.icmpNo X0.here hx rfl (hb hby d3_29) rfl (teq (by decide +kernel)).2 ?_
    show Steps p.tables e below (s₁.setTop (mkF m 32 #[.val (.int (4 : Int32))] [])) _
    refine st1 _ ?_
    show Steps p.tables e below (T1.setTop (mkF m 35 #[.val (.int (4 : Int32))] [(.ref w)])) _
    jvm_step X1.here [X1.here.top, hx, (hb hby d3_35), X1.method', Bd.returns, Value.isRef, FieldType.isReference]
    first | (intro acts; rw [hr _ acts rfl rfl rfl]) | rw [hr _ _ rfl rfl rfl]
    exact Steps.refl _
  · show QE_4 Z w h0 n0 _ T1.heap _
    rw [e1]
    exact ⟨rfl, N0, rfl⟩
def QE_5 (Z : State) (w : Addr) (h0 : Heap) (n0 : Nat) (v : Option Value) (h : Heap) (L : List Loc) : Prop := v = some (.ref w) ∧ Fr n0 L ∧ h = h0
set_option maxRecDepth 65536 in
set_option maxHeartbeats 40000000 in
theorem rmE_5 (l : Launch) (Z : State) (a0 : Array Value) (hw : ∀ d ∈ tables_1, d.before a0 Z = true) (ws : List Jvm.Cond) (w : Addr) (h0 : Heap) (n0 : Nat) (Z0 : n0 ≤ h0.size) (S : Sta Z h0 "com/example/concordat/concordat/log/LogRecord$Kind" "DECISION" "Lcom/example/concordat/concordat/log/LogRecord$Kind;" (.ref w)) :
    MetFree l (⟨"com/example/concordat/concordat/log/KindOfPinLaw", "expected", "(B)Lcom/example/concordat/concordat/log/LogRecord$Kind;"⟩ : MethodName) (head1 (Jvm.Cond.code (⟨"com/example/concordat/concordat/log/KindOfPinLaw", "expected", "(B)Lcom/example/concordat/concordat/log/LogRecord$Kind;"⟩ : MethodName) method_2_code 1 (some (.object "com/example/concordat/concordat/log/LogRecord$Kind")) :: ws) ({ frames := 0, cells := 0, slots := 0, locals := 0 } : Room)) (fun a U => a = #[(.int (5 : Int32))] ∧ Z.Warmed39 U.vm ∧ U.heap = h0) (fun _ _ _ _ _ => True) (fun _ U o U' => ∃ v L, o = .returned v ∧ QE_5 Z w h0 n0 v U'.heap L ∧ FrameEnd U o U' L ({ frames := 0, cells := 0, slots := 0, locals := 0 } : Room).cells ({ frames := 0, cells := 0, slots := 0, locals := 0 } : Room).slots) := by
  refine MetFree.of_bodySF (plainFor_of_name pn_KindOfPinLaw) hisR ?_
  intro p e s m args below meth c s₁ Bd hml0 hP hK
  obtain ⟨rfl, hZ, hh⟩ := hP
  have hx := Bd.exec
  have hby := Bd.bytes
  have hml : c.maxLocals = 1 := hml0
  have hown : s.vm.findClass "com/example/concordat/concordat/log/KindOfPinLaw" = some m.cls := findClass_of_methodNamed Bd.named
  have hnm := (name_of_methodNamed Bd.named Bd.method).1
  have X0 : Stand p l e ({ frames := 0, cells := 0, slots := 0, locals := 0 } : Room) s m #[(.int (5 : Int32))] below meth c s₁ [] 0 0 := Stand.of_body Bd
  have e0 : s₁.heap = h0 := by rw [← hh, Bd.state]; rfl
  have N0 := Fr.nil n0
  have pre0 : ∀ t, Steps p.tables e below (s₁.setTop (mkF m 0 #[.val (.int (5 : Int32))] [])) t → Steps p.tables e below (s₁.setTop (entryFrame m #[(.int (5 : Int32))] 1)) t := fun t k => castTop (ef_3 m (5 : Int32)) k
  obtain ⟨T1, X1, e1, st1⟩ := getS2 X0 hx hZ hown (host := "") (Or.inl (hw _ (List.mem_of_getElem? (i := 44) rfl))) Via.refl e0 S (g := (mkF m 41 #[.val (.int (5 : Int32))] [])) rfl (hb hby d3_41)
  obtain ⟨fs, hr, hrun, hended, hW, hsame⟩ := X1.leave (v := some (.ref w)) (fun h => by rw [Bd.returns] at h; cases h)
  refine ⟨_, _, pre0 _ ?_, hrun, hended, _, _, rfl, ?_, ⟨_, rfl⟩, hW, hsame.mono (by decide) (by decide)⟩
  · show Steps p.tables e below (s₁.setTop (mkF m 0 #[.val (.int (5 : Int32))] [])) _
    refine XS.iloadN X0.here hx rfl (hb hby d3_0) rfl ?_
    show Steps p.tables e below (s₁.setTop (mkF m 1 #[.val (.int (5 : Int32))] [(.int (5 : Int32))])) _
    refine XS.iconst X0.here hx rfl (hb hby d3_1) ?_
    show Steps p.tables e below (s₁.setTop (mkF m 2 #[.val (.int (5 : Int32))] [(.int (1 : Int32)), (.int (5 : Int32))])) _
    refine XS.icmpYes X0.here hx rfl (pc0 := 2) (pc' := 9) rfl (hb hby d3_2) rfl (feq (by decide +kernel)).2 (by decide) (by decide) ?_
    show Steps p.tables e below (s₁.setTop (mkF m 9 #[.val (.int (5 : Int32))] [])) _
    refine XS.iloadN X0.here hx rfl (hb hby d3_9) rfl ?_
    show Steps p.tables e below (s₁.setTop (mkF m 10 #[.val (.int (5 : Int32))] [(.int (5 : Int32))])) _
    refine XS.iconst X0.here hx rfl (hb hby d3_10) ?_
    show Steps p.tables e below (s₁.setTop (mkF m 11 #[.val (.int (5 : Int32))] [(.int (2 : Int32)), (.int (5 : Int32))])) _
    refine XS.icmpYes X0.here hx rfl (pc0 := 11) (pc' := 18) rfl (hb hby d3_11) rfl (feq (by decide +kernel)).2 (by decide) (by decide) ?_
    show Steps p.tables e below (s₁.setTop (mkF m 18 #[.val (.int (5 : Int32))] [])) _
    refine XS.iloadN X0.here hx rfl (hb hby d3_18) rfl ?_
    show Steps p.tables e below (s₁.setTop (mkF m 19 #[.val (.int (5 : Int32))] [(.int (5 : Int32))])) _
    refine XS.iconst X0.here hx rfl (hb hby d3_19) ?_
    show Steps p.tables e below (s₁.setTop (mkF m 20 #[.val (.int (5 : Int32))] [(.int (3 : Int32)), (.int (5 : Int32))])) _
    refine XS.icmpYes X0.here hx rfl (pc0 := 20) (pc' := 27) rfl (hb hby d3_20) rfl (feq (by decide +kernel)).2 (by decide) (by decide) ?_
    show Steps p.tables e below (s₁.setTop (mkF m 27 #[.val (.int (5 : Int32))] [])) _
    refine XS.iloadN X0.here hx rfl (hb hby d3_27) rfl ?_
    show Steps p.tables e below (s₁.setTop (mkF m 28 #[.val (.int (5 : Int32))] [(.int (5 : Int32))])) _
    refine XS.iconst X0.here hx rfl (hb hby d3_28) ?_
    show Steps p.tables e below (s₁.setTop (mkF m 29 #[.val (.int (5 : Int32))] [(.int (4 : Int32)), (.int (5 : Int32))])) _
    refine XS.icmpYes X0.here hx rfl (pc0 := 29) (pc' := 36) rfl (hb hby d3_29) rfl (feq (by decide +kernel)).2 (by decide) (by decide) ?_
    show Steps p.tables e below (s₁.setTop (mkF m 36 #[.val (.int (5 : Int32))] [])) _
    refine XS.iloadN X0.here hx rfl (hb hby d3_36) rfl ?_
    show Steps p.tables e below (s₁.setTop (mkF m 37 #[.val (.int (5 : Int32))] [(.int (5 : Int32))])) _
    refine XS.iconst X0.here hx rfl (hb hby d3_37) ?_
    show Steps p.tables e below (s₁.setTop (mkF m 38 #[.val (.int (5 : Int32))] [(.int (5 : Int32)), (.int (5 : Int32))])) _
    refine XS.icmpNo X0.here hx rfl (hb hby d3_38) rfl (teq (by decide +kernel)).2 ?_
    show Steps p.tables e below (s₁.setTop (mkF m 41 #[.val (.int (5 : Int32))] [])) _
    refine st1 _ ?_
    show Steps p.tables e below (T1.setTop (mkF m 44 #[.val (.int (5 : Int32))] [(.ref w)])) _
    jvm_step X1.here [X1.here.top, hx, (hb hby d3_44), X1.method', Bd.returns, Value.isRef, FieldType.isReference]
    first | (intro acts; rw [hr _ acts rfl rfl rfl]) | rw [hr _ _ rfl rfl rfl]
    exact Steps.refl _
  · show QE_5 Z w h0 n0 _ T1.heap _
    rw [e1]
    exact ⟨rfl, N0, rfl⟩
def QE_6 (Z : State) (w : Addr) (h0 : Heap) (n0 : Nat) (v : Option Value) (h : Heap) (L : List Loc) : Prop := v = some (.ref w) ∧ Fr n0 L ∧ h = h0
set_option maxRecDepth 65536 in
set_option maxHeartbeats 40000000 in
theorem rmE_6 (l : Launch) (Z : State) (a0 : Array Value) (hw : ∀ d ∈ tables_1, d.before a0 Z = true) (ws : List Jvm.Cond) (w : Addr) (h0 : Heap) (n0 : Nat) (Z0 : n0 ≤ h0.size) (S : Sta Z h0 "com/example/concordat/concordat/log/LogRecord$Kind" "FINISHED" "Lcom/example/concordat/concordat/log/LogRecord$Kind;" (.ref w)) :
    MetFree l (⟨"com/example/concordat/concordat/log/KindOfPinLaw", "expected", "(B)Lcom/example/concordat/concordat/log/LogRecord$Kind;"⟩ : MethodName) (head1 (Jvm.Cond.code (⟨"com/example/concordat/concordat/log/KindOfPinLaw", "expected", "(B)Lcom/example/concordat/concordat/log/LogRecord$Kind;"⟩ : MethodName) method_2_code 1 (some (.object "com/example/concordat/concordat/log/LogRecord$Kind")) :: ws) ({ frames := 0, cells := 0, slots := 0, locals := 0 } : Room)) (fun a U => a = #[(.int (6 : Int32))] ∧ Z.Warmed39 U.vm ∧ U.heap = h0) (fun _ _ _ _ _ => True) (fun _ U o U' => ∃ v L, o = .returned v ∧ QE_6 Z w h0 n0 v U'.heap L ∧ FrameEnd U o U' L ({ frames := 0, cells := 0, slots := 0, locals := 0 } : Room).cells ({ frames := 0, cells := 0, slots := 0, locals := 0 } : Room).slots) := by
  refine MetFree.of_bodySF (plainFor_of_name pn_KindOfPinLaw) hisR ?_
  intro p e s m args below meth c s₁ Bd hml0 hP hK
  obtain ⟨rfl, hZ, hh⟩ := hP
  have hx := Bd.exec
  have hby := Bd.bytes
  have hml : c.maxLocals = 1 := hml0
  have hown : s.vm.findClass "com/example/concordat/concordat/log/KindOfPinLaw" = some m.cls := findClass_of_methodNamed Bd.named
  have hnm := (name_of_methodNamed Bd.named Bd.method).1
  have X0 : Stand p l e ({ frames := 0, cells := 0, slots := 0, locals := 0 } : Room) s m #[(.int (6 : Int32))] below meth c s₁ [] 0 0 := Stand.of_body Bd
  have e0 : s₁.heap = h0 := by rw [← hh, Bd.state]; rfl
  have N0 := Fr.nil n0
  have pre0 : ∀ t, Steps p.tables e below (s₁.setTop (mkF m 0 #[.val (.int (6 : Int32))] [])) t → Steps p.tables e below (s₁.setTop (entryFrame m #[(.int (6 : Int32))] 1)) t := fun t k => castTop (ef_3 m (6 : Int32)) k
  obtain ⟨T1, X1, e1, st1⟩ := getS2 X0 hx hZ hown (host := "") (Or.inl (hw _ (List.mem_of_getElem? (i := 42) rfl))) Via.refl e0 S (g := (mkF m 51 #[.val (.int (6 : Int32))] [])) rfl (hb hby d3_51)
  obtain ⟨fs, hr, hrun, hended, hW, hsame⟩ := X1.leave (v := some (.ref w)) (fun h => by rw [Bd.returns] at h; cases h)
  refine ⟨_, _, pre0 _ ?_, hrun, hended, _, _, rfl, ?_, ⟨_, rfl⟩, hW, hsame.mono (by decide) (by decide)⟩
  · show Steps p.tables e below (s₁.setTop (mkF m 0 #[.val (.int (6 : Int32))] [])) _
    refine XS.iloadN X0.here hx rfl (hb hby d3_0) rfl ?_
    show Steps p.tables e below (s₁.setTop (mkF m 1 #[.val (.int (6 : Int32))] [(.int (6 : Int32))])) _
    refine XS.iconst X0.here hx rfl (hb hby d3_1) ?_
    show Steps p.tables e below (s₁.setTop (mkF m 2 #[.val (.int (6 : Int32))] [(.int (1 : Int32)), (.int (6 : Int32))])) _
    refine XS.icmpYes X0.here hx rfl (pc0 := 2) (pc' := 9) rfl (hb hby d3_2) rfl (feq (by decide +kernel)).2 (by decide) (by decide) ?_
    show Steps p.tables e below (s₁.setTop (mkF m 9 #[.val (.int (6 : Int32))] [])) _
    refine XS.iloadN X0.here hx rfl (hb hby d3_9) rfl ?_
    show Steps p.tables e below (s₁.setTop (mkF m 10 #[.val (.int (6 : Int32))] [(.int (6 : Int32))])) _
    refine XS.iconst X0.here hx rfl (hb hby d3_10) ?_
    show Steps p.tables e below (s₁.setTop (mkF m 11 #[.val (.int (6 : Int32))] [(.int (2 : Int32)), (.int (6 : Int32))])) _
    refine XS.icmpYes X0.here hx rfl (pc0 := 11) (pc' := 18) rfl (hb hby d3_11) rfl (feq (by decide +kernel)).2 (by decide) (by decide) ?_
    show Steps p.tables e below (s₁.setTop (mkF m 18 #[.val (.int (6 : Int32))] [])) _
    refine XS.iloadN X0.here hx rfl (hb hby d3_18) rfl ?_
    show Steps p.tables e below (s₁.setTop (mkF m 19 #[.val (.int (6 : Int32))] [(.int (6 : Int32))])) _
    refine XS.iconst X0.here hx rfl (hb hby d3_19) ?_
    show Steps p.tables e below (s₁.setTop (mkF m 20 #[.val (.int (6 : Int32))] [(.int (3 : Int32)), (.int (6 : Int32))])) _
    refine XS.icmpYes X0.here hx rfl (pc0 := 20) (pc' := 27) rfl (hb hby d3_20) rfl (feq (by decide +kernel)).2 (by decide) (by decide) ?_
    show Steps p.tables e below (s₁.setTop (mkF m 27 #[.val (.int (6 : Int32))] [])) _
    refine XS.iloadN X0.here hx rfl (hb hby d3_27) rfl ?_
    show Steps p.tables e below (s₁.setTop (mkF m 28 #[.val (.int (6 : Int32))] [(.int (6 : Int32))])) _
    refine XS.iconst X0.here hx rfl (hb hby d3_28) ?_
    show Steps p.tables e below (s₁.setTop (mkF m 29 #[.val (.int (6 : Int32))] [(.int (4 : Int32)), (.int (6 : Int32))])) _
    refine XS.icmpYes X0.here hx rfl (pc0 := 29) (pc' := 36) rfl (hb hby d3_29) rfl (feq (by decide +kernel)).2 (by decide) (by decide) ?_
    show Steps p.tables e below (s₁.setTop (mkF m 36 #[.val (.int (6 : Int32))] [])) _
    refine XS.iloadN X0.here hx rfl (hb hby d3_36) rfl ?_
    show Steps p.tables e below (s₁.setTop (mkF m 37 #[.val (.int (6 : Int32))] [(.int (6 : Int32))])) _
    refine XS.iconst X0.here hx rfl (hb hby d3_37) ?_
    show Steps p.tables e below (s₁.setTop (mkF m 38 #[.val (.int (6 : Int32))] [(.int (5 : Int32)), (.int (6 : Int32))])) _
    refine XS.icmpYes X0.here hx rfl (pc0 := 38) (pc' := 45) rfl (hb hby d3_38) rfl (feq (by decide +kernel)).2 (by decide) (by decide) ?_
    show Steps p.tables e below (s₁.setTop (mkF m 45 #[.val (.int (6 : Int32))] [])) _
    refine XS.iloadN X0.here hx rfl (hb hby d3_45) rfl ?_
    show Steps p.tables e below (s₁.setTop (mkF m 46 #[.val (.int (6 : Int32))] [(.int (6 : Int32))])) _
    refine XS.bipush X0.here hx rfl (hb hby d3_46) ?_
    show Steps p.tables e below (s₁.setTop (mkF m 48 #[.val (.int (6 : Int32))] [(.int (6 : Int32)), (.int (6 : Int32))])) _
    refine XS.icmpNo X0.here hx rfl (hb hby d3_48) rfl (teq (by decide +kernel)).2 ?_
    show Steps p.tables e below (s₁.setTop (mkF m 51 #[.val (.int (6 : Int32))] [])) _
    refine st1 _ ?_
    show Steps p.tables e below (T1.setTop (mkF m 54 #[.val (.int (6 : Int32))] [(.ref w)])) _
    jvm_step X1.here [X1.here.top, hx, (hb hby d3_54), X1.method', Bd.returns, Value.isRef, FieldType.isReference]
    first | (intro acts; rw [hr _ acts rfl rfl rfl]) | rw [hr _ _ rfl rfl rfl]
    exact Steps.refl _
  · show QE_6 Z w h0 n0 _ T1.heap _
    rw [e1]
    exact ⟨rfl, N0, rfl⟩
def QE_7 (Z : State) (w : Addr) (h0 : Heap) (n0 : Nat) (v : Option Value) (h : Heap) (L : List Loc) : Prop := v = some (.ref w) ∧ Fr n0 L ∧ h = h0
set_option maxRecDepth 65536 in
set_option maxHeartbeats 40000000 in
theorem rmE_7 (l : Launch) (Z : State) (a0 : Array Value) (hw : ∀ d ∈ tables_1, d.before a0 Z = true) (ws : List Jvm.Cond) (w : Addr) (h0 : Heap) (n0 : Nat) (Z0 : n0 ≤ h0.size) (S : Sta Z h0 "com/example/concordat/concordat/log/LogRecord$Kind" "SNAPSHOT" "Lcom/example/concordat/concordat/log/LogRecord$Kind;" (.ref w)) :
    MetFree l (⟨"com/example/concordat/concordat/log/KindOfPinLaw", "expected", "(B)Lcom/example/concordat/concordat/log/LogRecord$Kind;"⟩ : MethodName) (head1 (Jvm.Cond.code (⟨"com/example/concordat/concordat/log/KindOfPinLaw", "expected", "(B)Lcom/example/concordat/concordat/log/LogRecord$Kind;"⟩ : MethodName) method_2_code 1 (some (.object "com/example/concordat/concordat/log/LogRecord$Kind")) :: ws) ({ frames := 0, cells := 0, slots := 0, locals := 0 } : Room)) (fun a U => a = #[(.int (7 : Int32))] ∧ Z.Warmed39 U.vm ∧ U.heap = h0) (fun _ _ _ _ _ => True) (fun _ U o U' => ∃ v L, o = .returned v ∧ QE_7 Z w h0 n0 v U'.heap L ∧ FrameEnd U o U' L ({ frames := 0, cells := 0, slots := 0, locals := 0 } : Room).cells ({ frames := 0, cells := 0, slots := 0, locals := 0 } : Room).slots) := by
  refine MetFree.of_bodySF (plainFor_of_name pn_KindOfPinLaw) hisR ?_
  intro p e s m args below meth c s₁ Bd hml0 hP hK
  obtain ⟨rfl, hZ, hh⟩ := hP
  have hx := Bd.exec
  have hby := Bd.bytes
  have hml : c.maxLocals = 1 := hml0
  have hown : s.vm.findClass "com/example/concordat/concordat/log/KindOfPinLaw" = some m.cls := findClass_of_methodNamed Bd.named
  have hnm := (name_of_methodNamed Bd.named Bd.method).1
  have X0 : Stand p l e ({ frames := 0, cells := 0, slots := 0, locals := 0 } : Room) s m #[(.int (7 : Int32))] below meth c s₁ [] 0 0 := Stand.of_body Bd
  have e0 : s₁.heap = h0 := by rw [← hh, Bd.state]; rfl
  have N0 := Fr.nil n0
  have pre0 : ∀ t, Steps p.tables e below (s₁.setTop (mkF m 0 #[.val (.int (7 : Int32))] [])) t → Steps p.tables e below (s₁.setTop (entryFrame m #[(.int (7 : Int32))] 1)) t := fun t k => castTop (ef_3 m (7 : Int32)) k
  obtain ⟨T1, X1, e1, st1⟩ := getS2 X0 hx hZ hown (host := "") (Or.inl (hw _ (List.mem_of_getElem? (i := 37) rfl))) Via.refl e0 S (g := (mkF m 61 #[.val (.int (7 : Int32))] [])) rfl (hb hby d3_61)
  obtain ⟨fs, hr, hrun, hended, hW, hsame⟩ := X1.leave (v := some (.ref w)) (fun h => by rw [Bd.returns] at h; cases h)
  refine ⟨_, _, pre0 _ ?_, hrun, hended, _, _, rfl, ?_, ⟨_, rfl⟩, hW, hsame.mono (by decide) (by decide)⟩
  · show Steps p.tables e below (s₁.setTop (mkF m 0 #[.val (.int (7 : Int32))] [])) _
    refine XS.iloadN X0.here hx rfl (hb hby d3_0) rfl ?_
    show Steps p.tables e below (s₁.setTop (mkF m 1 #[.val (.int (7 : Int32))] [(.int (7 : Int32))])) _
    refine XS.iconst X0.here hx rfl (hb hby d3_1) ?_
    show Steps p.tables e below (s₁.setTop (mkF m 2 #[.val (.int (7 : Int32))] [(.int (1 : Int32)), (.int (7 : Int32))])) _
    refine XS.icmpYes X0.here hx rfl (pc0 := 2) (pc' := 9) rfl (hb hby d3_2) rfl (feq (by decide +kernel)).2 (by decide) (by decide) ?_
    show Steps p.tables e below (s₁.setTop (mkF m 9 #[.val (.int (7 : Int32))] [])) _
    refine XS.iloadN X0.here hx rfl (hb hby d3_9) rfl ?_
    show Steps p.tables e below (s₁.setTop (mkF m 10 #[.val (.int (7 : Int32))] [(.int (7 : Int32))])) _
    refine XS.iconst X0.here hx rfl (hb hby d3_10) ?_
    show Steps p.tables e below (s₁.setTop (mkF m 11 #[.val (.int (7 : Int32))] [(.int (2 : Int32)), (.int (7 : Int32))])) _
    refine XS.icmpYes X0.here hx rfl (pc0 := 11) (pc' := 18) rfl (hb hby d3_11) rfl (feq (by decide +kernel)).2 (by decide) (by decide) ?_
    show Steps p.tables e below (s₁.setTop (mkF m 18 #[.val (.int (7 : Int32))] [])) _
    refine XS.iloadN X0.here hx rfl (hb hby d3_18) rfl ?_
    show Steps p.tables e below (s₁.setTop (mkF m 19 #[.val (.int (7 : Int32))] [(.int (7 : Int32))])) _
    refine XS.iconst X0.here hx rfl (hb hby d3_19) ?_
    show Steps p.tables e below (s₁.setTop (mkF m 20 #[.val (.int (7 : Int32))] [(.int (3 : Int32)), (.int (7 : Int32))])) _
    refine XS.icmpYes X0.here hx rfl (pc0 := 20) (pc' := 27) rfl (hb hby d3_20) rfl (feq (by decide +kernel)).2 (by decide) (by decide) ?_
    show Steps p.tables e below (s₁.setTop (mkF m 27 #[.val (.int (7 : Int32))] [])) _
    refine XS.iloadN X0.here hx rfl (hb hby d3_27) rfl ?_
    show Steps p.tables e below (s₁.setTop (mkF m 28 #[.val (.int (7 : Int32))] [(.int (7 : Int32))])) _
    refine XS.iconst X0.here hx rfl (hb hby d3_28) ?_
    show Steps p.tables e below (s₁.setTop (mkF m 29 #[.val (.int (7 : Int32))] [(.int (4 : Int32)), (.int (7 : Int32))])) _
    refine XS.icmpYes X0.here hx rfl (pc0 := 29) (pc' := 36) rfl (hb hby d3_29) rfl (feq (by decide +kernel)).2 (by decide) (by decide) ?_
    show Steps p.tables e below (s₁.setTop (mkF m 36 #[.val (.int (7 : Int32))] [])) _
    refine XS.iloadN X0.here hx rfl (hb hby d3_36) rfl ?_
    show Steps p.tables e below (s₁.setTop (mkF m 37 #[.val (.int (7 : Int32))] [(.int (7 : Int32))])) _
    refine XS.iconst X0.here hx rfl (hb hby d3_37) ?_
    show Steps p.tables e below (s₁.setTop (mkF m 38 #[.val (.int (7 : Int32))] [(.int (5 : Int32)), (.int (7 : Int32))])) _
    refine XS.icmpYes X0.here hx rfl (pc0 := 38) (pc' := 45) rfl (hb hby d3_38) rfl (feq (by decide +kernel)).2 (by decide) (by decide) ?_
    show Steps p.tables e below (s₁.setTop (mkF m 45 #[.val (.int (7 : Int32))] [])) _
    refine XS.iloadN X0.here hx rfl (hb hby d3_45) rfl ?_
    show Steps p.tables e below (s₁.setTop (mkF m 46 #[.val (.int (7 : Int32))] [(.int (7 : Int32))])) _
    refine XS.bipush X0.here hx rfl (hb hby d3_46) ?_
    show Steps p.tables e below (s₁.setTop (mkF m 48 #[.val (.int (7 : Int32))] [(.int (6 : Int32)), (.int (7 : Int32))])) _
    refine XS.icmpYes X0.here hx rfl (pc0 := 48) (pc' := 55) rfl (hb hby d3_48) rfl (feq (by decide +kernel)).2 (by decide) (by decide) ?_
    show Steps p.tables e below (s₁.setTop (mkF m 55 #[.val (.int (7 : Int32))] [])) _
    refine XS.iloadN X0.here hx rfl (hb hby d3_55) rfl ?_
    show Steps p.tables e below (s₁.setTop (mkF m 56 #[.val (.int (7 : Int32))] [(.int (7 : Int32))])) _
    refine XS.bipush X0.here hx rfl (hb hby d3_56) ?_
    show Steps p.tables e below (s₁.setTop (mkF m 58 #[.val (.int (7 : Int32))] [(.int (7 : Int32)), (.int (7 : Int32))])) _
    refine XS.icmpNo X0.here hx rfl (hb hby d3_58) rfl (teq (by decide +kernel)).2 ?_
    show Steps p.tables e below (s₁.setTop (mkF m 61 #[.val (.int (7 : Int32))] [])) _
    refine st1 _ ?_
    show Steps p.tables e below (T1.setTop (mkF m 64 #[.val (.int (7 : Int32))] [(.ref w)])) _
    jvm_step X1.here [X1.here.top, hx, (hb hby d3_64), X1.method', Bd.returns, Value.isRef, FieldType.isReference]
    first | (intro acts; rw [hr _ acts rfl rfl rfl]) | rw [hr _ _ rfl rfl rfl]
    exact Steps.refl _
  · show QE_7 Z w h0 n0 _ T1.heap _
    rw [e1]
    exact ⟨rfl, N0, rfl⟩
def QE_8 (Z : State) (w : Addr) (h0 : Heap) (n0 : Nat) (v : Option Value) (h : Heap) (L : List Loc) : Prop := v = some (.ref w) ∧ Fr n0 L ∧ h = h0
set_option maxRecDepth 65536 in
set_option maxHeartbeats 40000000 in
theorem rmE_8 (l : Launch) (Z : State) (a0 : Array Value) (hw : ∀ d ∈ tables_1, d.before a0 Z = true) (ws : List Jvm.Cond) (w : Addr) (h0 : Heap) (n0 : Nat) (Z0 : n0 ≤ h0.size) (S : Sta Z h0 "com/example/concordat/concordat/log/LogRecord$Kind" "ON_DISK" "Lcom/example/concordat/concordat/log/LogRecord$Kind;" (.ref w)) :
    MetFree l (⟨"com/example/concordat/concordat/log/KindOfPinLaw", "expected", "(B)Lcom/example/concordat/concordat/log/LogRecord$Kind;"⟩ : MethodName) (head1 (Jvm.Cond.code (⟨"com/example/concordat/concordat/log/KindOfPinLaw", "expected", "(B)Lcom/example/concordat/concordat/log/LogRecord$Kind;"⟩ : MethodName) method_2_code 1 (some (.object "com/example/concordat/concordat/log/LogRecord$Kind")) :: ws) ({ frames := 0, cells := 0, slots := 0, locals := 0 } : Room)) (fun a U => a = #[(.int (8 : Int32))] ∧ Z.Warmed39 U.vm ∧ U.heap = h0) (fun _ _ _ _ _ => True) (fun _ U o U' => ∃ v L, o = .returned v ∧ QE_8 Z w h0 n0 v U'.heap L ∧ FrameEnd U o U' L ({ frames := 0, cells := 0, slots := 0, locals := 0 } : Room).cells ({ frames := 0, cells := 0, slots := 0, locals := 0 } : Room).slots) := by
  refine MetFree.of_bodySF (plainFor_of_name pn_KindOfPinLaw) hisR ?_
  intro p e s m args below meth c s₁ Bd hml0 hP hK
  obtain ⟨rfl, hZ, hh⟩ := hP
  have hx := Bd.exec
  have hby := Bd.bytes
  have hml : c.maxLocals = 1 := hml0
  have hown : s.vm.findClass "com/example/concordat/concordat/log/KindOfPinLaw" = some m.cls := findClass_of_methodNamed Bd.named
  have hnm := (name_of_methodNamed Bd.named Bd.method).1
  have X0 : Stand p l e ({ frames := 0, cells := 0, slots := 0, locals := 0 } : Room) s m #[(.int (8 : Int32))] below meth c s₁ [] 0 0 := Stand.of_body Bd
  have e0 : s₁.heap = h0 := by rw [← hh, Bd.state]; rfl
  have N0 := Fr.nil n0
  have pre0 : ∀ t, Steps p.tables e below (s₁.setTop (mkF m 0 #[.val (.int (8 : Int32))] [])) t → Steps p.tables e below (s₁.setTop (entryFrame m #[(.int (8 : Int32))] 1)) t := fun t k => castTop (ef_3 m (8 : Int32)) k
  obtain ⟨T1, X1, e1, st1⟩ := getS2 X0 hx hZ hown (host := "") (Or.inl (hw _ (List.mem_of_getElem? (i := 39) rfl))) Via.refl e0 S (g := (mkF m 71 #[.val (.int (8 : Int32))] [])) rfl (hb hby d3_71)
  obtain ⟨fs, hr, hrun, hended, hW, hsame⟩ := X1.leave (v := some (.ref w)) (fun h => by rw [Bd.returns] at h; cases h)
  refine ⟨_, _, pre0 _ ?_, hrun, hended, _, _, rfl, ?_, ⟨_, rfl⟩, hW, hsame.mono (by decide) (by decide)⟩
  · show Steps p.tables e below (s₁.setTop (mkF m 0 #[.val (.int (8 : Int32))] [])) _
    refine XS.iloadN X0.here hx rfl (hb hby d3_0) rfl ?_
    show Steps p.tables e below (s₁.setTop (mkF m 1 #[.val (.int (8 : Int32))] [(.int (8 : Int32))])) _
    refine XS.iconst X0.here hx rfl (hb hby d3_1) ?_
    show Steps p.tables e below (s₁.setTop (mkF m 2 #[.val (.int (8 : Int32))] [(.int (1 : Int32)), (.int (8 : Int32))])) _
    refine XS.icmpYes X0.here hx rfl (pc0 := 2) (pc' := 9) rfl (hb hby d3_2) rfl (feq (by decide +kernel)).2 (by decide) (by decide) ?_
    show Steps p.tables e below (s₁.setTop (mkF m 9 #[.val (.int (8 : Int32))] [])) _
    refine XS.iloadN X0.here hx rfl (hb hby d3_9) rfl ?_
    show Steps p.tables e below (s₁.setTop (mkF m 10 #[.val (.int (8 : Int32))] [(.int (8 : Int32))])) _
    refine XS.iconst X0.here hx rfl (hb hby d3_10) ?_
    show Steps p.tables e below (s₁.setTop (mkF m 11 #[.val (.int (8 : Int32))] [(.int (2 : Int32)), (.int (8 : Int32))])) _
    refine XS.icmpYes X0.here hx rfl (pc0 := 11) (pc' := 18) rfl (hb hby d3_11) rfl (feq (by decide +kernel)).2 (by decide) (by decide) ?_
    show Steps p.tables e below (s₁.setTop (mkF m 18 #[.val (.int (8 : Int32))] [])) _
    refine XS.iloadN X0.here hx rfl (hb hby d3_18) rfl ?_
    show Steps p.tables e below (s₁.setTop (mkF m 19 #[.val (.int (8 : Int32))] [(.int (8 : Int32))])) _
    refine XS.iconst X0.here hx rfl (hb hby d3_19) ?_
    show Steps p.tables e below (s₁.setTop (mkF m 20 #[.val (.int (8 : Int32))] [(.int (3 : Int32)), (.int (8 : Int32))])) _
    refine XS.icmpYes X0.here hx rfl (pc0 := 20) (pc' := 27) rfl (hb hby d3_20) rfl (feq (by decide +kernel)).2 (by decide) (by decide) ?_
    show Steps p.tables e below (s₁.setTop (mkF m 27 #[.val (.int (8 : Int32))] [])) _
    refine XS.iloadN X0.here hx rfl (hb hby d3_27) rfl ?_
    show Steps p.tables e below (s₁.setTop (mkF m 28 #[.val (.int (8 : Int32))] [(.int (8 : Int32))])) _
    refine XS.iconst X0.here hx rfl (hb hby d3_28) ?_
    show Steps p.tables e below (s₁.setTop (mkF m 29 #[.val (.int (8 : Int32))] [(.int (4 : Int32)), (.int (8 : Int32))])) _
    refine XS.icmpYes X0.here hx rfl (pc0 := 29) (pc' := 36) rfl (hb hby d3_29) rfl (feq (by decide +kernel)).2 (by decide) (by decide) ?_
    show Steps p.tables e below (s₁.setTop (mkF m 36 #[.val (.int (8 : Int32))] [])) _
    refine XS.iloadN X0.here hx rfl (hb hby d3_36) rfl ?_
    show Steps p.tables e below (s₁.setTop (mkF m 37 #[.val (.int (8 : Int32))] [(.int (8 : Int32))])) _
    refine XS.iconst X0.here hx rfl (hb hby d3_37) ?_
    show Steps p.tables e below (s₁.setTop (mkF m 38 #[.val (.int (8 : Int32))] [(.int (5 : Int32)), (.int (8 : Int32))])) _
    refine XS.icmpYes X0.here hx rfl (pc0 := 38) (pc' := 45) rfl (hb hby d3_38) rfl (feq (by decide +kernel)).2 (by decide) (by decide) ?_
    show Steps p.tables e below (s₁.setTop (mkF m 45 #[.val (.int (8 : Int32))] [])) _
    refine XS.iloadN X0.here hx rfl (hb hby d3_45) rfl ?_
    show Steps p.tables e below (s₁.setTop (mkF m 46 #[.val (.int (8 : Int32))] [(.int (8 : Int32))])) _
    refine XS.bipush X0.here hx rfl (hb hby d3_46) ?_
    show Steps p.tables e below (s₁.setTop (mkF m 48 #[.val (.int (8 : Int32))] [(.int (6 : Int32)), (.int (8 : Int32))])) _
    refine XS.icmpYes X0.here hx rfl (pc0 := 48) (pc' := 55) rfl (hb hby d3_48) rfl (feq (by decide +kernel)).2 (by decide) (by decide) ?_
    show Steps p.tables e below (s₁.setTop (mkF m 55 #[.val (.int (8 : Int32))] [])) _
    refine XS.iloadN X0.here hx rfl (hb hby d3_55) rfl ?_
    show Steps p.tables e below (s₁.setTop (mkF m 56 #[.val (.int (8 : Int32))] [(.int (8 : Int32))])) _
    refine XS.bipush X0.here hx rfl (hb hby d3_56) ?_
    show Steps p.tables e below (s₁.setTop (mkF m 58 #[.val (.int (8 : Int32))] [(.int (7 : Int32)), (.int (8 : Int32))])) _
    refine XS.icmpYes X0.here hx rfl (pc0 := 58) (pc' := 65) rfl (hb hby d3_58) rfl (feq (by decide +kernel)).2 (by decide) (by decide) ?_
    show Steps p.tables e below (s₁.setTop (mkF m 65 #[.val (.int (8 : Int32))] [])) _
    refine XS.iloadN X0.here hx rfl (hb hby d3_65) rfl ?_
    show Steps p.tables e below (s₁.setTop (mkF m 66 #[.val (.int (8 : Int32))] [(.int (8 : Int32))])) _
    refine XS.bipush X0.here hx rfl (hb hby d3_66) ?_
    show Steps p.tables e below (s₁.setTop (mkF m 68 #[.val (.int (8 : Int32))] [(.int (8 : Int32)), (.int (8 : Int32))])) _
    refine XS.icmpNo X0.here hx rfl (hb hby d3_68) rfl (teq (by decide +kernel)).2 ?_
    show Steps p.tables e below (s₁.setTop (mkF m 71 #[.val (.int (8 : Int32))] [])) _
    refine st1 _ ?_
    show Steps p.tables e below (T1.setTop (mkF m 74 #[.val (.int (8 : Int32))] [(.ref w)])) _
    jvm_step X1.here [X1.here.top, hx, (hb hby d3_74), X1.method', Bd.returns, Value.isRef, FieldType.isReference]
    first | (intro acts; rw [hr _ acts rfl rfl rfl]) | rw [hr _ _ rfl rfl rfl]
    exact Steps.refl _
  · show QE_8 Z w h0 n0 _ T1.heap _
    rw [e1]
    exact ⟨rfl, N0, rfl⟩
def QE_9 (Z : State) (w : Addr) (h0 : Heap) (n0 : Nat) (v : Option Value) (h : Heap) (L : List Loc) : Prop := v = some (.ref w) ∧ Fr n0 L ∧ h = h0
set_option maxRecDepth 65536 in
set_option maxHeartbeats 40000000 in
theorem rmE_9 (l : Launch) (Z : State) (a0 : Array Value) (hw : ∀ d ∈ tables_1, d.before a0 Z = true) (ws : List Jvm.Cond) (w : Addr) (h0 : Heap) (n0 : Nat) (Z0 : n0 ≤ h0.size) (S : Sta Z h0 "com/example/concordat/concordat/log/LogRecord$Kind" "RUN" "Lcom/example/concordat/concordat/log/LogRecord$Kind;" (.ref w)) :
    MetFree l (⟨"com/example/concordat/concordat/log/KindOfPinLaw", "expected", "(B)Lcom/example/concordat/concordat/log/LogRecord$Kind;"⟩ : MethodName) (head1 (Jvm.Cond.code (⟨"com/example/concordat/concordat/log/KindOfPinLaw", "expected", "(B)Lcom/example/concordat/concordat/log/LogRecord$Kind;"⟩ : MethodName) method_2_code 1 (some (.object "com/example/concordat/concordat/log/LogRecord$Kind")) :: ws) ({ frames := 0, cells := 0, slots := 0, locals := 0 } : Room)) (fun a U => a = #[(.int (9 : Int32))] ∧ Z.Warmed39 U.vm ∧ U.heap = h0) (fun _ _ _ _ _ => True) (fun _ U o U' => ∃ v L, o = .returned v ∧ QE_9 Z w h0 n0 v U'.heap L ∧ FrameEnd U o U' L ({ frames := 0, cells := 0, slots := 0, locals := 0 } : Room).cells ({ frames := 0, cells := 0, slots := 0, locals := 0 } : Room).slots) := by
  refine MetFree.of_bodySF (plainFor_of_name pn_KindOfPinLaw) hisR ?_
  intro p e s m args below meth c s₁ Bd hml0 hP hK
  obtain ⟨rfl, hZ, hh⟩ := hP
  have hx := Bd.exec
  have hby := Bd.bytes
  have hml : c.maxLocals = 1 := hml0
  have hown : s.vm.findClass "com/example/concordat/concordat/log/KindOfPinLaw" = some m.cls := findClass_of_methodNamed Bd.named
  have hnm := (name_of_methodNamed Bd.named Bd.method).1
  have X0 : Stand p l e ({ frames := 0, cells := 0, slots := 0, locals := 0 } : Room) s m #[(.int (9 : Int32))] below meth c s₁ [] 0 0 := Stand.of_body Bd
  have e0 : s₁.heap = h0 := by rw [← hh, Bd.state]; rfl
  have N0 := Fr.nil n0
  have pre0 : ∀ t, Steps p.tables e below (s₁.setTop (mkF m 0 #[.val (.int (9 : Int32))] [])) t → Steps p.tables e below (s₁.setTop (entryFrame m #[(.int (9 : Int32))] 1)) t := fun t k => castTop (ef_3 m (9 : Int32)) k
  obtain ⟨T1, X1, e1, st1⟩ := getS2 X0 hx hZ hown (host := "") (Or.inl (hw _ (List.mem_of_getElem? (i := 43) rfl))) Via.refl e0 S (g := (mkF m 81 #[.val (.int (9 : Int32))] [])) rfl (hb hby d3_81)
  obtain ⟨fs, hr, hrun, hended, hW, hsame⟩ := X1.leave (v := some (.ref w)) (fun h => by rw [Bd.returns] at h; cases h)
  refine ⟨_, _, pre0 _ ?_, hrun, hended, _, _, rfl, ?_, ⟨_, rfl⟩, hW, hsame.mono (by decide) (by decide)⟩
  · show Steps p.tables e below (s₁.setTop (mkF m 0 #[.val (.int (9 : Int32))] [])) _
    refine XS.iloadN X0.here hx rfl (hb hby d3_0) rfl ?_
    show Steps p.tables e below (s₁.setTop (mkF m 1 #[.val (.int (9 : Int32))] [(.int (9 : Int32))])) _
    refine XS.iconst X0.here hx rfl (hb hby d3_1) ?_
    show Steps p.tables e below (s₁.setTop (mkF m 2 #[.val (.int (9 : Int32))] [(.int (1 : Int32)), (.int (9 : Int32))])) _
    refine XS.icmpYes X0.here hx rfl (pc0 := 2) (pc' := 9) rfl (hb hby d3_2) rfl (feq (by decide +kernel)).2 (by decide) (by decide) ?_
    show Steps p.tables e below (s₁.setTop (mkF m 9 #[.val (.int (9 : Int32))] [])) _
    refine XS.iloadN X0.here hx rfl (hb hby d3_9) rfl ?_
    show Steps p.tables e below (s₁.setTop (mkF m 10 #[.val (.int (9 : Int32))] [(.int (9 : Int32))])) _
    refine XS.iconst X0.here hx rfl (hb hby d3_10) ?_
    show Steps p.tables e below (s₁.setTop (mkF m 11 #[.val (.int (9 : Int32))] [(.int (2 : Int32)), (.int (9 : Int32))])) _
    refine XS.icmpYes X0.here hx rfl (pc0 := 11) (pc' := 18) rfl (hb hby d3_11) rfl (feq (by decide +kernel)).2 (by decide) (by decide) ?_
    show Steps p.tables e below (s₁.setTop (mkF m 18 #[.val (.int (9 : Int32))] [])) _
    refine XS.iloadN X0.here hx rfl (hb hby d3_18) rfl ?_
    show Steps p.tables e below (s₁.setTop (mkF m 19 #[.val (.int (9 : Int32))] [(.int (9 : Int32))])) _
    refine XS.iconst X0.here hx rfl (hb hby d3_19) ?_
    show Steps p.tables e below (s₁.setTop (mkF m 20 #[.val (.int (9 : Int32))] [(.int (3 : Int32)), (.int (9 : Int32))])) _
    refine XS.icmpYes X0.here hx rfl (pc0 := 20) (pc' := 27) rfl (hb hby d3_20) rfl (feq (by decide +kernel)).2 (by decide) (by decide) ?_
    show Steps p.tables e below (s₁.setTop (mkF m 27 #[.val (.int (9 : Int32))] [])) _
    refine XS.iloadN X0.here hx rfl (hb hby d3_27) rfl ?_
    show Steps p.tables e below (s₁.setTop (mkF m 28 #[.val (.int (9 : Int32))] [(.int (9 : Int32))])) _
    refine XS.iconst X0.here hx rfl (hb hby d3_28) ?_
    show Steps p.tables e below (s₁.setTop (mkF m 29 #[.val (.int (9 : Int32))] [(.int (4 : Int32)), (.int (9 : Int32))])) _
    refine XS.icmpYes X0.here hx rfl (pc0 := 29) (pc' := 36) rfl (hb hby d3_29) rfl (feq (by decide +kernel)).2 (by decide) (by decide) ?_
    show Steps p.tables e below (s₁.setTop (mkF m 36 #[.val (.int (9 : Int32))] [])) _
    refine XS.iloadN X0.here hx rfl (hb hby d3_36) rfl ?_
    show Steps p.tables e below (s₁.setTop (mkF m 37 #[.val (.int (9 : Int32))] [(.int (9 : Int32))])) _
    refine XS.iconst X0.here hx rfl (hb hby d3_37) ?_
    show Steps p.tables e below (s₁.setTop (mkF m 38 #[.val (.int (9 : Int32))] [(.int (5 : Int32)), (.int (9 : Int32))])) _
    refine XS.icmpYes X0.here hx rfl (pc0 := 38) (pc' := 45) rfl (hb hby d3_38) rfl (feq (by decide +kernel)).2 (by decide) (by decide) ?_
    show Steps p.tables e below (s₁.setTop (mkF m 45 #[.val (.int (9 : Int32))] [])) _
    refine XS.iloadN X0.here hx rfl (hb hby d3_45) rfl ?_
    show Steps p.tables e below (s₁.setTop (mkF m 46 #[.val (.int (9 : Int32))] [(.int (9 : Int32))])) _
    refine XS.bipush X0.here hx rfl (hb hby d3_46) ?_
    show Steps p.tables e below (s₁.setTop (mkF m 48 #[.val (.int (9 : Int32))] [(.int (6 : Int32)), (.int (9 : Int32))])) _
    refine XS.icmpYes X0.here hx rfl (pc0 := 48) (pc' := 55) rfl (hb hby d3_48) rfl (feq (by decide +kernel)).2 (by decide) (by decide) ?_
    show Steps p.tables e below (s₁.setTop (mkF m 55 #[.val (.int (9 : Int32))] [])) _
    refine XS.iloadN X0.here hx rfl (hb hby d3_55) rfl ?_
    show Steps p.tables e below (s₁.setTop (mkF m 56 #[.val (.int (9 : Int32))] [(.int (9 : Int32))])) _
    refine XS.bipush X0.here hx rfl (hb hby d3_56) ?_
    show Steps p.tables e below (s₁.setTop (mkF m 58 #[.val (.int (9 : Int32))] [(.int (7 : Int32)), (.int (9 : Int32))])) _
    refine XS.icmpYes X0.here hx rfl (pc0 := 58) (pc' := 65) rfl (hb hby d3_58) rfl (feq (by decide +kernel)).2 (by decide) (by decide) ?_
    show Steps p.tables e below (s₁.setTop (mkF m 65 #[.val (.int (9 : Int32))] [])) _
    refine XS.iloadN X0.here hx rfl (hb hby d3_65) rfl ?_
    show Steps p.tables e below (s₁.setTop (mkF m 66 #[.val (.int (9 : Int32))] [(.int (9 : Int32))])) _
    refine XS.bipush X0.here hx rfl (hb hby d3_66) ?_
    show Steps p.tables e below (s₁.setTop (mkF m 68 #[.val (.int (9 : Int32))] [(.int (8 : Int32)), (.int (9 : Int32))])) _
    refine XS.icmpYes X0.here hx rfl (pc0 := 68) (pc' := 75) rfl (hb hby d3_68) rfl (feq (by decide +kernel)).2 (by decide) (by decide) ?_
    show Steps p.tables e below (s₁.setTop (mkF m 75 #[.val (.int (9 : Int32))] [])) _
    refine XS.iloadN X0.here hx rfl (hb hby d3_75) rfl ?_
    show Steps p.tables e below (s₁.setTop (mkF m 76 #[.val (.int (9 : Int32))] [(.int (9 : Int32))])) _
    refine XS.bipush X0.here hx rfl (hb hby d3_76) ?_
    show Steps p.tables e below (s₁.setTop (mkF m 78 #[.val (.int (9 : Int32))] [(.int (9 : Int32)), (.int (9 : Int32))])) _
    refine XS.icmpNo X0.here hx rfl (hb hby d3_78) rfl (teq (by decide +kernel)).2 ?_
    show Steps p.tables e below (s₁.setTop (mkF m 81 #[.val (.int (9 : Int32))] [])) _
    refine st1 _ ?_
    show Steps p.tables e below (T1.setTop (mkF m 84 #[.val (.int (9 : Int32))] [(.ref w)])) _
    jvm_step X1.here [X1.here.top, hx, (hb hby d3_84), X1.method', Bd.returns, Value.isRef, FieldType.isReference]
    first | (intro acts; rw [hr _ acts rfl rfl rfl]) | rw [hr _ _ rfl rfl rfl]
    exact Steps.refl _
  · show QE_9 Z w h0 n0 _ T1.heap _
    rw [e1]
    exact ⟨rfl, N0, rfl⟩
def QE_10 (Z : State) (w : Addr) (h0 : Heap) (n0 : Nat) (v : Option Value) (h : Heap) (L : List Loc) : Prop := v = some (.ref w) ∧ Fr n0 L ∧ h = h0
set_option maxRecDepth 65536 in
set_option maxHeartbeats 40000000 in
theorem rmE_10 (l : Launch) (Z : State) (a0 : Array Value) (hw : ∀ d ∈ tables_1, d.before a0 Z = true) (ws : List Jvm.Cond) (w : Addr) (h0 : Heap) (n0 : Nat) (Z0 : n0 ≤ h0.size) (S : Sta Z h0 "com/example/concordat/concordat/log/LogRecord$Kind" "OUTCOMES" "Lcom/example/concordat/concordat/log/LogRecord$Kind;" (.ref w)) :
    MetFree l (⟨"com/example/concordat/concordat/log/KindOfPinLaw", "expected", "(B)Lcom/example/concordat/concordat/log/LogRecord$Kind;"⟩ : MethodName) (head1 (Jvm.Cond.code (⟨"com/example/concordat/concordat/log/KindOfPinLaw", "expected", "(B)Lcom/example/concordat/concordat/log/LogRecord$Kind;"⟩ : MethodName) method_2_code 1 (some (.object "com/example/concordat/concordat/log/LogRecord$Kind")) :: ws) ({ frames := 0, cells := 0, slots := 0, locals := 0 } : Room)) (fun a U => a = #[(.int (10 : Int32))] ∧ Z.Warmed39 U.vm ∧ U.heap = h0) (fun _ _ _ _ _ => True) (fun _ U o U' => ∃ v L, o = .returned v ∧ QE_10 Z w h0 n0 v U'.heap L ∧ FrameEnd U o U' L ({ frames := 0, cells := 0, slots := 0, locals := 0 } : Room).cells ({ frames := 0, cells := 0, slots := 0, locals := 0 } : Room).slots) := by
  refine MetFree.of_bodySF (plainFor_of_name pn_KindOfPinLaw) hisR ?_
  intro p e s m args below meth c s₁ Bd hml0 hP hK
  obtain ⟨rfl, hZ, hh⟩ := hP
  have hx := Bd.exec
  have hby := Bd.bytes
  have hml : c.maxLocals = 1 := hml0
  have hown : s.vm.findClass "com/example/concordat/concordat/log/KindOfPinLaw" = some m.cls := findClass_of_methodNamed Bd.named
  have hnm := (name_of_methodNamed Bd.named Bd.method).1
  have X0 : Stand p l e ({ frames := 0, cells := 0, slots := 0, locals := 0 } : Room) s m #[(.int (10 : Int32))] below meth c s₁ [] 0 0 := Stand.of_body Bd
  have e0 : s₁.heap = h0 := by rw [← hh, Bd.state]; rfl
  have N0 := Fr.nil n0
  have pre0 : ∀ t, Steps p.tables e below (s₁.setTop (mkF m 0 #[.val (.int (10 : Int32))] [])) t → Steps p.tables e below (s₁.setTop (entryFrame m #[(.int (10 : Int32))] 1)) t := fun t k => castTop (ef_3 m (10 : Int32)) k
  obtain ⟨T1, X1, e1, st1⟩ := getS2 X0 hx hZ hown (host := "") (Or.inl (hw _ (List.mem_of_getElem? (i := 41) rfl))) Via.refl e0 S (g := (mkF m 91 #[.val (.int (10 : Int32))] [])) rfl (hb hby d3_91)
  obtain ⟨fs, hr, hrun, hended, hW, hsame⟩ := X1.leave (v := some (.ref w)) (fun h => by rw [Bd.returns] at h; cases h)
  refine ⟨_, _, pre0 _ ?_, hrun, hended, _, _, rfl, ?_, ⟨_, rfl⟩, hW, hsame.mono (by decide) (by decide)⟩
  · show Steps p.tables e below (s₁.setTop (mkF m 0 #[.val (.int (10 : Int32))] [])) _
    refine XS.iloadN X0.here hx rfl (hb hby d3_0) rfl ?_
    show Steps p.tables e below (s₁.setTop (mkF m 1 #[.val (.int (10 : Int32))] [(.int (10 : Int32))])) _
    refine XS.iconst X0.here hx rfl (hb hby d3_1) ?_
    show Steps p.tables e below (s₁.setTop (mkF m 2 #[.val (.int (10 : Int32))] [(.int (1 : Int32)), (.int (10 : Int32))])) _
    refine XS.icmpYes X0.here hx rfl (pc0 := 2) (pc' := 9) rfl (hb hby d3_2) rfl (feq (by decide +kernel)).2 (by decide) (by decide) ?_
    show Steps p.tables e below (s₁.setTop (mkF m 9 #[.val (.int (10 : Int32))] [])) _
    refine XS.iloadN X0.here hx rfl (hb hby d3_9) rfl ?_
    show Steps p.tables e below (s₁.setTop (mkF m 10 #[.val (.int (10 : Int32))] [(.int (10 : Int32))])) _
    refine XS.iconst X0.here hx rfl (hb hby d3_10) ?_
    show Steps p.tables e below (s₁.setTop (mkF m 11 #[.val (.int (10 : Int32))] [(.int (2 : Int32)), (.int (10 : Int32))])) _
    refine XS.icmpYes X0.here hx rfl (pc0 := 11) (pc' := 18) rfl (hb hby d3_11) rfl (feq (by decide +kernel)).2 (by decide) (by decide) ?_
    show Steps p.tables e below (s₁.setTop (mkF m 18 #[.val (.int (10 : Int32))] [])) _
    refine XS.iloadN X0.here hx rfl (hb hby d3_18) rfl ?_
    show Steps p.tables e below (s₁.setTop (mkF m 19 #[.val (.int (10 : Int32))] [(.int (10 : Int32))])) _
    refine XS.iconst X0.here hx rfl (hb hby d3_19) ?_
    show Steps p.tables e below (s₁.setTop (mkF m 20 #[.val (.int (10 : Int32))] [(.int (3 : Int32)), (.int (10 : Int32))])) _
    refine XS.icmpYes X0.here hx rfl (pc0 := 20) (pc' := 27) rfl (hb hby d3_20) rfl (feq (by decide +kernel)).2 (by decide) (by decide) ?_
    show Steps p.tables e below (s₁.setTop (mkF m 27 #[.val (.int (10 : Int32))] [])) _
    refine XS.iloadN X0.here hx rfl (hb hby d3_27) rfl ?_
    show Steps p.tables e below (s₁.setTop (mkF m 28 #[.val (.int (10 : Int32))] [(.int (10 : Int32))])) _
    refine XS.iconst X0.here hx rfl (hb hby d3_28) ?_
    show Steps p.tables e below (s₁.setTop (mkF m 29 #[.val (.int (10 : Int32))] [(.int (4 : Int32)), (.int (10 : Int32))])) _
    refine XS.icmpYes X0.here hx rfl (pc0 := 29) (pc' := 36) rfl (hb hby d3_29) rfl (feq (by decide +kernel)).2 (by decide) (by decide) ?_
    show Steps p.tables e below (s₁.setTop (mkF m 36 #[.val (.int (10 : Int32))] [])) _
    refine XS.iloadN X0.here hx rfl (hb hby d3_36) rfl ?_
    show Steps p.tables e below (s₁.setTop (mkF m 37 #[.val (.int (10 : Int32))] [(.int (10 : Int32))])) _
    refine XS.iconst X0.here hx rfl (hb hby d3_37) ?_
    show Steps p.tables e below (s₁.setTop (mkF m 38 #[.val (.int (10 : Int32))] [(.int (5 : Int32)), (.int (10 : Int32))])) _
    refine XS.icmpYes X0.here hx rfl (pc0 := 38) (pc' := 45) rfl (hb hby d3_38) rfl (feq (by decide +kernel)).2 (by decide) (by decide) ?_
    show Steps p.tables e below (s₁.setTop (mkF m 45 #[.val (.int (10 : Int32))] [])) _
    refine XS.iloadN X0.here hx rfl (hb hby d3_45) rfl ?_
    show Steps p.tables e below (s₁.setTop (mkF m 46 #[.val (.int (10 : Int32))] [(.int (10 : Int32))])) _
    refine XS.bipush X0.here hx rfl (hb hby d3_46) ?_
    show Steps p.tables e below (s₁.setTop (mkF m 48 #[.val (.int (10 : Int32))] [(.int (6 : Int32)), (.int (10 : Int32))])) _
    refine XS.icmpYes X0.here hx rfl (pc0 := 48) (pc' := 55) rfl (hb hby d3_48) rfl (feq (by decide +kernel)).2 (by decide) (by decide) ?_
    show Steps p.tables e below (s₁.setTop (mkF m 55 #[.val (.int (10 : Int32))] [])) _
    refine XS.iloadN X0.here hx rfl (hb hby d3_55) rfl ?_
    show Steps p.tables e below (s₁.setTop (mkF m 56 #[.val (.int (10 : Int32))] [(.int (10 : Int32))])) _
    refine XS.bipush X0.here hx rfl (hb hby d3_56) ?_
    show Steps p.tables e below (s₁.setTop (mkF m 58 #[.val (.int (10 : Int32))] [(.int (7 : Int32)), (.int (10 : Int32))])) _
    refine XS.icmpYes X0.here hx rfl (pc0 := 58) (pc' := 65) rfl (hb hby d3_58) rfl (feq (by decide +kernel)).2 (by decide) (by decide) ?_
    show Steps p.tables e below (s₁.setTop (mkF m 65 #[.val (.int (10 : Int32))] [])) _
    refine XS.iloadN X0.here hx rfl (hb hby d3_65) rfl ?_
    show Steps p.tables e below (s₁.setTop (mkF m 66 #[.val (.int (10 : Int32))] [(.int (10 : Int32))])) _
    refine XS.bipush X0.here hx rfl (hb hby d3_66) ?_
    show Steps p.tables e below (s₁.setTop (mkF m 68 #[.val (.int (10 : Int32))] [(.int (8 : Int32)), (.int (10 : Int32))])) _
    refine XS.icmpYes X0.here hx rfl (pc0 := 68) (pc' := 75) rfl (hb hby d3_68) rfl (feq (by decide +kernel)).2 (by decide) (by decide) ?_
    show Steps p.tables e below (s₁.setTop (mkF m 75 #[.val (.int (10 : Int32))] [])) _
    refine XS.iloadN X0.here hx rfl (hb hby d3_75) rfl ?_
    show Steps p.tables e below (s₁.setTop (mkF m 76 #[.val (.int (10 : Int32))] [(.int (10 : Int32))])) _
    refine XS.bipush X0.here hx rfl (hb hby d3_76) ?_
    show Steps p.tables e below (s₁.setTop (mkF m 78 #[.val (.int (10 : Int32))] [(.int (9 : Int32)), (.int (10 : Int32))])) _
    refine XS.icmpYes X0.here hx rfl (pc0 := 78) (pc' := 85) rfl (hb hby d3_78) rfl (feq (by decide +kernel)).2 (by decide) (by decide) ?_
    show Steps p.tables e below (s₁.setTop (mkF m 85 #[.val (.int (10 : Int32))] [])) _
    refine XS.iloadN X0.here hx rfl (hb hby d3_85) rfl ?_
    show Steps p.tables e below (s₁.setTop (mkF m 86 #[.val (.int (10 : Int32))] [(.int (10 : Int32))])) _
    refine XS.bipush X0.here hx rfl (hb hby d3_86) ?_
    show Steps p.tables e below (s₁.setTop (mkF m 88 #[.val (.int (10 : Int32))] [(.int (10 : Int32)), (.int (10 : Int32))])) _
    refine XS.icmpNo X0.here hx rfl (hb hby d3_88) rfl (teq (by decide +kernel)).2 ?_
    show Steps p.tables e below (s₁.setTop (mkF m 91 #[.val (.int (10 : Int32))] [])) _
    refine st1 _ ?_
    show Steps p.tables e below (T1.setTop (mkF m 94 #[.val (.int (10 : Int32))] [(.ref w)])) _
    jvm_step X1.here [X1.here.top, hx, (hb hby d3_94), X1.method', Bd.returns, Value.isRef, FieldType.isReference]
    first | (intro acts; rw [hr _ acts rfl rfl rfl]) | rw [hr _ _ rfl rfl rfl]
    exact Steps.refl _
  · show QE_10 Z w h0 n0 _ T1.heap _
    rw [e1]
    exact ⟨rfl, N0, rfl⟩
def QE_11 (Z : State) (p1 : Int32) (h0 : Heap) (n0 : Nat) (v : Option Value) (h : Heap) (L : List Loc) : Prop := v = some (.null) ∧ Fr n0 L ∧ h = h0
set_option maxRecDepth 65536 in
set_option maxHeartbeats 40000000 in
theorem rmE_11 (l : Launch) (Z : State) (a0 : Array Value) (hw : ∀ d ∈ tables_1, d.before a0 Z = true) (ws : List Jvm.Cond) (p1 : Int32) (h0 : Heap) (n0 : Nat) (Z0 : n0 ≤ h0.size) (hn1 : ¬ p1 = (1 : Int32)) (hn2 : ¬ p1 = (2 : Int32)) (hn3 : ¬ p1 = (3 : Int32)) (hn4 : ¬ p1 = (4 : Int32)) (hn5 : ¬ p1 = (5 : Int32)) (hn6 : ¬ p1 = (6 : Int32)) (hn7 : ¬ p1 = (7 : Int32)) (hn8 : ¬ p1 = (8 : Int32)) (hn9 : ¬ p1 = (9 : Int32)) (hn10 : ¬ p1 = (10 : Int32)) :
    MetFree l (⟨"com/example/concordat/concordat/log/KindOfPinLaw", "expected", "(B)Lcom/example/concordat/concordat/log/LogRecord$Kind;"⟩ : MethodName) (head1 (Jvm.Cond.code (⟨"com/example/concordat/concordat/log/KindOfPinLaw", "expected", "(B)Lcom/example/concordat/concordat/log/LogRecord$Kind;"⟩ : MethodName) method_2_code 1 (some (.object "com/example/concordat/concordat/log/LogRecord$Kind")) :: ws) ({ frames := 0, cells := 0, slots := 0, locals := 0 } : Room)) (fun a U => a = #[(.int p1)] ∧ Z.Warmed39 U.vm ∧ U.heap = h0) (fun _ _ _ _ _ => True) (fun _ U o U' => ∃ v L, o = .returned v ∧ QE_11 Z p1 h0 n0 v U'.heap L ∧ FrameEnd U o U' L ({ frames := 0, cells := 0, slots := 0, locals := 0 } : Room).cells ({ frames := 0, cells := 0, slots := 0, locals := 0 } : Room).slots) := by
  refine MetFree.of_bodySF (plainFor_of_name pn_KindOfPinLaw) hisR ?_
  intro p e s m args below meth c s₁ Bd hml0 hP hK
  obtain ⟨rfl, hZ, hh⟩ := hP
  have hx := Bd.exec
  have hby := Bd.bytes
  have hml : c.maxLocals = 1 := hml0
  have hown : s.vm.findClass "com/example/concordat/concordat/log/KindOfPinLaw" = some m.cls := findClass_of_methodNamed Bd.named
  have hnm := (name_of_methodNamed Bd.named Bd.method).1
  have X0 : Stand p l e ({ frames := 0, cells := 0, slots := 0, locals := 0 } : Room) s m #[(.int p1)] below meth c s₁ [] 0 0 := Stand.of_body Bd
  have e0 : s₁.heap = h0 := by rw [← hh, Bd.state]; rfl
  have N0 := Fr.nil n0
  have pre0 : ∀ t, Steps p.tables e below (s₁.setTop (mkF m 0 #[.val (.int p1)] [])) t → Steps p.tables e below (s₁.setTop (entryFrame m #[(.int p1)] 1)) t := fun t k => castTop (ef_3 m p1) k
  obtain ⟨fs, hr, hrun, hended, hW, hsame⟩ := X0.leave (v := some .null) (fun h => by rw [Bd.returns] at h; cases h)
  refine ⟨_, _, pre0 _ ?_, hrun, hended, _, _, rfl, ?_, ⟨_, rfl⟩, hW, hsame.mono (by decide) (by decide)⟩
  · show Steps p.tables e below (s₁.setTop (mkF m 0 #[.val (.int p1)] [])) _
    refine XS.iloadN X0.here hx rfl (hb hby d3_0) rfl ?_
    show Steps p.tables e below (s₁.setTop (mkF m 1 #[.val (.int p1)] [(.int p1)])) _
    refine XS.iconst X0.here hx rfl (hb hby d3_1) ?_
    show Steps p.tables e below (s₁.setTop (mkF m 2 #[.val (.int p1)] [(.int (1 : Int32)), (.int p1)])) _
    refine XS.icmpYes X0.here hx rfl (pc0 := 2) (pc' := 9) rfl (hb hby d3_2) rfl (feq hn1).2 (by decide) (by decide) ?_
    show Steps p.tables e below (s₁.setTop (mkF m 9 #[.val (.int p1)] [])) _
    refine XS.iloadN X0.here hx rfl (hb hby d3_9) rfl ?_
    show Steps p.tables e below (s₁.setTop (mkF m 10 #[.val (.int p1)] [(.int p1)])) _
    refine XS.iconst X0.here hx rfl (hb hby d3_10) ?_
    show Steps p.tables e below (s₁.setTop (mkF m 11 #[.val (.int p1)] [(.int (2 : Int32)), (.int p1)])) _
    refine XS.icmpYes X0.here hx rfl (pc0 := 11) (pc' := 18) rfl (hb hby d3_11) rfl (feq hn2).2 (by decide) (by decide) ?_
    show Steps p.tables e below (s₁.setTop (mkF m 18 #[.val (.int p1)] [])) _
    refine XS.iloadN X0.here hx rfl (hb hby d3_18) rfl ?_
    show Steps p.tables e below (s₁.setTop (mkF m 19 #[.val (.int p1)] [(.int p1)])) _
    refine XS.iconst X0.here hx rfl (hb hby d3_19) ?_
    show Steps p.tables e below (s₁.setTop (mkF m 20 #[.val (.int p1)] [(.int (3 : Int32)), (.int p1)])) _
    refine XS.icmpYes X0.here hx rfl (pc0 := 20) (pc' := 27) rfl (hb hby d3_20) rfl (feq hn3).2 (by decide) (by decide) ?_
    show Steps p.tables e below (s₁.setTop (mkF m 27 #[.val (.int p1)] [])) _
    refine XS.iloadN X0.here hx rfl (hb hby d3_27) rfl ?_
    show Steps p.tables e below (s₁.setTop (mkF m 28 #[.val (.int p1)] [(.int p1)])) _
    refine XS.iconst X0.here hx rfl (hb hby d3_28) ?_
    show Steps p.tables e below (s₁.setTop (mkF m 29 #[.val (.int p1)] [(.int (4 : Int32)), (.int p1)])) _
    refine XS.icmpYes X0.here hx rfl (pc0 := 29) (pc' := 36) rfl (hb hby d3_29) rfl (feq hn4).2 (by decide) (by decide) ?_
    show Steps p.tables e below (s₁.setTop (mkF m 36 #[.val (.int p1)] [])) _
    refine XS.iloadN X0.here hx rfl (hb hby d3_36) rfl ?_
    show Steps p.tables e below (s₁.setTop (mkF m 37 #[.val (.int p1)] [(.int p1)])) _
    refine XS.iconst X0.here hx rfl (hb hby d3_37) ?_
    show Steps p.tables e below (s₁.setTop (mkF m 38 #[.val (.int p1)] [(.int (5 : Int32)), (.int p1)])) _
    refine XS.icmpYes X0.here hx rfl (pc0 := 38) (pc' := 45) rfl (hb hby d3_38) rfl (feq hn5).2 (by decide) (by decide) ?_
    show Steps p.tables e below (s₁.setTop (mkF m 45 #[.val (.int p1)] [])) _
    refine XS.iloadN X0.here hx rfl (hb hby d3_45) rfl ?_
    show Steps p.tables e below (s₁.setTop (mkF m 46 #[.val (.int p1)] [(.int p1)])) _
    refine XS.bipush X0.here hx rfl (hb hby d3_46) ?_
    show Steps p.tables e below (s₁.setTop (mkF m 48 #[.val (.int p1)] [(.int (6 : Int32)), (.int p1)])) _
    refine XS.icmpYes X0.here hx rfl (pc0 := 48) (pc' := 55) rfl (hb hby d3_48) rfl (feq hn6).2 (by decide) (by decide) ?_
    show Steps p.tables e below (s₁.setTop (mkF m 55 #[.val (.int p1)] [])) _
    refine XS.iloadN X0.here hx rfl (hb hby d3_55) rfl ?_
    show Steps p.tables e below (s₁.setTop (mkF m 56 #[.val (.int p1)] [(.int p1)])) _
    refine XS.bipush X0.here hx rfl (hb hby d3_56) ?_
    show Steps p.tables e below (s₁.setTop (mkF m 58 #[.val (.int p1)] [(.int (7 : Int32)), (.int p1)])) _
    refine XS.icmpYes X0.here hx rfl (pc0 := 58) (pc' := 65) rfl (hb hby d3_58) rfl (feq hn7).2 (by decide) (by decide) ?_
    show Steps p.tables e below (s₁.setTop (mkF m 65 #[.val (.int p1)] [])) _
    refine XS.iloadN X0.here hx rfl (hb hby d3_65) rfl ?_
    show Steps p.tables e below (s₁.setTop (mkF m 66 #[.val (.int p1)] [(.int p1)])) _
    refine XS.bipush X0.here hx rfl (hb hby d3_66) ?_
    show Steps p.tables e below (s₁.setTop (mkF m 68 #[.val (.int p1)] [(.int (8 : Int32)), (.int p1)])) _
    refine XS.icmpYes X0.here hx rfl (pc0 := 68) (pc' := 75) rfl (hb hby d3_68) rfl (feq hn8).2 (by decide) (by decide) ?_
    show Steps p.tables e below (s₁.setTop (mkF m 75 #[.val (.int p1)] [])) _
    refine XS.iloadN X0.here hx rfl (hb hby d3_75) rfl ?_
    show Steps p.tables e below (s₁.setTop (mkF m 76 #[.val (.int p1)] [(.int p1)])) _
    refine XS.bipush X0.here hx rfl (hb hby d3_76) ?_
    show Steps p.tables e below (s₁.setTop (mkF m 78 #[.val (.int p1)] [(.int (9 : Int32)), (.int p1)])) _
    refine XS.icmpYes X0.here hx rfl (pc0 := 78) (pc' := 85) rfl (hb hby d3_78) rfl (feq hn9).2 (by decide) (by decide) ?_
    show Steps p.tables e below (s₁.setTop (mkF m 85 #[.val (.int p1)] [])) _
    refine XS.iloadN X0.here hx rfl (hb hby d3_85) rfl ?_
    show Steps p.tables e below (s₁.setTop (mkF m 86 #[.val (.int p1)] [(.int p1)])) _
    refine XS.bipush X0.here hx rfl (hb hby d3_86) ?_
    show Steps p.tables e below (s₁.setTop (mkF m 88 #[.val (.int p1)] [(.int (10 : Int32)), (.int p1)])) _
    refine XS.icmpYes X0.here hx rfl (pc0 := 88) (pc' := 95) rfl (hb hby d3_88) rfl (feq hn10).2 (by decide) (by decide) ?_
    show Steps p.tables e below (s₁.setTop (mkF m 95 #[.val (.int p1)] [])) _
    refine XS.aconstNull X0.here hx rfl (hb hby d3_95) ?_
    show Steps p.tables e below (s₁.setTop (mkF m 96 #[.val (.int p1)] [.null])) _
    jvm_step X0.here [X0.here.top, hx, (hb hby d3_96), X0.method', Bd.returns, Value.isRef, FieldType.isReference]
    first | (intro acts; rw [hr _ acts rfl rfl rfl]) | rw [hr _ _ rfl rfl rfl]
    exact Steps.refl _
  · show QE_11 Z p1 h0 n0 _ s₁.heap _
    rw [e0]
    exact ⟨rfl, N0, rfl⟩
theorem pd_1 : parseMethodDescriptor "(B)Lcom/example/concordat/concordat/log/LogRecord$Kind;" = some ⟨[.byte], some (.object "com/example/concordat/concordat/log/LogRecord$Kind")⟩ := by decide +kernel
theorem ef_0 (m : MethodId) (x0 : Int32) : entryFrame m #[(.int x0)] maxLocals = mkF m 0 #[.val (.int x0), .unset, .unset, .unset] [] := by first | (simp [entryFrame, mkF, argsToLocals, Value.category, maxLocals]; done) | rfl
def Q0 (Z : State) (p1 : Int32) (vA : Addr) (kA : ClassId) (w0 w1 w2 w3 w4 w5 w6 w7 w8 w9 : Addr) (h0 : Heap) (n0 : Nat) (v : Option Value) (h : Heap) (L : List Loc) : Prop := v = some (.int 1) ∧ Fr n0 L
set_option maxRecDepth 65536 in
set_option maxHeartbeats 40000000 in
theorem rm0_1 (l : Launch) (Z : State) (a0 : Array Value) (hw : ∀ d ∈ tables_1, d.before a0 Z = true) (ws : List Jvm.Cond) (p1 : Int32) (vA : Addr) (kA : ClassId) (w0 w1 w2 w3 w4 w5 w6 w7 w8 w9 : Addr) (h0 : Heap) (n0 : Nat) (Z0 : n0 ≤ h0.size) (SV : Sta Z h0 "com/example/concordat/concordat/log/LogRecord$Kind" "$VALUES" "[Lcom/example/concordat/concordat/log/LogRecord$Kind;" (.ref vA)) (AV : Arv Z h0 vA kA (.object "com/example/concordat/concordat/log/LogRecord$Kind") 10 [.ref w0, .ref w1, .ref w2, .ref w3, .ref w4, .ref w5, .ref w6, .ref w7, .ref w8, .ref w9] .null) (EV : Exa Z h0 vA "[Lcom/example/concordat/concordat/log/LogRecord$Kind;") (FC0 : Fld Z h0 w0 "com/example/concordat/concordat/log/LogRecord$Kind" "code" "B" (.int (1 : Int32))) (FC1 : Fld Z h0 w1 "com/example/concordat/concordat/log/LogRecord$Kind" "code" "B" (.int (2 : Int32))) (FC2 : Fld Z h0 w2 "com/example/concordat/concordat/log/LogRecord$Kind" "code" "B" (.int (3 : Int32))) (FC3 : Fld Z h0 w3 "com/example/concordat/concordat/log/LogRecord$Kind" "code" "B" (.int (4 : Int32))) (FC4 : Fld Z h0 w4 "com/example/concordat/concordat/log/LogRecord$Kind" "code" "B" (.int (5 : Int32))) (FC5 : Fld Z h0 w5 "com/example/concordat/concordat/log/LogRecord$Kind" "code" "B" (.int (6 : Int32))) (FC6 : Fld Z h0 w6 "com/example/concordat/concordat/log/LogRecord$Kind" "code" "B" (.int (7 : Int32))) (FC7 : Fld Z h0 w7 "com/example/concordat/concordat/log/LogRecord$Kind" "code" "B" (.int (8 : Int32))) (FC8 : Fld Z h0 w8 "com/example/concordat/concordat/log/LogRecord$Kind" "code" "B" (.int (9 : Int32))) (FC9 : Fld Z h0 w9 "com/example/concordat/concordat/log/LogRecord$Kind" "code" "B" (.int (10 : Int32))) (S : Sta Z h0 "com/example/concordat/concordat/log/LogRecord$Kind" "COMMIT" "Lcom/example/concordat/concordat/log/LogRecord$Kind;" (.ref w0)) (hk : (p1.toInt8.toInt32) = 1) :
    MetFree l x (head1 (Jvm.Cond.code x code maxLocals ret :: ws) room_1) (fun a U => a = #[(.int p1)] ∧ Z.Warmed39 U.vm ∧ U.heap = h0) (fun _ _ _ _ _ => True) (fun _ U o U' => ∃ v L, o = .returned v ∧ Q0 Z p1 vA kA w0 w1 w2 w3 w4 w5 w6 w7 w8 w9 h0 n0 v U'.heap L ∧ FrameEnd U o U' L 1 10) := by
  refine MetFree.of_bodySF (plainFor_of_name pn_KindOfPinLaw) hisR ?_
  intro p e s m args below meth c s₁ Bd hml0 hP hK
  obtain ⟨rfl, hZ, hh⟩ := hP
  have hx := Bd.exec
  have hby := Bd.bytes
  have hml : c.maxLocals = 4 := hml0
  have hown : s.vm.findClass "com/example/concordat/concordat/log/KindOfPinLaw" = some m.cls := findClass_of_methodNamed Bd.named
  have hnm := (name_of_methodNamed Bd.named Bd.method).1
  have X0 : Stand p l e room_1 s m #[(.int p1)] below meth c s₁ [] 0 0 := Stand.of_body Bd
  have e0 : s₁.heap = h0 := by rw [← hh, Bd.state]; rfl
  have N0 := Fr.nil n0
  have pre0 : ∀ t, Steps p.tables e below (s₁.setTop (mkF m 0 #[.val (.int p1), .unset, .unset, .unset] [])) t → Steps p.tables e below (s₁.setTop (entryFrame m #[(.int p1)] maxLocals)) t := fun t k => castTop (ef_0 m p1) k
  obtain ⟨_, _, ⟨T1, L1, k1, n1⟩, -, X1, ⟨Lc1, hQ1, l1, y1, z1⟩, st1⟩ := Jvm.LawKit.callS X0 hx (y := (⟨"com/example/concordat/concordat/log/LogRecord$Kind", "of", "(B)Lcom/example/concordat/concordat/log/LogRecord$Kind;"⟩ : MethodName)) hown (mvT hZ (hw _ (List.mem_of_getElem? (i := 0) rfl))) (mvT hZ (hw _ (List.mem_of_getElem? (i := 1) rfl))) (mvT hZ (hw _ (List.mem_of_getElem? (i := 2) rfl))) (mvT hZ (hw _ (List.mem_of_getElem? (i := 3) rfl))) (by decide) (backOf (W := 0) (rmO_1 l Z a0 hw [] vA kA w0 w1 w2 w3 w4 w5 w6 w7 w8 w9 h0 n0 Z0 SV AV EV FC0 FC1 FC2 FC3 FC4 FC5 FC6 FC7 FC8 FC9 ) hZ (hw _ (List.mem_of_getElem? (i := 3) rfl)) (hw _ (List.mem_of_getElem? (i := 2) rfl)) (by decide) (by decide)) (g := (mkF m 4 #[.val (.int p1), .val (.int (1 : Int32)), .unset, .unset] [(.int (1 : Int32))])) rfl (by rw [hml]; rfl) (argsL := [(.int (1 : Int32))]) (rest := []) (lenOf pd_1 rfl) rfl (by show 2 * 0 + _ ≤ _; exact Nat.le_of_eq rfl) (hb hby at_4) (fun _ _ => ⟨rfl, e0, (by decide : 0 + 1 ≤ _), (by decide : 0 + 10 ≤ _)⟩)
  dsimp only [Pt.U, Pt.locs, Pt.cells, Pt.slots] at X1 l1 y1 z1 st1 hQ1
  subst l1 y1 z1
  obtain ⟨rfl, N1q, Ex⟩ := hQ1
  have Z1 : n0 ≤ T1.heap.size := Nat.le_trans Z0 Ex.1
  have N1 := Fr.app N0 N1q
  obtain ⟨_, _, ⟨T2, L2, k2, n2⟩, -, X2, ⟨Lc2, hQ2, l2, y2, z2⟩, st2⟩ := Jvm.LawKit.callS X1 hx (y := (⟨"com/example/concordat/concordat/log/KindOfPinLaw", "expected", "(B)Lcom/example/concordat/concordat/log/LogRecord$Kind;"⟩ : MethodName)) hown (mvT hZ (hw _ (List.mem_of_getElem? (i := 31) rfl))) (mvT hZ (hw _ (List.mem_of_getElem? (i := 32) rfl))) (mvT hZ (hw _ (List.mem_of_getElem? (i := 33) rfl))) (mvT hZ (hw _ (List.mem_of_getElem? (i := 34) rfl))) (by decide) (backOf (W := 0) (rmE_1 l Z a0 hw [] w0 T1.heap n0 Z1 (S.ext Ex)) hZ (hw _ (List.mem_of_getElem? (i := 34) rfl)) (hw _ (List.mem_of_getElem? (i := 33) rfl)) (by decide) (by decide)) (g := (mkF m 9 #[.val (.int p1), .val (.int (1 : Int32)), .val (.ref w0), .unset] [(.int (1 : Int32))])) rfl (by rw [hml]; rfl) (argsL := [(.int (1 : Int32))]) (rest := []) (lenOf pd_1 rfl) rfl (by show 2 * 0 + _ ≤ _; exact Nat.le_of_eq rfl) (hb hby at_9) (fun _ _ => ⟨rfl, rfl, (by decide : 1 + 0 ≤ _), (by decide : 10 + 0 ≤ _)⟩)
  dsimp only [Pt.U, Pt.locs, Pt.cells, Pt.slots] at X2 l2 y2 z2 st2 hQ2
  subst l2 y2 z2
  obtain ⟨rfl, N2q, eq2⟩ := hQ2
  have N2 := Fr.app N1 N2q
  obtain ⟨T3, X3, e3, st3⟩ := getF X2 hx hZ hown (host := "") (Or.inl (hw _ (List.mem_of_getElem? (i := 36) rfl))) Via.refl eq2 (FC0.ext Ex) (g := (mkF m 25 #[.val (.int p1), .val (.int (1 : Int32)), .val (.ref w0), .val (.ref w0)] [(.ref w0)])) rfl rfl (hb hby at_25)
  obtain ⟨fs, hr, hrun, hended, hW, hsame⟩ := X3.leave (v := some (.int (1 : Int32))) (fun h => by rw [Bd.returns] at h; cases h)
  refine ⟨_, _, pre0 _ ?_, hrun, hended, _, _, rfl, ?_, ⟨_, rfl⟩, hW, hsame.mono (by decide) (by decide)⟩
  · show Steps p.tables e below (s₁.setTop (mkF m 0 #[.val (.int p1), .unset, .unset, .unset] [])) _
    refine XS.iloadN X0.here hx rfl (hb hby at_0) rfl ?_
    show Steps p.tables e below (s₁.setTop (mkF m 1 #[.val (.int p1), .unset, .unset, .unset] [(.int p1)])) _
    refine XS.i2b X0.here hx rfl (hb hby at_1) rfl ?_
    show Steps p.tables e below (s₁.setTop (mkF m 2 #[.val (.int p1), .unset, .unset, .unset] [(.int (p1.toInt8.toInt32))])) _
    rw [hk]
    show Steps p.tables e below (s₁.setTop (mkF m 2 #[.val (.int p1), .unset, .unset, .unset] [(.int (1 : Int32))])) _
    refine XS.istoreN X0.here hx rfl (hb hby at_2) rfl (l' := #[.val (.int p1), .val (.int (1 : Int32)), .unset, .unset]) rfl ?_
    show Steps p.tables e below (s₁.setTop (mkF m 3 #[.val (.int p1), .val (.int (1 : Int32)), .unset, .unset] [])) _
    refine XS.iloadN X0.here hx rfl (hb hby at_3) rfl ?_
    show Steps p.tables e below (s₁.setTop (mkF m 4 #[.val (.int p1), .val (.int (1 : Int32)), .unset, .unset] [(.int (1 : Int32))])) _
    refine st1 _ ?_
    show Steps p.tables e below (T1.setTop (mkF m 7 #[.val (.int p1), .val (.int (1 : Int32)), .unset, .unset] [(.ref w0)])) _
    refine XS.astoreN X1.here hx rfl (hb hby at_7) rfl rfl (l' := #[.val (.int p1), .val (.int (1 : Int32)), .val (.ref w0), .unset]) rfl ?_
    show Steps p.tables e below (T1.setTop (mkF m 8 #[.val (.int p1), .val (.int (1 : Int32)), .val (.ref w0), .unset] [])) _
    refine XS.iloadN X1.here hx rfl (hb hby at_8) rfl ?_
    show Steps p.tables e below (T1.setTop (mkF m 9 #[.val (.int p1), .val (.int (1 : Int32)), .val (.ref w0), .unset] [(.int (1 : Int32))])) _
    refine st2 _ ?_
    show Steps p.tables e below (T2.setTop (mkF m 12 #[.val (.int p1), .val (.int (1 : Int32)), .val (.ref w0), .unset] [(.ref w0)])) _
    refine XS.astoreN X2.here hx rfl (hb hby at_12) rfl rfl (l' := #[.val (.int p1), .val (.int (1 : Int32)), .val (.ref w0), .val (.ref w0)]) rfl ?_
    show Steps p.tables e below (T2.setTop (mkF m 13 #[.val (.int p1), .val (.int (1 : Int32)), .val (.ref w0), .val (.ref w0)] [])) _
    refine XS.aloadN X2.here hx rfl (hb hby at_13) rfl rfl ?_
    show Steps p.tables e below (T2.setTop (mkF m 14 #[.val (.int p1), .val (.int (1 : Int32)), .val (.ref w0), .val (.ref w0)] [(.ref w0)])) _
    refine XS.aloadN X2.here hx rfl (hb hby at_14) rfl rfl ?_
    show Steps p.tables e below (T2.setTop (mkF m 15 #[.val (.int p1), .val (.int (1 : Int32)), .val (.ref w0), .val (.ref w0)] [(.ref w0), (.ref w0)])) _
    refine Jvm.RoadKit.acmp (g := (mkF m 15 #[.val (.int p1), .val (.int (1 : Int32)), .val (.ref w0), .val (.ref w0)] [(.ref w0), (.ref w0)])) X2 hx rfl rfl rfl (pc0 := 15) (pc' := 20) (same := true) rfl (hb hby at_15) rfl (decide_eq_true rfl) (by decide) (by decide) ?_
    show Steps p.tables e below (T2.setTop (mkF m 20 #[.val (.int p1), .val (.int (1 : Int32)), .val (.ref w0), .val (.ref w0)] [])) _
    refine XS.aloadN X2.here hx rfl (hb hby at_20) rfl rfl ?_
    show Steps p.tables e below (T2.setTop (mkF m 21 #[.val (.int p1), .val (.int (1 : Int32)), .val (.ref w0), .val (.ref w0)] [(.ref w0)])) _
    refine XS.ifnullNo X2.here hx rfl (hb hby at_21) rfl ?_
    show Steps p.tables e below (T2.setTop (mkF m 24 #[.val (.int p1), .val (.int (1 : Int32)), .val (.ref w0), .val (.ref w0)] [])) _
    refine XS.aloadN X2.here hx rfl (hb hby at_24) rfl rfl ?_
    show Steps p.tables e below (T2.setTop (mkF m 25 #[.val (.int p1), .val (.int (1 : Int32)), .val (.ref w0), .val (.ref w0)] [(.ref w0)])) _
    refine st3 _ ?_
    show Steps p.tables e below (T3.setTop (mkF m 28 #[.val (.int p1), .val (.int (1 : Int32)), .val (.ref w0), .val (.ref w0)] [(.int (1 : Int32))])) _
    refine XS.iloadN X3.here hx rfl (hb hby at_28) rfl ?_
    show Steps p.tables e below (T3.setTop (mkF m 29 #[.val (.int p1), .val (.int (1 : Int32)), .val (.ref w0), .val (.ref w0)] [(.int (1 : Int32)), (.int (1 : Int32))])) _
    refine XS.icmpNo X3.here hx rfl (hb hby at_29) rfl (teq (by decide +kernel)).2 ?_
    show Steps p.tables e below (T3.setTop (mkF m 32 #[.val (.int p1), .val (.int (1 : Int32)), .val (.ref w0), .val (.ref w0)] [])) _
    refine XS.iconst X3.here hx rfl (hb hby at_32) ?_
    show Steps p.tables e below (T3.setTop (mkF m 33 #[.val (.int p1), .val (.int (1 : Int32)), .val (.ref w0), .val (.ref w0)] [(.int (1 : Int32))])) _
    refine XS.goto X3.here hx rfl (pc0 := 33) (pc' := 37) rfl (hb hby at_33) (by decide) (by decide) ?_
    show Steps p.tables e below (T3.setTop (mkF m 37 #[.val (.int p1), .val (.int (1 : Int32)), .val (.ref w0), .val (.ref w0)] [(.int (1 : Int32))])) _
    exact retN X3 hx (t := .boolean) Bd.returns (by simp) (hb hby at_37) hr
  · show Q0 Z p1 vA kA w0 w1 w2 w3 w4 w5 w6 w7 w8 w9 h0 n0 _ T3.heap _
    rw [e3]
    exact ⟨rfl, N2⟩
set_option maxRecDepth 65536 in
set_option maxHeartbeats 40000000 in
theorem rm0_2 (l : Launch) (Z : State) (a0 : Array Value) (hw : ∀ d ∈ tables_1, d.before a0 Z = true) (ws : List Jvm.Cond) (p1 : Int32) (vA : Addr) (kA : ClassId) (w0 w1 w2 w3 w4 w5 w6 w7 w8 w9 : Addr) (h0 : Heap) (n0 : Nat) (Z0 : n0 ≤ h0.size) (SV : Sta Z h0 "com/example/concordat/concordat/log/LogRecord$Kind" "$VALUES" "[Lcom/example/concordat/concordat/log/LogRecord$Kind;" (.ref vA)) (AV : Arv Z h0 vA kA (.object "com/example/concordat/concordat/log/LogRecord$Kind") 10 [.ref w0, .ref w1, .ref w2, .ref w3, .ref w4, .ref w5, .ref w6, .ref w7, .ref w8, .ref w9] .null) (EV : Exa Z h0 vA "[Lcom/example/concordat/concordat/log/LogRecord$Kind;") (FC0 : Fld Z h0 w0 "com/example/concordat/concordat/log/LogRecord$Kind" "code" "B" (.int (1 : Int32))) (FC1 : Fld Z h0 w1 "com/example/concordat/concordat/log/LogRecord$Kind" "code" "B" (.int (2 : Int32))) (FC2 : Fld Z h0 w2 "com/example/concordat/concordat/log/LogRecord$Kind" "code" "B" (.int (3 : Int32))) (FC3 : Fld Z h0 w3 "com/example/concordat/concordat/log/LogRecord$Kind" "code" "B" (.int (4 : Int32))) (FC4 : Fld Z h0 w4 "com/example/concordat/concordat/log/LogRecord$Kind" "code" "B" (.int (5 : Int32))) (FC5 : Fld Z h0 w5 "com/example/concordat/concordat/log/LogRecord$Kind" "code" "B" (.int (6 : Int32))) (FC6 : Fld Z h0 w6 "com/example/concordat/concordat/log/LogRecord$Kind" "code" "B" (.int (7 : Int32))) (FC7 : Fld Z h0 w7 "com/example/concordat/concordat/log/LogRecord$Kind" "code" "B" (.int (8 : Int32))) (FC8 : Fld Z h0 w8 "com/example/concordat/concordat/log/LogRecord$Kind" "code" "B" (.int (9 : Int32))) (FC9 : Fld Z h0 w9 "com/example/concordat/concordat/log/LogRecord$Kind" "code" "B" (.int (10 : Int32))) (S : Sta Z h0 "com/example/concordat/concordat/log/LogRecord$Kind" "PREPARE" "Lcom/example/concordat/concordat/log/LogRecord$Kind;" (.ref w1)) (hk : (p1.toInt8.toInt32) = 2) :
    MetFree l x (head1 (Jvm.Cond.code x code maxLocals ret :: ws) room_1) (fun a U => a = #[(.int p1)] ∧ Z.Warmed39 U.vm ∧ U.heap = h0) (fun _ _ _ _ _ => True) (fun _ U o U' => ∃ v L, o = .returned v ∧ Q0 Z p1 vA kA w0 w1 w2 w3 w4 w5 w6 w7 w8 w9 h0 n0 v U'.heap L ∧ FrameEnd U o U' L 1 10) := by
  refine MetFree.of_bodySF (plainFor_of_name pn_KindOfPinLaw) hisR ?_
  intro p e s m args below meth c s₁ Bd hml0 hP hK
  obtain ⟨rfl, hZ, hh⟩ := hP
  have hx := Bd.exec
  have hby := Bd.bytes
  have hml : c.maxLocals = 4 := hml0
  have hown : s.vm.findClass "com/example/concordat/concordat/log/KindOfPinLaw" = some m.cls := findClass_of_methodNamed Bd.named
  have hnm := (name_of_methodNamed Bd.named Bd.method).1
  have X0 : Stand p l e room_1 s m #[(.int p1)] below meth c s₁ [] 0 0 := Stand.of_body Bd
  have e0 : s₁.heap = h0 := by rw [← hh, Bd.state]; rfl
  have N0 := Fr.nil n0
  have pre0 : ∀ t, Steps p.tables e below (s₁.setTop (mkF m 0 #[.val (.int p1), .unset, .unset, .unset] [])) t → Steps p.tables e below (s₁.setTop (entryFrame m #[(.int p1)] maxLocals)) t := fun t k => castTop (ef_0 m p1) k
  obtain ⟨_, _, ⟨T1, L1, k1, n1⟩, -, X1, ⟨Lc1, hQ1, l1, y1, z1⟩, st1⟩ := Jvm.LawKit.callS X0 hx (y := (⟨"com/example/concordat/concordat/log/LogRecord$Kind", "of", "(B)Lcom/example/concordat/concordat/log/LogRecord$Kind;"⟩ : MethodName)) hown (mvT hZ (hw _ (List.mem_of_getElem? (i := 0) rfl))) (mvT hZ (hw _ (List.mem_of_getElem? (i := 1) rfl))) (mvT hZ (hw _ (List.mem_of_getElem? (i := 2) rfl))) (mvT hZ (hw _ (List.mem_of_getElem? (i := 3) rfl))) (by decide) (backOf (W := 0) (rmO_2 l Z a0 hw [] vA kA w0 w1 w2 w3 w4 w5 w6 w7 w8 w9 h0 n0 Z0 SV AV EV FC0 FC1 FC2 FC3 FC4 FC5 FC6 FC7 FC8 FC9 ) hZ (hw _ (List.mem_of_getElem? (i := 3) rfl)) (hw _ (List.mem_of_getElem? (i := 2) rfl)) (by decide) (by decide)) (g := (mkF m 4 #[.val (.int p1), .val (.int (2 : Int32)), .unset, .unset] [(.int (2 : Int32))])) rfl (by rw [hml]; rfl) (argsL := [(.int (2 : Int32))]) (rest := []) (lenOf pd_1 rfl) rfl (by show 2 * 0 + _ ≤ _; exact Nat.le_of_eq rfl) (hb hby at_4) (fun _ _ => ⟨rfl, e0, (by decide : 0 + 1 ≤ _), (by decide : 0 + 10 ≤ _)⟩)
  dsimp only [Pt.U, Pt.locs, Pt.cells, Pt.slots] at X1 l1 y1 z1 st1 hQ1
  subst l1 y1 z1
  obtain ⟨rfl, N1q, Ex⟩ := hQ1
  have Z1 : n0 ≤ T1.heap.size := Nat.le_trans Z0 Ex.1
  have N1 := Fr.app N0 N1q
  obtain ⟨_, _, ⟨T2, L2, k2, n2⟩, -, X2, ⟨Lc2, hQ2, l2, y2, z2⟩, st2⟩ := Jvm.LawKit.callS X1 hx (y := (⟨"com/example/concordat/concordat/log/KindOfPinLaw", "expected", "(B)Lcom/example/concordat/concordat/log/LogRecord$Kind;"⟩ : MethodName)) hown (mvT hZ (hw _ (List.mem_of_getElem? (i := 31) rfl))) (mvT hZ (hw _ (List.mem_of_getElem? (i := 32) rfl))) (mvT hZ (hw _ (List.mem_of_getElem? (i := 33) rfl))) (mvT hZ (hw _ (List.mem_of_getElem? (i := 34) rfl))) (by decide) (backOf (W := 0) (rmE_2 l Z a0 hw [] w1 T1.heap n0 Z1 (S.ext Ex)) hZ (hw _ (List.mem_of_getElem? (i := 34) rfl)) (hw _ (List.mem_of_getElem? (i := 33) rfl)) (by decide) (by decide)) (g := (mkF m 9 #[.val (.int p1), .val (.int (2 : Int32)), .val (.ref w1), .unset] [(.int (2 : Int32))])) rfl (by rw [hml]; rfl) (argsL := [(.int (2 : Int32))]) (rest := []) (lenOf pd_1 rfl) rfl (by show 2 * 0 + _ ≤ _; exact Nat.le_of_eq rfl) (hb hby at_9) (fun _ _ => ⟨rfl, rfl, (by decide : 1 + 0 ≤ _), (by decide : 10 + 0 ≤ _)⟩)
  dsimp only [Pt.U, Pt.locs, Pt.cells, Pt.slots] at X2 l2 y2 z2 st2 hQ2
  subst l2 y2 z2
  obtain ⟨rfl, N2q, eq2⟩ := hQ2
  have N2 := Fr.app N1 N2q
  obtain ⟨T3, X3, e3, st3⟩ := getF X2 hx hZ hown (host := "") (Or.inl (hw _ (List.mem_of_getElem? (i := 36) rfl))) Via.refl eq2 (FC1.ext Ex) (g := (mkF m 25 #[.val (.int p1), .val (.int (2 : Int32)), .val (.ref w1), .val (.ref w1)] [(.ref w1)])) rfl rfl (hb hby at_25)
  obtain ⟨fs, hr, hrun, hended, hW, hsame⟩ := X3.leave (v := some (.int (1 : Int32))) (fun h => by rw [Bd.returns] at h; cases h)
  refine ⟨_, _, pre0 _ ?_, hrun, hended, _, _, rfl, ?_, ⟨_, rfl⟩, hW, hsame.mono (by decide) (by decide)⟩
  · show Steps p.tables e below (s₁.setTop (mkF m 0 #[.val (.int p1), .unset, .unset, .unset] [])) _
    refine XS.iloadN X0.here hx rfl (hb hby at_0) rfl ?_
    show Steps p.tables e below (s₁.setTop (mkF m 1 #[.val (.int p1), .unset, .unset, .unset] [(.int p1)])) _
    refine XS.i2b X0.here hx rfl (hb hby at_1) rfl ?_
    show Steps p.tables e below (s₁.setTop (mkF m 2 #[.val (.int p1), .unset, .unset, .unset] [(.int (p1.toInt8.toInt32))])) _
    rw [hk]
    show Steps p.tables e below (s₁.setTop (mkF m 2 #[.val (.int p1), .unset, .unset, .unset] [(.int (2 : Int32))])) _
    refine XS.istoreN X0.here hx rfl (hb hby at_2) rfl (l' := #[.val (.int p1), .val (.int (2 : Int32)), .unset, .unset]) rfl ?_
    show Steps p.tables e below (s₁.setTop (mkF m 3 #[.val (.int p1), .val (.int (2 : Int32)), .unset, .unset] [])) _
    refine XS.iloadN X0.here hx rfl (hb hby at_3) rfl ?_
    show Steps p.tables e below (s₁.setTop (mkF m 4 #[.val (.int p1), .val (.int (2 : Int32)), .unset, .unset] [(.int (2 : Int32))])) _
    refine st1 _ ?_
    show Steps p.tables e below (T1.setTop (mkF m 7 #[.val (.int p1), .val (.int (2 : Int32)), .unset, .unset] [(.ref w1)])) _
    refine XS.astoreN X1.here hx rfl (hb hby at_7) rfl rfl (l' := #[.val (.int p1), .val (.int (2 : Int32)), .val (.ref w1), .unset]) rfl ?_
    show Steps p.tables e below (T1.setTop (mkF m 8 #[.val (.int p1), .val (.int (2 : Int32)), .val (.ref w1), .unset] [])) _
    refine XS.iloadN X1.here hx rfl (hb hby at_8) rfl ?_
    show Steps p.tables e below (T1.setTop (mkF m 9 #[.val (.int p1), .val (.int (2 : Int32)), .val (.ref w1), .unset] [(.int (2 : Int32))])) _
    refine st2 _ ?_
    show Steps p.tables e below (T2.setTop (mkF m 12 #[.val (.int p1), .val (.int (2 : Int32)), .val (.ref w1), .unset] [(.ref w1)])) _
    refine XS.astoreN X2.here hx rfl (hb hby at_12) rfl rfl (l' := #[.val (.int p1), .val (.int (2 : Int32)), .val (.ref w1), .val (.ref w1)]) rfl ?_
    show Steps p.tables e below (T2.setTop (mkF m 13 #[.val (.int p1), .val (.int (2 : Int32)), .val (.ref w1), .val (.ref w1)] [])) _
    refine XS.aloadN X2.here hx rfl (hb hby at_13) rfl rfl ?_
    show Steps p.tables e below (T2.setTop (mkF m 14 #[.val (.int p1), .val (.int (2 : Int32)), .val (.ref w1), .val (.ref w1)] [(.ref w1)])) _
    refine XS.aloadN X2.here hx rfl (hb hby at_14) rfl rfl ?_
    show Steps p.tables e below (T2.setTop (mkF m 15 #[.val (.int p1), .val (.int (2 : Int32)), .val (.ref w1), .val (.ref w1)] [(.ref w1), (.ref w1)])) _
    refine Jvm.RoadKit.acmp (g := (mkF m 15 #[.val (.int p1), .val (.int (2 : Int32)), .val (.ref w1), .val (.ref w1)] [(.ref w1), (.ref w1)])) X2 hx rfl rfl rfl (pc0 := 15) (pc' := 20) (same := true) rfl (hb hby at_15) rfl (decide_eq_true rfl) (by decide) (by decide) ?_
    show Steps p.tables e below (T2.setTop (mkF m 20 #[.val (.int p1), .val (.int (2 : Int32)), .val (.ref w1), .val (.ref w1)] [])) _
    refine XS.aloadN X2.here hx rfl (hb hby at_20) rfl rfl ?_
    show Steps p.tables e below (T2.setTop (mkF m 21 #[.val (.int p1), .val (.int (2 : Int32)), .val (.ref w1), .val (.ref w1)] [(.ref w1)])) _
    refine XS.ifnullNo X2.here hx rfl (hb hby at_21) rfl ?_
    show Steps p.tables e below (T2.setTop (mkF m 24 #[.val (.int p1), .val (.int (2 : Int32)), .val (.ref w1), .val (.ref w1)] [])) _
    refine XS.aloadN X2.here hx rfl (hb hby at_24) rfl rfl ?_
    show Steps p.tables e below (T2.setTop (mkF m 25 #[.val (.int p1), .val (.int (2 : Int32)), .val (.ref w1), .val (.ref w1)] [(.ref w1)])) _
    refine st3 _ ?_
    show Steps p.tables e below (T3.setTop (mkF m 28 #[.val (.int p1), .val (.int (2 : Int32)), .val (.ref w1), .val (.ref w1)] [(.int (2 : Int32))])) _
    refine XS.iloadN X3.here hx rfl (hb hby at_28) rfl ?_
    show Steps p.tables e below (T3.setTop (mkF m 29 #[.val (.int p1), .val (.int (2 : Int32)), .val (.ref w1), .val (.ref w1)] [(.int (2 : Int32)), (.int (2 : Int32))])) _
    refine XS.icmpNo X3.here hx rfl (hb hby at_29) rfl (teq (by decide +kernel)).2 ?_
    show Steps p.tables e below (T3.setTop (mkF m 32 #[.val (.int p1), .val (.int (2 : Int32)), .val (.ref w1), .val (.ref w1)] [])) _
    refine XS.iconst X3.here hx rfl (hb hby at_32) ?_
    show Steps p.tables e below (T3.setTop (mkF m 33 #[.val (.int p1), .val (.int (2 : Int32)), .val (.ref w1), .val (.ref w1)] [(.int (1 : Int32))])) _
    refine XS.goto X3.here hx rfl (pc0 := 33) (pc' := 37) rfl (hb hby at_33) (by decide) (by decide) ?_
    show Steps p.tables e below (T3.setTop (mkF m 37 #[.val (.int p1), .val (.int (2 : Int32)), .val (.ref w1), .val (.ref w1)] [(.int (1 : Int32))])) _
    exact retN X3 hx (t := .boolean) Bd.returns (by simp) (hb hby at_37) hr
  · show Q0 Z p1 vA kA w0 w1 w2 w3 w4 w5 w6 w7 w8 w9 h0 n0 _ T3.heap _
    rw [e3]
    exact ⟨rfl, N2⟩
set_option maxRecDepth 65536 in
set_option maxHeartbeats 40000000 in
theorem rm0_3 (l : Launch) (Z : State) (a0 : Array Value) (hw : ∀ d ∈ tables_1, d.before a0 Z = true) (ws : List Jvm.Cond) (p1 : Int32) (vA : Addr) (kA : ClassId) (w0 w1 w2 w3 w4 w5 w6 w7 w8 w9 : Addr) (h0 : Heap) (n0 : Nat) (Z0 : n0 ≤ h0.size) (SV : Sta Z h0 "com/example/concordat/concordat/log/LogRecord$Kind" "$VALUES" "[Lcom/example/concordat/concordat/log/LogRecord$Kind;" (.ref vA)) (AV : Arv Z h0 vA kA (.object "com/example/concordat/concordat/log/LogRecord$Kind") 10 [.ref w0, .ref w1, .ref w2, .ref w3, .ref w4, .ref w5, .ref w6, .ref w7, .ref w8, .ref w9] .null) (EV : Exa Z h0 vA "[Lcom/example/concordat/concordat/log/LogRecord$Kind;") (FC0 : Fld Z h0 w0 "com/example/concordat/concordat/log/LogRecord$Kind" "code" "B" (.int (1 : Int32))) (FC1 : Fld Z h0 w1 "com/example/concordat/concordat/log/LogRecord$Kind" "code" "B" (.int (2 : Int32))) (FC2 : Fld Z h0 w2 "com/example/concordat/concordat/log/LogRecord$Kind" "code" "B" (.int (3 : Int32))) (FC3 : Fld Z h0 w3 "com/example/concordat/concordat/log/LogRecord$Kind" "code" "B" (.int (4 : Int32))) (FC4 : Fld Z h0 w4 "com/example/concordat/concordat/log/LogRecord$Kind" "code" "B" (.int (5 : Int32))) (FC5 : Fld Z h0 w5 "com/example/concordat/concordat/log/LogRecord$Kind" "code" "B" (.int (6 : Int32))) (FC6 : Fld Z h0 w6 "com/example/concordat/concordat/log/LogRecord$Kind" "code" "B" (.int (7 : Int32))) (FC7 : Fld Z h0 w7 "com/example/concordat/concordat/log/LogRecord$Kind" "code" "B" (.int (8 : Int32))) (FC8 : Fld Z h0 w8 "com/example/concordat/concordat/log/LogRecord$Kind" "code" "B" (.int (9 : Int32))) (FC9 : Fld Z h0 w9 "com/example/concordat/concordat/log/LogRecord$Kind" "code" "B" (.int (10 : Int32))) (S : Sta Z h0 "com/example/concordat/concordat/log/LogRecord$Kind" "COMMIT_PREPARED" "Lcom/example/concordat/concordat/log/LogRecord$Kind;" (.ref w2)) (hk : (p1.toInt8.toInt32) = 3) :
    MetFree l x (head1 (Jvm.Cond.code x code maxLocals ret :: ws) room_1) (fun a U => a = #[(.int p1)] ∧ Z.Warmed39 U.vm ∧ U.heap = h0) (fun _ _ _ _ _ => True) (fun _ U o U' => ∃ v L, o = .returned v ∧ Q0 Z p1 vA kA w0 w1 w2 w3 w4 w5 w6 w7 w8 w9 h0 n0 v U'.heap L ∧ FrameEnd U o U' L 1 10) := by
  refine MetFree.of_bodySF (plainFor_of_name pn_KindOfPinLaw) hisR ?_
  intro p e s m args below meth c s₁ Bd hml0 hP hK
  obtain ⟨rfl, hZ, hh⟩ := hP
  have hx := Bd.exec
  have hby := Bd.bytes
  have hml : c.maxLocals = 4 := hml0
  have hown : s.vm.findClass "com/example/concordat/concordat/log/KindOfPinLaw" = some m.cls := findClass_of_methodNamed Bd.named
  have hnm := (name_of_methodNamed Bd.named Bd.method).1
  have X0 : Stand p l e room_1 s m #[(.int p1)] below meth c s₁ [] 0 0 := Stand.of_body Bd
  have e0 : s₁.heap = h0 := by rw [← hh, Bd.state]; rfl
  have N0 := Fr.nil n0
  have pre0 : ∀ t, Steps p.tables e below (s₁.setTop (mkF m 0 #[.val (.int p1), .unset, .unset, .unset] [])) t → Steps p.tables e below (s₁.setTop (entryFrame m #[(.int p1)] maxLocals)) t := fun t k => castTop (ef_0 m p1) k
  obtain ⟨_, _, ⟨T1, L1, k1, n1⟩, -, X1, ⟨Lc1, hQ1, l1, y1, z1⟩, st1⟩ := Jvm.LawKit.callS X0 hx (y := (⟨"com/example/concordat/concordat/log/LogRecord$Kind", "of", "(B)Lcom/example/concordat/concordat/log/LogRecord$Kind;"⟩ : MethodName)) hown (mvT hZ (hw _ (List.mem_of_getElem? (i := 0) rfl))) (mvT hZ (hw _ (List.mem_of_getElem? (i := 1) rfl))) (mvT hZ (hw _ (List.mem_of_getElem? (i := 2) rfl))) (mvT hZ (hw _ (List.mem_of_getElem? (i := 3) rfl))) (by decide) (backOf (W := 0) (rmO_3 l Z a0 hw [] vA kA w0 w1 w2 w3 w4 w5 w6 w7 w8 w9 h0 n0 Z0 SV AV EV FC0 FC1 FC2 FC3 FC4 FC5 FC6 FC7 FC8 FC9 ) hZ (hw _ (List.mem_of_getElem? (i := 3) rfl)) (hw _ (List.mem_of_getElem? (i := 2) rfl)) (by decide) (by decide)) (g := (mkF m 4 #[.val (.int p1), .val (.int (3 : Int32)), .unset, .unset] [(.int (3 : Int32))])) rfl (by rw [hml]; rfl) (argsL := [(.int (3 : Int32))]) (rest := []) (lenOf pd_1 rfl) rfl (by show 2 * 0 + _ ≤ _; exact Nat.le_of_eq rfl) (hb hby at_4) (fun _ _ => ⟨rfl, e0, (by decide : 0 + 1 ≤ _), (by decide : 0 + 10 ≤ _)⟩)
  dsimp only [Pt.U, Pt.locs, Pt.cells, Pt.slots] at X1 l1 y1 z1 st1 hQ1
  subst l1 y1 z1
  obtain ⟨rfl, N1q, Ex⟩ := hQ1
  have Z1 : n0 ≤ T1.heap.size := Nat.le_trans Z0 Ex.1
  have N1 := Fr.app N0 N1q
  obtain ⟨_, _, ⟨T2, L2, k2, n2⟩, -, X2, ⟨Lc2, hQ2, l2, y2, z2⟩, st2⟩ := Jvm.LawKit.callS X1 hx (y := (⟨"com/example/concordat/concordat/log/KindOfPinLaw", "expected", "(B)Lcom/example/concordat/concordat/log/LogRecord$Kind;"⟩ : MethodName)) hown (mvT hZ (hw _ (List.mem_of_getElem? (i := 31) rfl))) (mvT hZ (hw _ (List.mem_of_getElem? (i := 32) rfl))) (mvT hZ (hw _ (List.mem_of_getElem? (i := 33) rfl))) (mvT hZ (hw _ (List.mem_of_getElem? (i := 34) rfl))) (by decide) (backOf (W := 0) (rmE_3 l Z a0 hw [] w2 T1.heap n0 Z1 (S.ext Ex)) hZ (hw _ (List.mem_of_getElem? (i := 34) rfl)) (hw _ (List.mem_of_getElem? (i := 33) rfl)) (by decide) (by decide)) (g := (mkF m 9 #[.val (.int p1), .val (.int (3 : Int32)), .val (.ref w2), .unset] [(.int (3 : Int32))])) rfl (by rw [hml]; rfl) (argsL := [(.int (3 : Int32))]) (rest := []) (lenOf pd_1 rfl) rfl (by show 2 * 0 + _ ≤ _; exact Nat.le_of_eq rfl) (hb hby at_9) (fun _ _ => ⟨rfl, rfl, (by decide : 1 + 0 ≤ _), (by decide : 10 + 0 ≤ _)⟩)
  dsimp only [Pt.U, Pt.locs, Pt.cells, Pt.slots] at X2 l2 y2 z2 st2 hQ2
  subst l2 y2 z2
  obtain ⟨rfl, N2q, eq2⟩ := hQ2
  have N2 := Fr.app N1 N2q
  obtain ⟨T3, X3, e3, st3⟩ := getF X2 hx hZ hown (host := "") (Or.inl (hw _ (List.mem_of_getElem? (i := 36) rfl))) Via.refl eq2 (FC2.ext Ex) (g := (mkF m 25 #[.val (.int p1), .val (.int (3 : Int32)), .val (.ref w2), .val (.ref w2)] [(.ref w2)])) rfl rfl (hb hby at_25)
  obtain ⟨fs, hr, hrun, hended, hW, hsame⟩ := X3.leave (v := some (.int (1 : Int32))) (fun h => by rw [Bd.returns] at h; cases h)
  refine ⟨_, _, pre0 _ ?_, hrun, hended, _, _, rfl, ?_, ⟨_, rfl⟩, hW, hsame.mono (by decide) (by decide)⟩
  · show Steps p.tables e below (s₁.setTop (mkF m 0 #[.val (.int p1), .unset, .unset, .unset] [])) _
    refine XS.iloadN X0.here hx rfl (hb hby at_0) rfl ?_
    show Steps p.tables e below (s₁.setTop (mkF m 1 #[.val (.int p1), .unset, .unset, .unset] [(.int p1)])) _
    refine XS.i2b X0.here hx rfl (hb hby at_1) rfl ?_
    show Steps p.tables e below (s₁.setTop (mkF m 2 #[.val (.int p1), .unset, .unset, .unset] [(.int (p1.toInt8.toInt32))])) _
    rw [hk]
    show Steps p.tables e below (s₁.setTop (mkF m 2 #[.val (.int p1), .unset, .unset, .unset] [(.int (3 : Int32))])) _
    refine XS.istoreN X0.here hx rfl (hb hby at_2) rfl (l' := #[.val (.int p1), .val (.int (3 : Int32)), .unset, .unset]) rfl ?_
    show Steps p.tables e below (s₁.setTop (mkF m 3 #[.val (.int p1), .val (.int (3 : Int32)), .unset, .unset] [])) _
    refine XS.iloadN X0.here hx rfl (hb hby at_3) rfl ?_
    show Steps p.tables e below (s₁.setTop (mkF m 4 #[.val (.int p1), .val (.int (3 : Int32)), .unset, .unset] [(.int (3 : Int32))])) _
    refine st1 _ ?_
    show Steps p.tables e below (T1.setTop (mkF m 7 #[.val (.int p1), .val (.int (3 : Int32)), .unset, .unset] [(.ref w2)])) _
    refine XS.astoreN X1.here hx rfl (hb hby at_7) rfl rfl (l' := #[.val (.int p1), .val (.int (3 : Int32)), .val (.ref w2), .unset]) rfl ?_
    show Steps p.tables e below (T1.setTop (mkF m 8 #[.val (.int p1), .val (.int (3 : Int32)), .val (.ref w2), .unset] [])) _
    refine XS.iloadN X1.here hx rfl (hb hby at_8) rfl ?_
    show Steps p.tables e below (T1.setTop (mkF m 9 #[.val (.int p1), .val (.int (3 : Int32)), .val (.ref w2), .unset] [(.int (3 : Int32))])) _
    refine st2 _ ?_
    show Steps p.tables e below (T2.setTop (mkF m 12 #[.val (.int p1), .val (.int (3 : Int32)), .val (.ref w2), .unset] [(.ref w2)])) _
    refine XS.astoreN X2.here hx rfl (hb hby at_12) rfl rfl (l' := #[.val (.int p1), .val (.int (3 : Int32)), .val (.ref w2), .val (.ref w2)]) rfl ?_
    show Steps p.tables e below (T2.setTop (mkF m 13 #[.val (.int p1), .val (.int (3 : Int32)), .val (.ref w2), .val (.ref w2)] [])) _
    refine XS.aloadN X2.here hx rfl (hb hby at_13) rfl rfl ?_
    show Steps p.tables e below (T2.setTop (mkF m 14 #[.val (.int p1), .val (.int (3 : Int32)), .val (.ref w2), .val (.ref w2)] [(.ref w2)])) _
    refine XS.aloadN X2.here hx rfl (hb hby at_14) rfl rfl ?_
    show Steps p.tables e below (T2.setTop (mkF m 15 #[.val (.int p1), .val (.int (3 : Int32)), .val (.ref w2), .val (.ref w2)] [(.ref w2), (.ref w2)])) _
    refine Jvm.RoadKit.acmp (g := (mkF m 15 #[.val (.int p1), .val (.int (3 : Int32)), .val (.ref w2), .val (.ref w2)] [(.ref w2), (.ref w2)])) X2 hx rfl rfl rfl (pc0 := 15) (pc' := 20) (same := true) rfl (hb hby at_15) rfl (decide_eq_true rfl) (by decide) (by decide) ?_
    show Steps p.tables e below (T2.setTop (mkF m 20 #[.val (.int p1), .val (.int (3 : Int32)), .val (.ref w2), .val (.ref w2)] [])) _
    refine XS.aloadN X2.here hx rfl (hb hby at_20) rfl rfl ?_
    show Steps p.tables e below (T2.setTop (mkF m 21 #[.val (.int p1), .val (.int (3 : Int32)), .val (.ref w2), .val (.ref w2)] [(.ref w2)])) _
    refine XS.ifnullNo X2.here hx rfl (hb hby at_21) rfl ?_
    show Steps p.tables e below (T2.setTop (mkF m 24 #[.val (.int p1), .val (.int (3 : Int32)), .val (.ref w2), .val (.ref w2)] [])) _
    refine XS.aloadN X2.here hx rfl (hb hby at_24) rfl rfl ?_
    show Steps p.tables e below (T2.setTop (mkF m 25 #[.val (.int p1), .val (.int (3 : Int32)), .val (.ref w2), .val (.ref w2)] [(.ref w2)])) _
    refine st3 _ ?_
    show Steps p.tables e below (T3.setTop (mkF m 28 #[.val (.int p1), .val (.int (3 : Int32)), .val (.ref w2), .val (.ref w2)] [(.int (3 : Int32))])) _
    refine XS.iloadN X3.here hx rfl (hb hby at_28) rfl ?_
    show Steps p.tables e below (T3.setTop (mkF m 29 #[.val (.int p1), .val (.int (3 : Int32)), .val (.ref w2), .val (.ref w2)] [(.int (3 : Int32)), (.int (3 : Int32))])) _
    refine XS.icmpNo X3.here hx rfl (hb hby at_29) rfl (teq (by decide +kernel)).2 ?_
    show Steps p.tables e below (T3.setTop (mkF m 32 #[.val (.int p1), .val (.int (3 : Int32)), .val (.ref w2), .val (.ref w2)] [])) _
    refine XS.iconst X3.here hx rfl (hb hby at_32) ?_
    show Steps p.tables e below (T3.setTop (mkF m 33 #[.val (.int p1), .val (.int (3 : Int32)), .val (.ref w2), .val (.ref w2)] [(.int (1 : Int32))])) _
    refine XS.goto X3.here hx rfl (pc0 := 33) (pc' := 37) rfl (hb hby at_33) (by decide) (by decide) ?_
    show Steps p.tables e below (T3.setTop (mkF m 37 #[.val (.int p1), .val (.int (3 : Int32)), .val (.ref w2), .val (.ref w2)] [(.int (1 : Int32))])) _
    exact retN X3 hx (t := .boolean) Bd.returns (by simp) (hb hby at_37) hr
  · show Q0 Z p1 vA kA w0 w1 w2 w3 w4 w5 w6 w7 w8 w9 h0 n0 _ T3.heap _
    rw [e3]
    exact ⟨rfl, N2⟩
set_option maxRecDepth 65536 in
set_option maxHeartbeats 40000000 in
theorem rm0_4 (l : Launch) (Z : State) (a0 : Array Value) (hw : ∀ d ∈ tables_1, d.before a0 Z = true) (ws : List Jvm.Cond) (p1 : Int32) (vA : Addr) (kA : ClassId) (w0 w1 w2 w3 w4 w5 w6 w7 w8 w9 : Addr) (h0 : Heap) (n0 : Nat) (Z0 : n0 ≤ h0.size) (SV : Sta Z h0 "com/example/concordat/concordat/log/LogRecord$Kind" "$VALUES" "[Lcom/example/concordat/concordat/log/LogRecord$Kind;" (.ref vA)) (AV : Arv Z h0 vA kA (.object "com/example/concordat/concordat/log/LogRecord$Kind") 10 [.ref w0, .ref w1, .ref w2, .ref w3, .ref w4, .ref w5, .ref w6, .ref w7, .ref w8, .ref w9] .null) (EV : Exa Z h0 vA "[Lcom/example/concordat/concordat/log/LogRecord$Kind;") (FC0 : Fld Z h0 w0 "com/example/concordat/concordat/log/LogRecord$Kind" "code" "B" (.int (1 : Int32))) (FC1 : Fld Z h0 w1 "com/example/concordat/concordat/log/LogRecord$Kind" "code" "B" (.int (2 : Int32))) (FC2 : Fld Z h0 w2 "com/example/concordat/concordat/log/LogRecord$Kind" "code" "B" (.int (3 : Int32))) (FC3 : Fld Z h0 w3 "com/example/concordat/concordat/log/LogRecord$Kind" "code" "B" (.int (4 : Int32))) (FC4 : Fld Z h0 w4 "com/example/concordat/concordat/log/LogRecord$Kind" "code" "B" (.int (5 : Int32))) (FC5 : Fld Z h0 w5 "com/example/concordat/concordat/log/LogRecord$Kind" "code" "B" (.int (6 : Int32))) (FC6 : Fld Z h0 w6 "com/example/concordat/concordat/log/LogRecord$Kind" "code" "B" (.int (7 : Int32))) (FC7 : Fld Z h0 w7 "com/example/concordat/concordat/log/LogRecord$Kind" "code" "B" (.int (8 : Int32))) (FC8 : Fld Z h0 w8 "com/example/concordat/concordat/log/LogRecord$Kind" "code" "B" (.int (9 : Int32))) (FC9 : Fld Z h0 w9 "com/example/concordat/concordat/log/LogRecord$Kind" "code" "B" (.int (10 : Int32))) (S : Sta Z h0 "com/example/concordat/concordat/log/LogRecord$Kind" "ABORT_PREPARED" "Lcom/example/concordat/concordat/log/LogRecord$Kind;" (.ref w3)) (hk : (p1.toInt8.toInt32) = 4) :
    MetFree l x (head1 (Jvm.Cond.code x code maxLocals ret :: ws) room_1) (fun a U => a = #[(.int p1)] ∧ Z.Warmed39 U.vm ∧ U.heap = h0) (fun _ _ _ _ _ => True) (fun _ U o U' => ∃ v L, o = .returned v ∧ Q0 Z p1 vA kA w0 w1 w2 w3 w4 w5 w6 w7 w8 w9 h0 n0 v U'.heap L ∧ FrameEnd U o U' L 1 10) := by
  refine MetFree.of_bodySF (plainFor_of_name pn_KindOfPinLaw) hisR ?_
  intro p e s m args below meth c s₁ Bd hml0 hP hK
  obtain ⟨rfl, hZ, hh⟩ := hP
  have hx := Bd.exec
  have hby := Bd.bytes
  have hml : c.maxLocals = 4 := hml0
  have hown : s.vm.findClass "com/example/concordat/concordat/log/KindOfPinLaw" = some m.cls := findClass_of_methodNamed Bd.named
  have hnm := (name_of_methodNamed Bd.named Bd.method).1
  have X0 : Stand p l e room_1 s m #[(.int p1)] below meth c s₁ [] 0 0 := Stand.of_body Bd
  have e0 : s₁.heap = h0 := by rw [← hh, Bd.state]; rfl
  have N0 := Fr.nil n0
  have pre0 : ∀ t, Steps p.tables e below (s₁.setTop (mkF m 0 #[.val (.int p1), .unset, .unset, .unset] [])) t → Steps p.tables e below (s₁.setTop (entryFrame m #[(.int p1)] maxLocals)) t := fun t k => castTop (ef_0 m p1) k
  obtain ⟨_, _, ⟨T1, L1, k1, n1⟩, -, X1, ⟨Lc1, hQ1, l1, y1, z1⟩, st1⟩ := Jvm.LawKit.callS X0 hx (y := (⟨"com/example/concordat/concordat/log/LogRecord$Kind", "of", "(B)Lcom/example/concordat/concordat/log/LogRecord$Kind;"⟩ : MethodName)) hown (mvT hZ (hw _ (List.mem_of_getElem? (i := 0) rfl))) (mvT hZ (hw _ (List.mem_of_getElem? (i := 1) rfl))) (mvT hZ (hw _ (List.mem_of_getElem? (i := 2) rfl))) (mvT hZ (hw _ (List.mem_of_getElem? (i := 3) rfl))) (by decide) (backOf (W := 0) (rmO_4 l Z a0 hw [] vA kA w0 w1 w2 w3 w4 w5 w6 w7 w8 w9 h0 n0 Z0 SV AV EV FC0 FC1 FC2 FC3 FC4 FC5 FC6 FC7 FC8 FC9 ) hZ (hw _ (List.mem_of_getElem? (i := 3) rfl)) (hw _ (List.mem_of_getElem? (i := 2) rfl)) (by decide) (by decide)) (g := (mkF m 4 #[.val (.int p1), .val (.int (4 : Int32)), .unset, .unset] [(.int (4 : Int32))])) rfl (by rw [hml]; rfl) (argsL := [(.int (4 : Int32))]) (rest := []) (lenOf pd_1 rfl) rfl (by show 2 * 0 + _ ≤ _; exact Nat.le_of_eq rfl) (hb hby at_4) (fun _ _ => ⟨rfl, e0, (by decide : 0 + 1 ≤ _), (by decide : 0 + 10 ≤ _)⟩)
  dsimp only [Pt.U, Pt.locs, Pt.cells, Pt.slots] at X1 l1 y1 z1 st1 hQ1
  subst l1 y1 z1
  obtain ⟨rfl, N1q, Ex⟩ := hQ1
  have Z1 : n0 ≤ T1.heap.size := Nat.le_trans Z0 Ex.1
  have N1 := Fr.app N0 N1q
  obtain ⟨_, _, ⟨T2, L2, k2, n2⟩, -, X2, ⟨Lc2, hQ2, l2, y2, z2⟩, st2⟩ := Jvm.LawKit.callS X1 hx (y := (⟨"com/example/concordat/concordat/log/KindOfPinLaw", "expected", "(B)Lcom/example/concordat/concordat/log/LogRecord$Kind;"⟩ : MethodName)) hown (mvT hZ (hw _ (List.mem_of_getElem? (i := 31) rfl))) (mvT hZ (hw _ (List.mem_of_getElem? (i := 32) rfl))) (mvT hZ (hw _ (List.mem_of_getElem? (i := 33) rfl))) (mvT hZ (hw _ (List.mem_of_getElem? (i := 34) rfl))) (by decide) (backOf (W := 0) (rmE_4 l Z a0 hw [] w3 T1.heap n0 Z1 (S.ext Ex)) hZ (hw _ (List.mem_of_getElem? (i := 34) rfl)) (hw _ (List.mem_of_getElem? (i := 33) rfl)) (by decide) (by decide)) (g := (mkF m 9 #[.val (.int p1), .val (.int (4 : Int32)), .val (.ref w3), .unset] [(.int (4 : Int32))])) rfl (by rw [hml]; rfl) (argsL := [(.int (4 : Int32))]) (rest := []) (lenOf pd_1 rfl) rfl (by show 2 * 0 + _ ≤ _; exact Nat.le_of_eq rfl) (hb hby at_9) (fun _ _ => ⟨rfl, rfl, (by decide : 1 + 0 ≤ _), (by decide : 10 + 0 ≤ _)⟩)
  dsimp only [Pt.U, Pt.locs, Pt.cells, Pt.slots] at X2 l2 y2 z2 st2 hQ2
  subst l2 y2 z2
  obtain ⟨rfl, N2q, eq2⟩ := hQ2
  have N2 := Fr.app N1 N2q
  obtain ⟨T3, X3, e3, st3⟩ := getF X2 hx hZ hown (host := "") (Or.inl (hw _ (List.mem_of_getElem? (i := 36) rfl))) Via.refl eq2 (FC3.ext Ex) (g := (mkF m 25 #[.val (.int p1), .val (.int (4 : Int32)), .val (.ref w3), .val (.ref w3)] [(.ref w3)])) rfl rfl (hb hby at_25)
  obtain ⟨fs, hr, hrun, hended, hW, hsame⟩ := X3.leave (v := some (.int (1 : Int32))) (fun h => by rw [Bd.returns] at h; cases h)
  refine ⟨_, _, pre0 _ ?_, hrun, hended, _, _, rfl, ?_, ⟨_, rfl⟩, hW, hsame.mono (by decide) (by decide)⟩
  · show Steps p.tables e below (s₁.setTop (mkF m 0 #[.val (.int p1), .unset, .unset, .unset] [])) _
    refine XS.iloadN X0.here hx rfl (hb hby at_0) rfl ?_
    show Steps p.tables e below (s₁.setTop (mkF m 1 #[.val (.int p1), .unset, .unset, .unset] [(.int p1)])) _
    refine XS.i2b X0.here hx rfl (hb hby at_1) rfl ?_
    show Steps p.tables e below (s₁.setTop (mkF m 2 #[.val (.int p1), .unset, .unset, .unset] [(.int (p1.toInt8.toInt32))])) _
    rw [hk]
    show Steps p.tables e below (s₁.setTop (mkF m 2 #[.val (.int p1), .unset, .unset, .unset] [(.int (4 : Int32))])) _
    refine XS.istoreN X0.here hx rfl (hb hby at_2) rfl (l' := #[.val (.int p1), .val (.int (4 : Int32)), .unset, .unset]) rfl ?_
    show Steps p.tables e below (s₁.setTop (mkF m 3 #[.val (.int p1), .val (.int (4 : Int32)), .unset, .unset] [])) _
    refine XS.iloadN X0.here hx rfl (hb hby at_3) rfl ?_
    show Steps p.tables e below (s₁.setTop (mkF m 4 #[.val (.int p1), .val (.int (4 : Int32)), .unset, .unset] [(.int (4 : Int32))])) _
    refine st1 _ ?_
    show Steps p.tables e below (T1.setTop (mkF m 7 #[.val (.int p1), .val (.int (4 : Int32)), .unset, .unset] [(.ref w3)])) _
    refine XS.astoreN X1.here hx rfl (hb hby at_7) rfl rfl (l' := #[.val (.int p1), .val (.int (4 : Int32)), .val (.ref w3), .unset]) rfl ?_
    show Steps p.tables e below (T1.setTop (mkF m 8 #[.val (.int p1), .val (.int (4 : Int32)), .val (.ref w3), .unset] [])) _
    refine XS.iloadN X1.here hx rfl (hb hby at_8) rfl ?_
    show Steps p.tables e below (T1.setTop (mkF m 9 #[.val (.int p1), .val (.int (4 : Int32)), .val (.ref w3), .unset] [(.int (4 : Int32))])) _
    refine st2 _ ?_
    show Steps p.tables e below (T2.setTop (mkF m 12 #[.val (.int p1), .val (.int (4 : Int32)), .val (.ref w3), .unset] [(.ref w3)])) _
    refine XS.astoreN X2.here hx rfl (hb hby at_12) rfl rfl (l' := #[.val (.int p1), .val (.int (4 : Int32)), .val (.ref w3), .val (.ref w3)]) rfl ?_
    show Steps p.tables e below (T2.setTop (mkF m 13 #[.val (.int p1), .val (.int (4 : Int32)), .val (.ref w3), .val (.ref w3)] [])) _
    refine XS.aloadN X2.here hx rfl (hb hby at_13) rfl rfl ?_
    show Steps p.tables e below (T2.setTop (mkF m 14 #[.val (.int p1), .val (.int (4 : Int32)), .val (.ref w3), .val (.ref w3)] [(.ref w3)])) _
    refine XS.aloadN X2.here hx rfl (hb hby at_14) rfl rfl ?_
    show Steps p.tables e below (T2.setTop (mkF m 15 #[.val (.int p1), .val (.int (4 : Int32)), .val (.ref w3), .val (.ref w3)] [(.ref w3), (.ref w3)])) _
    refine Jvm.RoadKit.acmp (g := (mkF m 15 #[.val (.int p1), .val (.int (4 : Int32)), .val (.ref w3), .val (.ref w3)] [(.ref w3), (.ref w3)])) X2 hx rfl rfl rfl (pc0 := 15) (pc' := 20) (same := true) rfl (hb hby at_15) rfl (decide_eq_true rfl) (by decide) (by decide) ?_
    show Steps p.tables e below (T2.setTop (mkF m 20 #[.val (.int p1), .val (.int (4 : Int32)), .val (.ref w3), .val (.ref w3)] [])) _
    refine XS.aloadN X2.here hx rfl (hb hby at_20) rfl rfl ?_
    show Steps p.tables e below (T2.setTop (mkF m 21 #[.val (.int p1), .val (.int (4 : Int32)), .val (.ref w3), .val (.ref w3)] [(.ref w3)])) _
    refine XS.ifnullNo X2.here hx rfl (hb hby at_21) rfl ?_
    show Steps p.tables e below (T2.setTop (mkF m 24 #[.val (.int p1), .val (.int (4 : Int32)), .val (.ref w3), .val (.ref w3)] [])) _
    refine XS.aloadN X2.here hx rfl (hb hby at_24) rfl rfl ?_
    show Steps p.tables e below (T2.setTop (mkF m 25 #[.val (.int p1), .val (.int (4 : Int32)), .val (.ref w3), .val (.ref w3)] [(.ref w3)])) _
    refine st3 _ ?_
    show Steps p.tables e below (T3.setTop (mkF m 28 #[.val (.int p1), .val (.int (4 : Int32)), .val (.ref w3), .val (.ref w3)] [(.int (4 : Int32))])) _
    refine XS.iloadN X3.here hx rfl (hb hby at_28) rfl ?_
    show Steps p.tables e below (T3.setTop (mkF m 29 #[.val (.int p1), .val (.int (4 : Int32)), .val (.ref w3), .val (.ref w3)] [(.int (4 : Int32)), (.int (4 : Int32))])) _
    refine XS.icmpNo X3.here hx rfl (hb hby at_29) rfl (teq (by decide +kernel)).2 ?_
    show Steps p.tables e below (T3.setTop (mkF m 32 #[.val (.int p1), .val (.int (4 : Int32)), .val (.ref w3), .val (.ref w3)] [])) _
    refine XS.iconst X3.here hx rfl (hb hby at_32) ?_
    show Steps p.tables e below (T3.setTop (mkF m 33 #[.val (.int p1), .val (.int (4 : Int32)), .val (.ref w3), .val (.ref w3)] [(.int (1 : Int32))])) _
    refine XS.goto X3.here hx rfl (pc0 := 33) (pc' := 37) rfl (hb hby at_33) (by decide) (by decide) ?_
    show Steps p.tables e below (T3.setTop (mkF m 37 #[.val (.int p1), .val (.int (4 : Int32)), .val (.ref w3), .val (.ref w3)] [(.int (1 : Int32))])) _
    exact retN X3 hx (t := .boolean) Bd.returns (by simp) (hb hby at_37) hr
  · show Q0 Z p1 vA kA w0 w1 w2 w3 w4 w5 w6 w7 w8 w9 h0 n0 _ T3.heap _
    rw [e3]
    exact ⟨rfl, N2⟩
set_option maxRecDepth 65536 in
set_option maxHeartbeats 40000000 in
theorem rm0_5 (l : Launch) (Z : State) (a0 : Array Value) (hw : ∀ d ∈ tables_1, d.before a0 Z = true) (ws : List Jvm.Cond) (p1 : Int32) (vA : Addr) (kA : ClassId) (w0 w1 w2 w3 w4 w5 w6 w7 w8 w9 : Addr) (h0 : Heap) (n0 : Nat) (Z0 : n0 ≤ h0.size) (SV : Sta Z h0 "com/example/concordat/concordat/log/LogRecord$Kind" "$VALUES" "[Lcom/example/concordat/concordat/log/LogRecord$Kind;" (.ref vA)) (AV : Arv Z h0 vA kA (.object "com/example/concordat/concordat/log/LogRecord$Kind") 10 [.ref w0, .ref w1, .ref w2, .ref w3, .ref w4, .ref w5, .ref w6, .ref w7, .ref w8, .ref w9] .null) (EV : Exa Z h0 vA "[Lcom/example/concordat/concordat/log/LogRecord$Kind;") (FC0 : Fld Z h0 w0 "com/example/concordat/concordat/log/LogRecord$Kind" "code" "B" (.int (1 : Int32))) (FC1 : Fld Z h0 w1 "com/example/concordat/concordat/log/LogRecord$Kind" "code" "B" (.int (2 : Int32))) (FC2 : Fld Z h0 w2 "com/example/concordat/concordat/log/LogRecord$Kind" "code" "B" (.int (3 : Int32))) (FC3 : Fld Z h0 w3 "com/example/concordat/concordat/log/LogRecord$Kind" "code" "B" (.int (4 : Int32))) (FC4 : Fld Z h0 w4 "com/example/concordat/concordat/log/LogRecord$Kind" "code" "B" (.int (5 : Int32))) (FC5 : Fld Z h0 w5 "com/example/concordat/concordat/log/LogRecord$Kind" "code" "B" (.int (6 : Int32))) (FC6 : Fld Z h0 w6 "com/example/concordat/concordat/log/LogRecord$Kind" "code" "B" (.int (7 : Int32))) (FC7 : Fld Z h0 w7 "com/example/concordat/concordat/log/LogRecord$Kind" "code" "B" (.int (8 : Int32))) (FC8 : Fld Z h0 w8 "com/example/concordat/concordat/log/LogRecord$Kind" "code" "B" (.int (9 : Int32))) (FC9 : Fld Z h0 w9 "com/example/concordat/concordat/log/LogRecord$Kind" "code" "B" (.int (10 : Int32))) (S : Sta Z h0 "com/example/concordat/concordat/log/LogRecord$Kind" "DECISION" "Lcom/example/concordat/concordat/log/LogRecord$Kind;" (.ref w4)) (hk : (p1.toInt8.toInt32) = 5) :
    MetFree l x (head1 (Jvm.Cond.code x code maxLocals ret :: ws) room_1) (fun a U => a = #[(.int p1)] ∧ Z.Warmed39 U.vm ∧ U.heap = h0) (fun _ _ _ _ _ => True) (fun _ U o U' => ∃ v L, o = .returned v ∧ Q0 Z p1 vA kA w0 w1 w2 w3 w4 w5 w6 w7 w8 w9 h0 n0 v U'.heap L ∧ FrameEnd U o U' L 1 10) := by
  refine MetFree.of_bodySF (plainFor_of_name pn_KindOfPinLaw) hisR ?_
  intro p e s m args below meth c s₁ Bd hml0 hP hK
  obtain ⟨rfl, hZ, hh⟩ := hP
  have hx := Bd.exec
  have hby := Bd.bytes
  have hml : c.maxLocals = 4 := hml0
  have hown : s.vm.findClass "com/example/concordat/concordat/log/KindOfPinLaw" = some m.cls := findClass_of_methodNamed Bd.named
  have hnm := (name_of_methodNamed Bd.named Bd.method).1
  have X0 : Stand p l e room_1 s m #[(.int p1)] below meth c s₁ [] 0 0 := Stand.of_body Bd
  have e0 : s₁.heap = h0 := by rw [← hh, Bd.state]; rfl
  have N0 := Fr.nil n0
  have pre0 : ∀ t, Steps p.tables e below (s₁.setTop (mkF m 0 #[.val (.int p1), .unset, .unset, .unset] [])) t → Steps p.tables e below (s₁.setTop (entryFrame m #[(.int p1)] maxLocals)) t := fun t k => castTop (ef_0 m p1) k
  obtain ⟨_, _, ⟨T1, L1, k1, n1⟩, -, X1, ⟨Lc1, hQ1, l1, y1, z1⟩, st1⟩ := Jvm.LawKit.callS X0 hx (y := (⟨"com/example/concordat/concordat/log/LogRecord$Kind", "of", "(B)Lcom/example/concordat/concordat/log/LogRecord$Kind;"⟩ : MethodName)) hown (mvT hZ (hw _ (List.mem_of_getElem? (i := 0) rfl))) (mvT hZ (hw _ (List.mem_of_getElem? (i := 1) rfl))) (mvT hZ (hw _ (List.mem_of_getElem? (i := 2) rfl))) (mvT hZ (hw _ (List.mem_of_getElem? (i := 3) rfl))) (by decide) (backOf (W := 0) (rmO_5 l Z a0 hw [] vA kA w0 w1 w2 w3 w4 w5 w6 w7 w8 w9 h0 n0 Z0 SV AV EV FC0 FC1 FC2 FC3 FC4 FC5 FC6 FC7 FC8 FC9 ) hZ (hw _ (List.mem_of_getElem? (i := 3) rfl)) (hw _ (List.mem_of_getElem? (i := 2) rfl)) (by decide) (by decide)) (g := (mkF m 4 #[.val (.int p1), .val (.int (5 : Int32)), .unset, .unset] [(.int (5 : Int32))])) rfl (by rw [hml]; rfl) (argsL := [(.int (5 : Int32))]) (rest := []) (lenOf pd_1 rfl) rfl (by show 2 * 0 + _ ≤ _; exact Nat.le_of_eq rfl) (hb hby at_4) (fun _ _ => ⟨rfl, e0, (by decide : 0 + 1 ≤ _), (by decide : 0 + 10 ≤ _)⟩)
  dsimp only [Pt.U, Pt.locs, Pt.cells, Pt.slots] at X1 l1 y1 z1 st1 hQ1
  subst l1 y1 z1
  obtain ⟨rfl, N1q, Ex⟩ := hQ1
  have Z1 : n0 ≤ T1.heap.size := Nat.le_trans Z0 Ex.1
  have N1 := Fr.app N0 N1q
  obtain ⟨_, _, ⟨T2, L2, k2, n2⟩, -, X2, ⟨Lc2, hQ2, l2, y2, z2⟩, st2⟩ := Jvm.LawKit.callS X1 hx (y := (⟨"com/example/concordat/concordat/log/KindOfPinLaw", "expected", "(B)Lcom/example/concordat/concordat/log/LogRecord$Kind;"⟩ : MethodName)) hown (mvT hZ (hw _ (List.mem_of_getElem? (i := 31) rfl))) (mvT hZ (hw _ (List.mem_of_getElem? (i := 32) rfl))) (mvT hZ (hw _ (List.mem_of_getElem? (i := 33) rfl))) (mvT hZ (hw _ (List.mem_of_getElem? (i := 34) rfl))) (by decide) (backOf (W := 0) (rmE_5 l Z a0 hw [] w4 T1.heap n0 Z1 (S.ext Ex)) hZ (hw _ (List.mem_of_getElem? (i := 34) rfl)) (hw _ (List.mem_of_getElem? (i := 33) rfl)) (by decide) (by decide)) (g := (mkF m 9 #[.val (.int p1), .val (.int (5 : Int32)), .val (.ref w4), .unset] [(.int (5 : Int32))])) rfl (by rw [hml]; rfl) (argsL := [(.int (5 : Int32))]) (rest := []) (lenOf pd_1 rfl) rfl (by show 2 * 0 + _ ≤ _; exact Nat.le_of_eq rfl) (hb hby at_9) (fun _ _ => ⟨rfl, rfl, (by decide : 1 + 0 ≤ _), (by decide : 10 + 0 ≤ _)⟩)
  dsimp only [Pt.U, Pt.locs, Pt.cells, Pt.slots] at X2 l2 y2 z2 st2 hQ2
  subst l2 y2 z2
  obtain ⟨rfl, N2q, eq2⟩ := hQ2
  have N2 := Fr.app N1 N2q
  obtain ⟨T3, X3, e3, st3⟩ := getF X2 hx hZ hown (host := "") (Or.inl (hw _ (List.mem_of_getElem? (i := 36) rfl))) Via.refl eq2 (FC4.ext Ex) (g := (mkF m 25 #[.val (.int p1), .val (.int (5 : Int32)), .val (.ref w4), .val (.ref w4)] [(.ref w4)])) rfl rfl (hb hby at_25)
  obtain ⟨fs, hr, hrun, hended, hW, hsame⟩ := X3.leave (v := some (.int (1 : Int32))) (fun h => by rw [Bd.returns] at h; cases h)
  refine ⟨_, _, pre0 _ ?_, hrun, hended, _, _, rfl, ?_, ⟨_, rfl⟩, hW, hsame.mono (by decide) (by decide)⟩
  · show Steps p.tables e below (s₁.setTop (mkF m 0 #[.val (.int p1), .unset, .unset, .unset] [])) _
    refine XS.iloadN X0.here hx rfl (hb hby at_0) rfl ?_
    show Steps p.tables e below (s₁.setTop (mkF m 1 #[.val (.int p1), .unset, .unset, .unset] [(.int p1)])) _
    refine XS.i2b X0.here hx rfl (hb hby at_1) rfl ?_
    show Steps p.tables e below (s₁.setTop (mkF m 2 #[.val (.int p1), .unset, .unset, .unset] [(.int (p1.toInt8.toInt32))])) _
    rw [hk]
    show Steps p.tables e below (s₁.setTop (mkF m 2 #[.val (.int p1), .unset, .unset, .unset] [(.int (5 : Int32))])) _
    refine XS.istoreN X0.here hx rfl (hb hby at_2) rfl (l' := #[.val (.int p1), .val (.int (5 : Int32)), .unset, .unset]) rfl ?_
    show Steps p.tables e below (s₁.setTop (mkF m 3 #[.val (.int p1), .val (.int (5 : Int32)), .unset, .unset] [])) _
    refine XS.iloadN X0.here hx rfl (hb hby at_3) rfl ?_
    show Steps p.tables e below (s₁.setTop (mkF m 4 #[.val (.int p1), .val (.int (5 : Int32)), .unset, .unset] [(.int (5 : Int32))])) _
    refine st1 _ ?_
    show Steps p.tables e below (T1.setTop (mkF m 7 #[.val (.int p1), .val (.int (5 : Int32)), .unset, .unset] [(.ref w4)])) _
    refine XS.astoreN X1.here hx rfl (hb hby at_7) rfl rfl (l' := #[.val (.int p1), .val (.int (5 : Int32)), .val (.ref w4), .unset]) rfl ?_
    show Steps p.tables e below (T1.setTop (mkF m 8 #[.val (.int p1), .val (.int (5 : Int32)), .val (.ref w4), .unset] [])) _
    refine XS.iloadN X1.here hx rfl (hb hby at_8) rfl ?_
    show Steps p.tables e below (T1.setTop (mkF m 9 #[.val (.int p1), .val (.int (5 : Int32)), .val (.ref w4), .unset] [(.int (5 : Int32))])) _
    refine st2 _ ?_
    show Steps p.tables e below (T2.setTop (mkF m 12 #[.val (.int p1), .val (.int (5 : Int32)), .val (.ref w4), .unset] [(.ref w4)])) _
    refine XS.astoreN X2.here hx rfl (hb hby at_12) rfl rfl (l' := #[.val (.int p1), .val (.int (5 : Int32)), .val (.ref w4), .val (.ref w4)]) rfl ?_
    show Steps p.tables e below (T2.setTop (mkF m 13 #[.val (.int p1), .val (.int (5 : Int32)), .val (.ref w4), .val (.ref w4)] [])) _
    refine XS.aloadN X2.here hx rfl (hb hby at_13) rfl rfl ?_
    show Steps p.tables e below (T2.setTop (mkF m 14 #[.val (.int p1), .val (.int (5 : Int32)), .val (.ref w4), .val (.ref w4)] [(.ref w4)])) _
    refine XS.aloadN X2.here hx rfl (hb hby at_14) rfl rfl ?_
    show Steps p.tables e below (T2.setTop (mkF m 15 #[.val (.int p1), .val (.int (5 : Int32)), .val (.ref w4), .val (.ref w4)] [(.ref w4), (.ref w4)])) _
    refine Jvm.RoadKit.acmp (g := (mkF m 15 #[.val (.int p1), .val (.int (5 : Int32)), .val (.ref w4), .val (.ref w4)] [(.ref w4), (.ref w4)])) X2 hx rfl rfl rfl (pc0 := 15) (pc' := 20) (same := true) rfl (hb hby at_15) rfl (decide_eq_true rfl) (by decide) (by decide) ?_
    show Steps p.tables e below (T2.setTop (mkF m 20 #[.val (.int p1), .val (.int (5 : Int32)), .val (.ref w4), .val (.ref w4)] [])) _
    refine XS.aloadN X2.here hx rfl (hb hby at_20) rfl rfl ?_
    show Steps p.tables e below (T2.setTop (mkF m 21 #[.val (.int p1), .val (.int (5 : Int32)), .val (.ref w4), .val (.ref w4)] [(.ref w4)])) _
    refine XS.ifnullNo X2.here hx rfl (hb hby at_21) rfl ?_
    show Steps p.tables e below (T2.setTop (mkF m 24 #[.val (.int p1), .val (.int (5 : Int32)), .val (.ref w4), .val (.ref w4)] [])) _
    refine XS.aloadN X2.here hx rfl (hb hby at_24) rfl rfl ?_
    show Steps p.tables e below (T2.setTop (mkF m 25 #[.val (.int p1), .val (.int (5 : Int32)), .val (.ref w4), .val (.ref w4)] [(.ref w4)])) _
    refine st3 _ ?_
    show Steps p.tables e below (T3.setTop (mkF m 28 #[.val (.int p1), .val (.int (5 : Int32)), .val (.ref w4), .val (.ref w4)] [(.int (5 : Int32))])) _
    refine XS.iloadN X3.here hx rfl (hb hby at_28) rfl ?_
    show Steps p.tables e below (T3.setTop (mkF m 29 #[.val (.int p1), .val (.int (5 : Int32)), .val (.ref w4), .val (.ref w4)] [(.int (5 : Int32)), (.int (5 : Int32))])) _
    refine XS.icmpNo X3.here hx rfl (hb hby at_29) rfl (teq (by decide +kernel)).2 ?_
    show Steps p.tables e below (T3.setTop (mkF m 32 #[.val (.int p1), .val (.int (5 : Int32)), .val (.ref w4), .val (.ref w4)] [])) _
    refine XS.iconst X3.here hx rfl (hb hby at_32) ?_
    show Steps p.tables e below (T3.setTop (mkF m 33 #[.val (.int p1), .val (.int (5 : Int32)), .val (.ref w4), .val (.ref w4)] [(.int (1 : Int32))])) _
    refine XS.goto X3.here hx rfl (pc0 := 33) (pc' := 37) rfl (hb hby at_33) (by decide) (by decide) ?_
    show Steps p.tables e below (T3.setTop (mkF m 37 #[.val (.int p1), .val (.int (5 : Int32)), .val (.ref w4), .val (.ref w4)] [(.int (1 : Int32))])) _
    exact retN X3 hx (t := .boolean) Bd.returns (by simp) (hb hby at_37) hr
  · show Q0 Z p1 vA kA w0 w1 w2 w3 w4 w5 w6 w7 w8 w9 h0 n0 _ T3.heap _
    rw [e3]
    exact ⟨rfl, N2⟩
set_option maxRecDepth 65536 in
set_option maxHeartbeats 40000000 in
theorem rm0_6 (l : Launch) (Z : State) (a0 : Array Value) (hw : ∀ d ∈ tables_1, d.before a0 Z = true) (ws : List Jvm.Cond) (p1 : Int32) (vA : Addr) (kA : ClassId) (w0 w1 w2 w3 w4 w5 w6 w7 w8 w9 : Addr) (h0 : Heap) (n0 : Nat) (Z0 : n0 ≤ h0.size) (SV : Sta Z h0 "com/example/concordat/concordat/log/LogRecord$Kind" "$VALUES" "[Lcom/example/concordat/concordat/log/LogRecord$Kind;" (.ref vA)) (AV : Arv Z h0 vA kA (.object "com/example/concordat/concordat/log/LogRecord$Kind") 10 [.ref w0, .ref w1, .ref w2, .ref w3, .ref w4, .ref w5, .ref w6, .ref w7, .ref w8, .ref w9] .null) (EV : Exa Z h0 vA "[Lcom/example/concordat/concordat/log/LogRecord$Kind;") (FC0 : Fld Z h0 w0 "com/example/concordat/concordat/log/LogRecord$Kind" "code" "B" (.int (1 : Int32))) (FC1 : Fld Z h0 w1 "com/example/concordat/concordat/log/LogRecord$Kind" "code" "B" (.int (2 : Int32))) (FC2 : Fld Z h0 w2 "com/example/concordat/concordat/log/LogRecord$Kind" "code" "B" (.int (3 : Int32))) (FC3 : Fld Z h0 w3 "com/example/concordat/concordat/log/LogRecord$Kind" "code" "B" (.int (4 : Int32))) (FC4 : Fld Z h0 w4 "com/example/concordat/concordat/log/LogRecord$Kind" "code" "B" (.int (5 : Int32))) (FC5 : Fld Z h0 w5 "com/example/concordat/concordat/log/LogRecord$Kind" "code" "B" (.int (6 : Int32))) (FC6 : Fld Z h0 w6 "com/example/concordat/concordat/log/LogRecord$Kind" "code" "B" (.int (7 : Int32))) (FC7 : Fld Z h0 w7 "com/example/concordat/concordat/log/LogRecord$Kind" "code" "B" (.int (8 : Int32))) (FC8 : Fld Z h0 w8 "com/example/concordat/concordat/log/LogRecord$Kind" "code" "B" (.int (9 : Int32))) (FC9 : Fld Z h0 w9 "com/example/concordat/concordat/log/LogRecord$Kind" "code" "B" (.int (10 : Int32))) (S : Sta Z h0 "com/example/concordat/concordat/log/LogRecord$Kind" "FINISHED" "Lcom/example/concordat/concordat/log/LogRecord$Kind;" (.ref w5)) (hk : (p1.toInt8.toInt32) = 6) :
    MetFree l x (head1 (Jvm.Cond.code x code maxLocals ret :: ws) room_1) (fun a U => a = #[(.int p1)] ∧ Z.Warmed39 U.vm ∧ U.heap = h0) (fun _ _ _ _ _ => True) (fun _ U o U' => ∃ v L, o = .returned v ∧ Q0 Z p1 vA kA w0 w1 w2 w3 w4 w5 w6 w7 w8 w9 h0 n0 v U'.heap L ∧ FrameEnd U o U' L 1 10) := by
  refine MetFree.of_bodySF (plainFor_of_name pn_KindOfPinLaw) hisR ?_
  intro p e s m args below meth c s₁ Bd hml0 hP hK
  obtain ⟨rfl, hZ, hh⟩ := hP
  have hx := Bd.exec
  have hby := Bd.bytes
  have hml : c.maxLocals = 4 := hml0
  have hown : s.vm.findClass "com/example/concordat/concordat/log/KindOfPinLaw" = some m.cls := findClass_of_methodNamed Bd.named
  have hnm := (name_of_methodNamed Bd.named Bd.method).1
  have X0 : Stand p l e room_1 s m #[(.int p1)] below meth c s₁ [] 0 0 := Stand.of_body Bd
  have e0 : s₁.heap = h0 := by rw [← hh, Bd.state]; rfl
  have N0 := Fr.nil n0
  have pre0 : ∀ t, Steps p.tables e below (s₁.setTop (mkF m 0 #[.val (.int p1), .unset, .unset, .unset] [])) t → Steps p.tables e below (s₁.setTop (entryFrame m #[(.int p1)] maxLocals)) t := fun t k => castTop (ef_0 m p1) k
  obtain ⟨_, _, ⟨T1, L1, k1, n1⟩, -, X1, ⟨Lc1, hQ1, l1, y1, z1⟩, st1⟩ := Jvm.LawKit.callS X0 hx (y := (⟨"com/example/concordat/concordat/log/LogRecord$Kind", "of", "(B)Lcom/example/concordat/concordat/log/LogRecord$Kind;"⟩ : MethodName)) hown (mvT hZ (hw _ (List.mem_of_getElem? (i := 0) rfl))) (mvT hZ (hw _ (List.mem_of_getElem? (i := 1) rfl))) (mvT hZ (hw _ (List.mem_of_getElem? (i := 2) rfl))) (mvT hZ (hw _ (List.mem_of_getElem? (i := 3) rfl))) (by decide) (backOf (W := 0) (rmO_6 l Z a0 hw [] vA kA w0 w1 w2 w3 w4 w5 w6 w7 w8 w9 h0 n0 Z0 SV AV EV FC0 FC1 FC2 FC3 FC4 FC5 FC6 FC7 FC8 FC9 ) hZ (hw _ (List.mem_of_getElem? (i := 3) rfl)) (hw _ (List.mem_of_getElem? (i := 2) rfl)) (by decide) (by decide)) (g := (mkF m 4 #[.val (.int p1), .val (.int (6 : Int32)), .unset, .unset] [(.int (6 : Int32))])) rfl (by rw [hml]; rfl) (argsL := [(.int (6 : Int32))]) (rest := []) (lenOf pd_1 rfl) rfl (by show 2 * 0 + _ ≤ _; exact Nat.le_of_eq rfl) (hb hby at_4) (fun _ _ => ⟨rfl, e0, (by decide : 0 + 1 ≤ _), (by decide : 0 + 10 ≤ _)⟩)
  dsimp only [Pt.U, Pt.locs, Pt.cells, Pt.slots] at X1 l1 y1 z1 st1 hQ1
  subst l1 y1 z1
  obtain ⟨rfl, N1q, Ex⟩ := hQ1
  have Z1 : n0 ≤ T1.heap.size := Nat.le_trans Z0 Ex.1
  have N1 := Fr.app N0 N1q
  obtain ⟨_, _, ⟨T2, L2, k2, n2⟩, -, X2, ⟨Lc2, hQ2, l2, y2, z2⟩, st2⟩ := Jvm.LawKit.callS X1 hx (y := (⟨"com/example/concordat/concordat/log/KindOfPinLaw", "expected", "(B)Lcom/example/concordat/concordat/log/LogRecord$Kind;"⟩ : MethodName)) hown (mvT hZ (hw _ (List.mem_of_getElem? (i := 31) rfl))) (mvT hZ (hw _ (List.mem_of_getElem? (i := 32) rfl))) (mvT hZ (hw _ (List.mem_of_getElem? (i := 33) rfl))) (mvT hZ (hw _ (List.mem_of_getElem? (i := 34) rfl))) (by decide) (backOf (W := 0) (rmE_6 l Z a0 hw [] w5 T1.heap n0 Z1 (S.ext Ex)) hZ (hw _ (List.mem_of_getElem? (i := 34) rfl)) (hw _ (List.mem_of_getElem? (i := 33) rfl)) (by decide) (by decide)) (g := (mkF m 9 #[.val (.int p1), .val (.int (6 : Int32)), .val (.ref w5), .unset] [(.int (6 : Int32))])) rfl (by rw [hml]; rfl) (argsL := [(.int (6 : Int32))]) (rest := []) (lenOf pd_1 rfl) rfl (by show 2 * 0 + _ ≤ _; exact Nat.le_of_eq rfl) (hb hby at_9) (fun _ _ => ⟨rfl, rfl, (by decide : 1 + 0 ≤ _), (by decide : 10 + 0 ≤ _)⟩)
  dsimp only [Pt.U, Pt.locs, Pt.cells, Pt.slots] at X2 l2 y2 z2 st2 hQ2
  subst l2 y2 z2
  obtain ⟨rfl, N2q, eq2⟩ := hQ2
  have N2 := Fr.app N1 N2q
  obtain ⟨T3, X3, e3, st3⟩ := getF X2 hx hZ hown (host := "") (Or.inl (hw _ (List.mem_of_getElem? (i := 36) rfl))) Via.refl eq2 (FC5.ext Ex) (g := (mkF m 25 #[.val (.int p1), .val (.int (6 : Int32)), .val (.ref w5), .val (.ref w5)] [(.ref w5)])) rfl rfl (hb hby at_25)
  obtain ⟨fs, hr, hrun, hended, hW, hsame⟩ := X3.leave (v := some (.int (1 : Int32))) (fun h => by rw [Bd.returns] at h; cases h)
  refine ⟨_, _, pre0 _ ?_, hrun, hended, _, _, rfl, ?_, ⟨_, rfl⟩, hW, hsame.mono (by decide) (by decide)⟩
  · show Steps p.tables e below (s₁.setTop (mkF m 0 #[.val (.int p1), .unset, .unset, .unset] [])) _
    refine XS.iloadN X0.here hx rfl (hb hby at_0) rfl ?_
    show Steps p.tables e below (s₁.setTop (mkF m 1 #[.val (.int p1), .unset, .unset, .unset] [(.int p1)])) _
    refine XS.i2b X0.here hx rfl (hb hby at_1) rfl ?_
    show Steps p.tables e below (s₁.setTop (mkF m 2 #[.val (.int p1), .unset, .unset, .unset] [(.int (p1.toInt8.toInt32))])) _
    rw [hk]
    show Steps p.tables e below (s₁.setTop (mkF m 2 #[.val (.int p1), .unset, .unset, .unset] [(.int (6 : Int32))])) _
    refine XS.istoreN X0.here hx rfl (hb hby at_2) rfl (l' := #[.val (.int p1), .val (.int (6 : Int32)), .unset, .unset]) rfl ?_
    show Steps p.tables e below (s₁.setTop (mkF m 3 #[.val (.int p1), .val (.int (6 : Int32)), .unset, .unset] [])) _
    refine XS.iloadN X0.here hx rfl (hb hby at_3) rfl ?_
    show Steps p.tables e below (s₁.setTop (mkF m 4 #[.val (.int p1), .val (.int (6 : Int32)), .unset, .unset] [(.int (6 : Int32))])) _
    refine st1 _ ?_
    show Steps p.tables e below (T1.setTop (mkF m 7 #[.val (.int p1), .val (.int (6 : Int32)), .unset, .unset] [(.ref w5)])) _
    refine XS.astoreN X1.here hx rfl (hb hby at_7) rfl rfl (l' := #[.val (.int p1), .val (.int (6 : Int32)), .val (.ref w5), .unset]) rfl ?_
    show Steps p.tables e below (T1.setTop (mkF m 8 #[.val (.int p1), .val (.int (6 : Int32)), .val (.ref w5), .unset] [])) _
    refine XS.iloadN X1.here hx rfl (hb hby at_8) rfl ?_
    show Steps p.tables e below (T1.setTop (mkF m 9 #[.val (.int p1), .val (.int (6 : Int32)), .val (.ref w5), .unset] [(.int (6 : Int32))])) _
    refine st2 _ ?_
    show Steps p.tables e below (T2.setTop (mkF m 12 #[.val (.int p1), .val (.int (6 : Int32)), .val (.ref w5), .unset] [(.ref w5)])) _
    refine XS.astoreN X2.here hx rfl (hb hby at_12) rfl rfl (l' := #[.val (.int p1), .val (.int (6 : Int32)), .val (.ref w5), .val (.ref w5)]) rfl ?_
    show Steps p.tables e below (T2.setTop (mkF m 13 #[.val (.int p1), .val (.int (6 : Int32)), .val (.ref w5), .val (.ref w5)] [])) _
    refine XS.aloadN X2.here hx rfl (hb hby at_13) rfl rfl ?_
    show Steps p.tables e below (T2.setTop (mkF m 14 #[.val (.int p1), .val (.int (6 : Int32)), .val (.ref w5), .val (.ref w5)] [(.ref w5)])) _
    refine XS.aloadN X2.here hx rfl (hb hby at_14) rfl rfl ?_
    show Steps p.tables e below (T2.setTop (mkF m 15 #[.val (.int p1), .val (.int (6 : Int32)), .val (.ref w5), .val (.ref w5)] [(.ref w5), (.ref w5)])) _
    refine Jvm.RoadKit.acmp (g := (mkF m 15 #[.val (.int p1), .val (.int (6 : Int32)), .val (.ref w5), .val (.ref w5)] [(.ref w5), (.ref w5)])) X2 hx rfl rfl rfl (pc0 := 15) (pc' := 20) (same := true) rfl (hb hby at_15) rfl (decide_eq_true rfl) (by decide) (by decide) ?_
    show Steps p.tables e below (T2.setTop (mkF m 20 #[.val (.int p1), .val (.int (6 : Int32)), .val (.ref w5), .val (.ref w5)] [])) _
    refine XS.aloadN X2.here hx rfl (hb hby at_20) rfl rfl ?_
    show Steps p.tables e below (T2.setTop (mkF m 21 #[.val (.int p1), .val (.int (6 : Int32)), .val (.ref w5), .val (.ref w5)] [(.ref w5)])) _
    refine XS.ifnullNo X2.here hx rfl (hb hby at_21) rfl ?_
    show Steps p.tables e below (T2.setTop (mkF m 24 #[.val (.int p1), .val (.int (6 : Int32)), .val (.ref w5), .val (.ref w5)] [])) _
    refine XS.aloadN X2.here hx rfl (hb hby at_24) rfl rfl ?_
    show Steps p.tables e below (T2.setTop (mkF m 25 #[.val (.int p1), .val (.int (6 : Int32)), .val (.ref w5), .val (.ref w5)] [(.ref w5)])) _
    refine st3 _ ?_
    show Steps p.tables e below (T3.setTop (mkF m 28 #[.val (.int p1), .val (.int (6 : Int32)), .val (.ref w5), .val (.ref w5)] [(.int (6 : Int32))])) _
    refine XS.iloadN X3.here hx rfl (hb hby at_28) rfl ?_
    show Steps p.tables e below (T3.setTop (mkF m 29 #[.val (.int p1), .val (.int (6 : Int32)), .val (.ref w5), .val (.ref w5)] [(.int (6 : Int32)), (.int (6 : Int32))])) _
    refine XS.icmpNo X3.here hx rfl (hb hby at_29) rfl (teq (by decide +kernel)).2 ?_
    show Steps p.tables e below (T3.setTop (mkF m 32 #[.val (.int p1), .val (.int (6 : Int32)), .val (.ref w5), .val (.ref w5)] [])) _
    refine XS.iconst X3.here hx rfl (hb hby at_32) ?_
    show Steps p.tables e below (T3.setTop (mkF m 33 #[.val (.int p1), .val (.int (6 : Int32)), .val (.ref w5), .val (.ref w5)] [(.int (1 : Int32))])) _
    refine XS.goto X3.here hx rfl (pc0 := 33) (pc' := 37) rfl (hb hby at_33) (by decide) (by decide) ?_
    show Steps p.tables e below (T3.setTop (mkF m 37 #[.val (.int p1), .val (.int (6 : Int32)), .val (.ref w5), .val (.ref w5)] [(.int (1 : Int32))])) _
    exact retN X3 hx (t := .boolean) Bd.returns (by simp) (hb hby at_37) hr
  · show Q0 Z p1 vA kA w0 w1 w2 w3 w4 w5 w6 w7 w8 w9 h0 n0 _ T3.heap _
    rw [e3]
    exact ⟨rfl, N2⟩
set_option maxRecDepth 65536 in
set_option maxHeartbeats 40000000 in
theorem rm0_7 (l : Launch) (Z : State) (a0 : Array Value) (hw : ∀ d ∈ tables_1, d.before a0 Z = true) (ws : List Jvm.Cond) (p1 : Int32) (vA : Addr) (kA : ClassId) (w0 w1 w2 w3 w4 w5 w6 w7 w8 w9 : Addr) (h0 : Heap) (n0 : Nat) (Z0 : n0 ≤ h0.size) (SV : Sta Z h0 "com/example/concordat/concordat/log/LogRecord$Kind" "$VALUES" "[Lcom/example/concordat/concordat/log/LogRecord$Kind;" (.ref vA)) (AV : Arv Z h0 vA kA (.object "com/example/concordat/concordat/log/LogRecord$Kind") 10 [.ref w0, .ref w1, .ref w2, .ref w3, .ref w4, .ref w5, .ref w6, .ref w7, .ref w8, .ref w9] .null) (EV : Exa Z h0 vA "[Lcom/example/concordat/concordat/log/LogRecord$Kind;") (FC0 : Fld Z h0 w0 "com/example/concordat/concordat/log/LogRecord$Kind" "code" "B" (.int (1 : Int32))) (FC1 : Fld Z h0 w1 "com/example/concordat/concordat/log/LogRecord$Kind" "code" "B" (.int (2 : Int32))) (FC2 : Fld Z h0 w2 "com/example/concordat/concordat/log/LogRecord$Kind" "code" "B" (.int (3 : Int32))) (FC3 : Fld Z h0 w3 "com/example/concordat/concordat/log/LogRecord$Kind" "code" "B" (.int (4 : Int32))) (FC4 : Fld Z h0 w4 "com/example/concordat/concordat/log/LogRecord$Kind" "code" "B" (.int (5 : Int32))) (FC5 : Fld Z h0 w5 "com/example/concordat/concordat/log/LogRecord$Kind" "code" "B" (.int (6 : Int32))) (FC6 : Fld Z h0 w6 "com/example/concordat/concordat/log/LogRecord$Kind" "code" "B" (.int (7 : Int32))) (FC7 : Fld Z h0 w7 "com/example/concordat/concordat/log/LogRecord$Kind" "code" "B" (.int (8 : Int32))) (FC8 : Fld Z h0 w8 "com/example/concordat/concordat/log/LogRecord$Kind" "code" "B" (.int (9 : Int32))) (FC9 : Fld Z h0 w9 "com/example/concordat/concordat/log/LogRecord$Kind" "code" "B" (.int (10 : Int32))) (S : Sta Z h0 "com/example/concordat/concordat/log/LogRecord$Kind" "SNAPSHOT" "Lcom/example/concordat/concordat/log/LogRecord$Kind;" (.ref w6)) (hk : (p1.toInt8.toInt32) = 7) :
    MetFree l x (head1 (Jvm.Cond.code x code maxLocals ret :: ws) room_1) (fun a U => a = #[(.int p1)] ∧ Z.Warmed39 U.vm ∧ U.heap = h0) (fun _ _ _ _ _ => True) (fun _ U o U' => ∃ v L, o = .returned v ∧ Q0 Z p1 vA kA w0 w1 w2 w3 w4 w5 w6 w7 w8 w9 h0 n0 v U'.heap L ∧ FrameEnd U o U' L 1 10) := by
  refine MetFree.of_bodySF (plainFor_of_name pn_KindOfPinLaw) hisR ?_
  intro p e s m args below meth c s₁ Bd hml0 hP hK
  obtain ⟨rfl, hZ, hh⟩ := hP
  have hx := Bd.exec
  have hby := Bd.bytes
  have hml : c.maxLocals = 4 := hml0
  have hown : s.vm.findClass "com/example/concordat/concordat/log/KindOfPinLaw" = some m.cls := findClass_of_methodNamed Bd.named
  have hnm := (name_of_methodNamed Bd.named Bd.method).1
  have X0 : Stand p l e room_1 s m #[(.int p1)] below meth c s₁ [] 0 0 := Stand.of_body Bd
  have e0 : s₁.heap = h0 := by rw [← hh, Bd.state]; rfl
  have N0 := Fr.nil n0
  have pre0 : ∀ t, Steps p.tables e below (s₁.setTop (mkF m 0 #[.val (.int p1), .unset, .unset, .unset] [])) t → Steps p.tables e below (s₁.setTop (entryFrame m #[(.int p1)] maxLocals)) t := fun t k => castTop (ef_0 m p1) k
  obtain ⟨_, _, ⟨T1, L1, k1, n1⟩, -, X1, ⟨Lc1, hQ1, l1, y1, z1⟩, st1⟩ := Jvm.LawKit.callS X0 hx (y := (⟨"com/example/concordat/concordat/log/LogRecord$Kind", "of", "(B)Lcom/example/concordat/concordat/log/LogRecord$Kind;"⟩ : MethodName)) hown (mvT hZ (hw _ (List.mem_of_getElem? (i := 0) rfl))) (mvT hZ (hw _ (List.mem_of_getElem? (i := 1) rfl))) (mvT hZ (hw _ (List.mem_of_getElem? (i := 2) rfl))) (mvT hZ (hw _ (List.mem_of_getElem? (i := 3) rfl))) (by decide) (backOf (W := 0) (rmO_7 l Z a0 hw [] vA kA w0 w1 w2 w3 w4 w5 w6 w7 w8 w9 h0 n0 Z0 SV AV EV FC0 FC1 FC2 FC3 FC4 FC5 FC6 FC7 FC8 FC9 ) hZ (hw _ (List.mem_of_getElem? (i := 3) rfl)) (hw _ (List.mem_of_getElem? (i := 2) rfl)) (by decide) (by decide)) (g := (mkF m 4 #[.val (.int p1), .val (.int (7 : Int32)), .unset, .unset] [(.int (7 : Int32))])) rfl (by rw [hml]; rfl) (argsL := [(.int (7 : Int32))]) (rest := []) (lenOf pd_1 rfl) rfl (by show 2 * 0 + _ ≤ _; exact Nat.le_of_eq rfl) (hb hby at_4) (fun _ _ => ⟨rfl, e0, (by decide : 0 + 1 ≤ _), (by decide : 0 + 10 ≤ _)⟩)
  dsimp only [Pt.U, Pt.locs, Pt.cells, Pt.slots] at X1 l1 y1 z1 st1 hQ1
  subst l1 y1 z1
  obtain ⟨rfl, N1q, Ex⟩ := hQ1
  have Z1 : n0 ≤ T1.heap.size := Nat.le_trans Z0 Ex.1
  have N1 := Fr.app N0 N1q
  obtain ⟨_, _, ⟨T2, L2, k2, n2⟩, -, X2, ⟨Lc2, hQ2, l2, y2, z2⟩, st2⟩ := Jvm.LawKit.callS X1 hx (y := (⟨"com/example/concordat/concordat/log/KindOfPinLaw", "expected", "(B)Lcom/example/concordat/concordat/log/LogRecord$Kind;"⟩ : MethodName)) hown (mvT hZ (hw _ (List.mem_of_getElem? (i := 31) rfl))) (mvT hZ (hw _ (List.mem_of_getElem? (i := 32) rfl))) (mvT hZ (hw _ (List.mem_of_getElem? (i := 33) rfl))) (mvT hZ (hw _ (List.mem_of_getElem? (i := 34) rfl))) (by decide) (backOf (W := 0) (rmE_7 l Z a0 hw [] w6 T1.heap n0 Z1 (S.ext Ex)) hZ (hw _ (List.mem_of_getElem? (i := 34) rfl)) (hw _ (List.mem_of_getElem? (i := 33) rfl)) (by decide) (by decide)) (g := (mkF m 9 #[.val (.int p1), .val (.int (7 : Int32)), .val (.ref w6), .unset] [(.int (7 : Int32))])) rfl (by rw [hml]; rfl) (argsL := [(.int (7 : Int32))]) (rest := []) (lenOf pd_1 rfl) rfl (by show 2 * 0 + _ ≤ _; exact Nat.le_of_eq rfl) (hb hby at_9) (fun _ _ => ⟨rfl, rfl, (by decide : 1 + 0 ≤ _), (by decide : 10 + 0 ≤ _)⟩)
  dsimp only [Pt.U, Pt.locs, Pt.cells, Pt.slots] at X2 l2 y2 z2 st2 hQ2
  subst l2 y2 z2
  obtain ⟨rfl, N2q, eq2⟩ := hQ2
  have N2 := Fr.app N1 N2q
  obtain ⟨T3, X3, e3, st3⟩ := getF X2 hx hZ hown (host := "") (Or.inl (hw _ (List.mem_of_getElem? (i := 36) rfl))) Via.refl eq2 (FC6.ext Ex) (g := (mkF m 25 #[.val (.int p1), .val (.int (7 : Int32)), .val (.ref w6), .val (.ref w6)] [(.ref w6)])) rfl rfl (hb hby at_25)
  obtain ⟨fs, hr, hrun, hended, hW, hsame⟩ := X3.leave (v := some (.int (1 : Int32))) (fun h => by rw [Bd.returns] at h; cases h)
  refine ⟨_, _, pre0 _ ?_, hrun, hended, _, _, rfl, ?_, ⟨_, rfl⟩, hW, hsame.mono (by decide) (by decide)⟩
  · show Steps p.tables e below (s₁.setTop (mkF m 0 #[.val (.int p1), .unset, .unset, .unset] [])) _
    refine XS.iloadN X0.here hx rfl (hb hby at_0) rfl ?_
    show Steps p.tables e below (s₁.setTop (mkF m 1 #[.val (.int p1), .unset, .unset, .unset] [(.int p1)])) _
    refine XS.i2b X0.here hx rfl (hb hby at_1) rfl ?_
    show Steps p.tables e below (s₁.setTop (mkF m 2 #[.val (.int p1), .unset, .unset, .unset] [(.int (p1.toInt8.toInt32))])) _
    rw [hk]
    show Steps p.tables e below (s₁.setTop (mkF m 2 #[.val (.int p1), .unset, .unset, .unset] [(.int (7 : Int32))])) _
    refine XS.istoreN X0.here hx rfl (hb hby at_2) rfl (l' := #[.val (.int p1), .val (.int (7 : Int32)), .unset, .unset]) rfl ?_
    show Steps p.tables e below (s₁.setTop (mkF m 3 #[.val (.int p1), .val (.int (7 : Int32)), .unset, .unset] [])) _
    refine XS.iloadN X0.here hx rfl (hb hby at_3) rfl ?_
    show Steps p.tables e below (s₁.setTop (mkF m 4 #[.val (.int p1), .val (.int (7 : Int32)), .unset, .unset] [(.int (7 : Int32))])) _
    refine st1 _ ?_
    show Steps p.tables e below (T1.setTop (mkF m 7 #[.val (.int p1), .val (.int (7 : Int32)), .unset, .unset] [(.ref w6)])) _
    refine XS.astoreN X1.here hx rfl (hb hby at_7) rfl rfl (l' := #[.val (.int p1), .val (.int (7 : Int32)), .val (.ref w6), .unset]) rfl ?_
    show Steps p.tables e below (T1.setTop (mkF m 8 #[.val (.int p1), .val (.int (7 : Int32)), .val (.ref w6), .unset] [])) _
    refine XS.iloadN X1.here hx rfl (hb hby at_8) rfl ?_
    show Steps p.tables e below (T1.setTop (mkF m 9 #[.val (.int p1), .val (.int (7 : Int32)), .val (.ref w6), .unset] [(.int (7 : Int32))])) _
    refine st2 _ ?_
    show Steps p.tables e below (T2.setTop (mkF m 12 #[.val (.int p1), .val (.int (7 : Int32)), .val (.ref w6), .unset] [(.ref w6)])) _
    refine XS.astoreN X2.here hx rfl (hb hby at_12) rfl rfl (l' := #[.val (.int p1), .val (.int (7 : Int32)), .val (.ref w6), .val (.ref w6)]) rfl ?_
    show Steps p.tables e below (T2.setTop (mkF m 13 #[.val (.int p1), .val (.int (7 : Int32)), .val (.ref w6), .val (.ref w6)] [])) _
    refine XS.aloadN X2.here hx rfl (hb hby at_13) rfl rfl ?_
    show Steps p.tables e below (T2.setTop (mkF m 14 #[.val (.int p1), .val (.int (7 : Int32)), .val (.ref w6), .val (.ref w6)] [(.ref w6)])) _
    refine XS.aloadN X2.here hx rfl (hb hby at_14) rfl rfl ?_
    show Steps p.tables e below (T2.setTop (mkF m 15 #[.val (.int p1), .val (.int (7 : Int32)), .val (.ref w6), .val (.ref w6)] [(.ref w6), (.ref w6)])) _
    refine Jvm.RoadKit.acmp (g := (mkF m 15 #[.val (.int p1), .val (.int (7 : Int32)), .val (.ref w6), .val (.ref w6)] [(.ref w6), (.ref w6)])) X2 hx rfl rfl rfl (pc0 := 15) (pc' := 20) (same := true) rfl (hb hby at_15) rfl (decide_eq_true rfl) (by decide) (by decide) ?_
    show Steps p.tables e below (T2.setTop (mkF m 20 #[.val (.int p1), .val (.int (7 : Int32)), .val (.ref w6), .val (.ref w6)] [])) _
    refine XS.aloadN X2.here hx rfl (hb hby at_20) rfl rfl ?_
    show Steps p.tables e below (T2.setTop (mkF m 21 #[.val (.int p1), .val (.int (7 : Int32)), .val (.ref w6), .val (.ref w6)] [(.ref w6)])) _
    refine XS.ifnullNo X2.here hx rfl (hb hby at_21) rfl ?_
    show Steps p.tables e below (T2.setTop (mkF m 24 #[.val (.int p1), .val (.int (7 : Int32)), .val (.ref w6), .val (.ref w6)] [])) _
    refine XS.aloadN X2.here hx rfl (hb hby at_24) rfl rfl ?_
    show Steps p.tables e below (T2.setTop (mkF m 25 #[.val (.int p1), .val (.int (7 : Int32)), .val (.ref w6), .val (.ref w6)] [(.ref w6)])) _
    refine st3 _ ?_
    show Steps p.tables e below (T3.setTop (mkF m 28 #[.val (.int p1), .val (.int (7 : Int32)), .val (.ref w6), .val (.ref w6)] [(.int (7 : Int32))])) _
    refine XS.iloadN X3.here hx rfl (hb hby at_28) rfl ?_
    show Steps p.tables e below (T3.setTop (mkF m 29 #[.val (.int p1), .val (.int (7 : Int32)), .val (.ref w6), .val (.ref w6)] [(.int (7 : Int32)), (.int (7 : Int32))])) _
    refine XS.icmpNo X3.here hx rfl (hb hby at_29) rfl (teq (by decide +kernel)).2 ?_
    show Steps p.tables e below (T3.setTop (mkF m 32 #[.val (.int p1), .val (.int (7 : Int32)), .val (.ref w6), .val (.ref w6)] [])) _
    refine XS.iconst X3.here hx rfl (hb hby at_32) ?_
    show Steps p.tables e below (T3.setTop (mkF m 33 #[.val (.int p1), .val (.int (7 : Int32)), .val (.ref w6), .val (.ref w6)] [(.int (1 : Int32))])) _
    refine XS.goto X3.here hx rfl (pc0 := 33) (pc' := 37) rfl (hb hby at_33) (by decide) (by decide) ?_
    show Steps p.tables e below (T3.setTop (mkF m 37 #[.val (.int p1), .val (.int (7 : Int32)), .val (.ref w6), .val (.ref w6)] [(.int (1 : Int32))])) _
    exact retN X3 hx (t := .boolean) Bd.returns (by simp) (hb hby at_37) hr
  · show Q0 Z p1 vA kA w0 w1 w2 w3 w4 w5 w6 w7 w8 w9 h0 n0 _ T3.heap _
    rw [e3]
    exact ⟨rfl, N2⟩
set_option maxRecDepth 65536 in
set_option maxHeartbeats 40000000 in
theorem rm0_8 (l : Launch) (Z : State) (a0 : Array Value) (hw : ∀ d ∈ tables_1, d.before a0 Z = true) (ws : List Jvm.Cond) (p1 : Int32) (vA : Addr) (kA : ClassId) (w0 w1 w2 w3 w4 w5 w6 w7 w8 w9 : Addr) (h0 : Heap) (n0 : Nat) (Z0 : n0 ≤ h0.size) (SV : Sta Z h0 "com/example/concordat/concordat/log/LogRecord$Kind" "$VALUES" "[Lcom/example/concordat/concordat/log/LogRecord$Kind;" (.ref vA)) (AV : Arv Z h0 vA kA (.object "com/example/concordat/concordat/log/LogRecord$Kind") 10 [.ref w0, .ref w1, .ref w2, .ref w3, .ref w4, .ref w5, .ref w6, .ref w7, .ref w8, .ref w9] .null) (EV : Exa Z h0 vA "[Lcom/example/concordat/concordat/log/LogRecord$Kind;") (FC0 : Fld Z h0 w0 "com/example/concordat/concordat/log/LogRecord$Kind" "code" "B" (.int (1 : Int32))) (FC1 : Fld Z h0 w1 "com/example/concordat/concordat/log/LogRecord$Kind" "code" "B" (.int (2 : Int32))) (FC2 : Fld Z h0 w2 "com/example/concordat/concordat/log/LogRecord$Kind" "code" "B" (.int (3 : Int32))) (FC3 : Fld Z h0 w3 "com/example/concordat/concordat/log/LogRecord$Kind" "code" "B" (.int (4 : Int32))) (FC4 : Fld Z h0 w4 "com/example/concordat/concordat/log/LogRecord$Kind" "code" "B" (.int (5 : Int32))) (FC5 : Fld Z h0 w5 "com/example/concordat/concordat/log/LogRecord$Kind" "code" "B" (.int (6 : Int32))) (FC6 : Fld Z h0 w6 "com/example/concordat/concordat/log/LogRecord$Kind" "code" "B" (.int (7 : Int32))) (FC7 : Fld Z h0 w7 "com/example/concordat/concordat/log/LogRecord$Kind" "code" "B" (.int (8 : Int32))) (FC8 : Fld Z h0 w8 "com/example/concordat/concordat/log/LogRecord$Kind" "code" "B" (.int (9 : Int32))) (FC9 : Fld Z h0 w9 "com/example/concordat/concordat/log/LogRecord$Kind" "code" "B" (.int (10 : Int32))) (S : Sta Z h0 "com/example/concordat/concordat/log/LogRecord$Kind" "ON_DISK" "Lcom/example/concordat/concordat/log/LogRecord$Kind;" (.ref w7)) (hk : (p1.toInt8.toInt32) = 8) :
    MetFree l x (head1 (Jvm.Cond.code x code maxLocals ret :: ws) room_1) (fun a U => a = #[(.int p1)] ∧ Z.Warmed39 U.vm ∧ U.heap = h0) (fun _ _ _ _ _ => True) (fun _ U o U' => ∃ v L, o = .returned v ∧ Q0 Z p1 vA kA w0 w1 w2 w3 w4 w5 w6 w7 w8 w9 h0 n0 v U'.heap L ∧ FrameEnd U o U' L 1 10) := by
  refine MetFree.of_bodySF (plainFor_of_name pn_KindOfPinLaw) hisR ?_
  intro p e s m args below meth c s₁ Bd hml0 hP hK
  obtain ⟨rfl, hZ, hh⟩ := hP
  have hx := Bd.exec
  have hby := Bd.bytes
  have hml : c.maxLocals = 4 := hml0
  have hown : s.vm.findClass "com/example/concordat/concordat/log/KindOfPinLaw" = some m.cls := findClass_of_methodNamed Bd.named
  have hnm := (name_of_methodNamed Bd.named Bd.method).1
  have X0 : Stand p l e room_1 s m #[(.int p1)] below meth c s₁ [] 0 0 := Stand.of_body Bd
  have e0 : s₁.heap = h0 := by rw [← hh, Bd.state]; rfl
  have N0 := Fr.nil n0
  have pre0 : ∀ t, Steps p.tables e below (s₁.setTop (mkF m 0 #[.val (.int p1), .unset, .unset, .unset] [])) t → Steps p.tables e below (s₁.setTop (entryFrame m #[(.int p1)] maxLocals)) t := fun t k => castTop (ef_0 m p1) k
  obtain ⟨_, _, ⟨T1, L1, k1, n1⟩, -, X1, ⟨Lc1, hQ1, l1, y1, z1⟩, st1⟩ := Jvm.LawKit.callS X0 hx (y := (⟨"com/example/concordat/concordat/log/LogRecord$Kind", "of", "(B)Lcom/example/concordat/concordat/log/LogRecord$Kind;"⟩ : MethodName)) hown (mvT hZ (hw _ (List.mem_of_getElem? (i := 0) rfl))) (mvT hZ (hw _ (List.mem_of_getElem? (i := 1) rfl))) (mvT hZ (hw _ (List.mem_of_getElem? (i := 2) rfl))) (mvT hZ (hw _ (List.mem_of_getElem? (i := 3) rfl))) (by decide) (backOf (W := 0) (rmO_8 l Z a0 hw [] vA kA w0 w1 w2 w3 w4 w5 w6 w7 w8 w9 h0 n0 Z0 SV AV EV FC0 FC1 FC2 FC3 FC4 FC5 FC6 FC7 FC8 FC9 ) hZ (hw _ (List.mem_of_getElem? (i := 3) rfl)) (hw _ (List.mem_of_getElem? (i := 2) rfl)) (by decide) (by decide)) (g := (mkF m 4 #[.val (.int p1), .val (.int (8 : Int32)), .unset, .unset] [(.int (8 : Int32))])) rfl (by rw [hml]; rfl) (argsL := [(.int (8 : Int32))]) (rest := []) (lenOf pd_1 rfl) rfl (by show 2 * 0 + _ ≤ _; exact Nat.le_of_eq rfl) (hb hby at_4) (fun _ _ => ⟨rfl, e0, (by decide : 0 + 1 ≤ _), (by decide : 0 + 10 ≤ _)⟩)
  dsimp only [Pt.U, Pt.locs, Pt.cells, Pt.slots] at X1 l1 y1 z1 st1 hQ1
  subst l1 y1 z1
  obtain ⟨rfl, N1q, Ex⟩ := hQ1
  have Z1 : n0 ≤ T1.heap.size := Nat.le_trans Z0 Ex.1
  have N1 := Fr.app N0 N1q
  obtain ⟨_, _, ⟨T2, L2, k2, n2⟩, -, X2, ⟨Lc2, hQ2, l2, y2, z2⟩, st2⟩ := Jvm.LawKit.callS X1 hx (y := (⟨"com/example/concordat/concordat/log/KindOfPinLaw", "expected", "(B)Lcom/example/concordat/concordat/log/LogRecord$Kind;"⟩ : MethodName)) hown (mvT hZ (hw _ (List.mem_of_getElem? (i := 31) rfl))) (mvT hZ (hw _ (List.mem_of_getElem? (i := 32) rfl))) (mvT hZ (hw _ (List.mem_of_getElem? (i := 33) rfl))) (mvT hZ (hw _ (List.mem_of_getElem? (i := 34) rfl))) (by decide) (backOf (W := 0) (rmE_8 l Z a0 hw [] w7 T1.heap n0 Z1 (S.ext Ex)) hZ (hw _ (List.mem_of_getElem? (i := 34) rfl)) (hw _ (List.mem_of_getElem? (i := 33) rfl)) (by decide) (by decide)) (g := (mkF m 9 #[.val (.int p1), .val (.int (8 : Int32)), .val (.ref w7), .unset] [(.int (8 : Int32))])) rfl (by rw [hml]; rfl) (argsL := [(.int (8 : Int32))]) (rest := []) (lenOf pd_1 rfl) rfl (by show 2 * 0 + _ ≤ _; exact Nat.le_of_eq rfl) (hb hby at_9) (fun _ _ => ⟨rfl, rfl, (by decide : 1 + 0 ≤ _), (by decide : 10 + 0 ≤ _)⟩)
  dsimp only [Pt.U, Pt.locs, Pt.cells, Pt.slots] at X2 l2 y2 z2 st2 hQ2
  subst l2 y2 z2
  obtain ⟨rfl, N2q, eq2⟩ := hQ2
  have N2 := Fr.app N1 N2q
  obtain ⟨T3, X3, e3, st3⟩ := getF X2 hx hZ hown (host := "") (Or.inl (hw _ (List.mem_of_getElem? (i := 36) rfl))) Via.refl eq2 (FC7.ext Ex) (g := (mkF m 25 #[.val (.int p1), .val (.int (8 : Int32)), .val (.ref w7), .val (.ref w7)] [(.ref w7)])) rfl rfl (hb hby at_25)
  obtain ⟨fs, hr, hrun, hended, hW, hsame⟩ := X3.leave (v := some (.int (1 : Int32))) (fun h => by rw [Bd.returns] at h; cases h)
  refine ⟨_, _, pre0 _ ?_, hrun, hended, _, _, rfl, ?_, ⟨_, rfl⟩, hW, hsame.mono (by decide) (by decide)⟩
  · show Steps p.tables e below (s₁.setTop (mkF m 0 #[.val (.int p1), .unset, .unset, .unset] [])) _
    refine XS.iloadN X0.here hx rfl (hb hby at_0) rfl ?_
    show Steps p.tables e below (s₁.setTop (mkF m 1 #[.val (.int p1), .unset, .unset, .unset] [(.int p1)])) _
    refine XS.i2b X0.here hx rfl (hb hby at_1) rfl ?_
    show Steps p.tables e below (s₁.setTop (mkF m 2 #[.val (.int p1), .unset, .unset, .unset] [(.int (p1.toInt8.toInt32))])) _
    rw [hk]
    show Steps p.tables e below (s₁.setTop (mkF m 2 #[.val (.int p1), .unset, .unset, .unset] [(.int (8 : Int32))])) _
    refine XS.istoreN X0.here hx rfl (hb hby at_2) rfl (l' := #[.val (.int p1), .val (.int (8 : Int32)), .unset, .unset]) rfl ?_
    show Steps p.tables e below (s₁.setTop (mkF m 3 #[.val (.int p1), .val (.int (8 : Int32)), .unset, .unset] [])) _
    refine XS.iloadN X0.here hx rfl (hb hby at_3) rfl ?_
    show Steps p.tables e below (s₁.setTop (mkF m 4 #[.val (.int p1), .val (.int (8 : Int32)), .unset, .unset] [(.int (8 : Int32))])) _
    refine st1 _ ?_
    show Steps p.tables e below (T1.setTop (mkF m 7 #[.val (.int p1), .val (.int (8 : Int32)), .unset, .unset] [(.ref w7)])) _
    refine XS.astoreN X1.here hx rfl (hb hby at_7) rfl rfl (l' := #[.val (.int p1), .val (.int (8 : Int32)), .val (.ref w7), .unset]) rfl ?_
    show Steps p.tables e below (T1.setTop (mkF m 8 #[.val (.int p1), .val (.int (8 : Int32)), .val (.ref w7), .unset] [])) _
    refine XS.iloadN X1.here hx rfl (hb hby at_8) rfl ?_
    show Steps p.tables e below (T1.setTop (mkF m 9 #[.val (.int p1), .val (.int (8 : Int32)), .val (.ref w7), .unset] [(.int (8 : Int32))])) _
    refine st2 _ ?_
    show Steps p.tables e below (T2.setTop (mkF m 12 #[.val (.int p1), .val (.int (8 : Int32)), .val (.ref w7), .unset] [(.ref w7)])) _
    refine XS.astoreN X2.here hx rfl (hb hby at_12) rfl rfl (l' := #[.val (.int p1), .val (.int (8 : Int32)), .val (.ref w7), .val (.ref w7)]) rfl ?_
    show Steps p.tables e below (T2.setTop (mkF m 13 #[.val (.int p1), .val (.int (8 : Int32)), .val (.ref w7), .val (.ref w7)] [])) _
    refine XS.aloadN X2.here hx rfl (hb hby at_13) rfl rfl ?_
    show Steps p.tables e below (T2.setTop (mkF m 14 #[.val (.int p1), .val (.int (8 : Int32)), .val (.ref w7), .val (.ref w7)] [(.ref w7)])) _
    refine XS.aloadN X2.here hx rfl (hb hby at_14) rfl rfl ?_
    show Steps p.tables e below (T2.setTop (mkF m 15 #[.val (.int p1), .val (.int (8 : Int32)), .val (.ref w7), .val (.ref w7)] [(.ref w7), (.ref w7)])) _
    refine Jvm.RoadKit.acmp (g := (mkF m 15 #[.val (.int p1), .val (.int (8 : Int32)), .val (.ref w7), .val (.ref w7)] [(.ref w7), (.ref w7)])) X2 hx rfl rfl rfl (pc0 := 15) (pc' := 20) (same := true) rfl (hb hby at_15) rfl (decide_eq_true rfl) (by decide) (by decide) ?_
    show Steps p.tables e below (T2.setTop (mkF m 20 #[.val (.int p1), .val (.int (8 : Int32)), .val (.ref w7), .val (.ref w7)] [])) _
    refine XS.aloadN X2.here hx rfl (hb hby at_20) rfl rfl ?_
    show Steps p.tables e below (T2.setTop (mkF m 21 #[.val (.int p1), .val (.int (8 : Int32)), .val (.ref w7), .val (.ref w7)] [(.ref w7)])) _
    refine XS.ifnullNo X2.here hx rfl (hb hby at_21) rfl ?_
    show Steps p.tables e below (T2.setTop (mkF m 24 #[.val (.int p1), .val (.int (8 : Int32)), .val (.ref w7), .val (.ref w7)] [])) _
    refine XS.aloadN X2.here hx rfl (hb hby at_24) rfl rfl ?_
    show Steps p.tables e below (T2.setTop (mkF m 25 #[.val (.int p1), .val (.int (8 : Int32)), .val (.ref w7), .val (.ref w7)] [(.ref w7)])) _
    refine st3 _ ?_
    show Steps p.tables e below (T3.setTop (mkF m 28 #[.val (.int p1), .val (.int (8 : Int32)), .val (.ref w7), .val (.ref w7)] [(.int (8 : Int32))])) _
    refine XS.iloadN X3.here hx rfl (hb hby at_28) rfl ?_
    show Steps p.tables e below (T3.setTop (mkF m 29 #[.val (.int p1), .val (.int (8 : Int32)), .val (.ref w7), .val (.ref w7)] [(.int (8 : Int32)), (.int (8 : Int32))])) _
    refine XS.icmpNo X3.here hx rfl (hb hby at_29) rfl (teq (by decide +kernel)).2 ?_
    show Steps p.tables e below (T3.setTop (mkF m 32 #[.val (.int p1), .val (.int (8 : Int32)), .val (.ref w7), .val (.ref w7)] [])) _
    refine XS.iconst X3.here hx rfl (hb hby at_32) ?_
    show Steps p.tables e below (T3.setTop (mkF m 33 #[.val (.int p1), .val (.int (8 : Int32)), .val (.ref w7), .val (.ref w7)] [(.int (1 : Int32))])) _
    refine XS.goto X3.here hx rfl (pc0 := 33) (pc' := 37) rfl (hb hby at_33) (by decide) (by decide) ?_
    show Steps p.tables e below (T3.setTop (mkF m 37 #[.val (.int p1), .val (.int (8 : Int32)), .val (.ref w7), .val (.ref w7)] [(.int (1 : Int32))])) _
    exact retN X3 hx (t := .boolean) Bd.returns (by simp) (hb hby at_37) hr
  · show Q0 Z p1 vA kA w0 w1 w2 w3 w4 w5 w6 w7 w8 w9 h0 n0 _ T3.heap _
    rw [e3]
    exact ⟨rfl, N2⟩
set_option maxRecDepth 65536 in
set_option maxHeartbeats 40000000 in
theorem rm0_9 (l : Launch) (Z : State) (a0 : Array Value) (hw : ∀ d ∈ tables_1, d.before a0 Z = true) (ws : List Jvm.Cond) (p1 : Int32) (vA : Addr) (kA : ClassId) (w0 w1 w2 w3 w4 w5 w6 w7 w8 w9 : Addr) (h0 : Heap) (n0 : Nat) (Z0 : n0 ≤ h0.size) (SV : Sta Z h0 "com/example/concordat/concordat/log/LogRecord$Kind" "$VALUES" "[Lcom/example/concordat/concordat/log/LogRecord$Kind;" (.ref vA)) (AV : Arv Z h0 vA kA (.object "com/example/concordat/concordat/log/LogRecord$Kind") 10 [.ref w0, .ref w1, .ref w2, .ref w3, .ref w4, .ref w5, .ref w6, .ref w7, .ref w8, .ref w9] .null) (EV : Exa Z h0 vA "[Lcom/example/concordat/concordat/log/LogRecord$Kind;") (FC0 : Fld Z h0 w0 "com/example/concordat/concordat/log/LogRecord$Kind" "code" "B" (.int (1 : Int32))) (FC1 : Fld Z h0 w1 "com/example/concordat/concordat/log/LogRecord$Kind" "code" "B" (.int (2 : Int32))) (FC2 : Fld Z h0 w2 "com/example/concordat/concordat/log/LogRecord$Kind" "code" "B" (.int (3 : Int32))) (FC3 : Fld Z h0 w3 "com/example/concordat/concordat/log/LogRecord$Kind" "code" "B" (.int (4 : Int32))) (FC4 : Fld Z h0 w4 "com/example/concordat/concordat/log/LogRecord$Kind" "code" "B" (.int (5 : Int32))) (FC5 : Fld Z h0 w5 "com/example/concordat/concordat/log/LogRecord$Kind" "code" "B" (.int (6 : Int32))) (FC6 : Fld Z h0 w6 "com/example/concordat/concordat/log/LogRecord$Kind" "code" "B" (.int (7 : Int32))) (FC7 : Fld Z h0 w7 "com/example/concordat/concordat/log/LogRecord$Kind" "code" "B" (.int (8 : Int32))) (FC8 : Fld Z h0 w8 "com/example/concordat/concordat/log/LogRecord$Kind" "code" "B" (.int (9 : Int32))) (FC9 : Fld Z h0 w9 "com/example/concordat/concordat/log/LogRecord$Kind" "code" "B" (.int (10 : Int32))) (S : Sta Z h0 "com/example/concordat/concordat/log/LogRecord$Kind" "RUN" "Lcom/example/concordat/concordat/log/LogRecord$Kind;" (.ref w8)) (hk : (p1.toInt8.toInt32) = 9) :
    MetFree l x (head1 (Jvm.Cond.code x code maxLocals ret :: ws) room_1) (fun a U => a = #[(.int p1)] ∧ Z.Warmed39 U.vm ∧ U.heap = h0) (fun _ _ _ _ _ => True) (fun _ U o U' => ∃ v L, o = .returned v ∧ Q0 Z p1 vA kA w0 w1 w2 w3 w4 w5 w6 w7 w8 w9 h0 n0 v U'.heap L ∧ FrameEnd U o U' L 1 10) := by
  refine MetFree.of_bodySF (plainFor_of_name pn_KindOfPinLaw) hisR ?_
  intro p e s m args below meth c s₁ Bd hml0 hP hK
  obtain ⟨rfl, hZ, hh⟩ := hP
  have hx := Bd.exec
  have hby := Bd.bytes
  have hml : c.maxLocals = 4 := hml0
  have hown : s.vm.findClass "com/example/concordat/concordat/log/KindOfPinLaw" = some m.cls := findClass_of_methodNamed Bd.named
  have hnm := (name_of_methodNamed Bd.named Bd.method).1
  have X0 : Stand p l e room_1 s m #[(.int p1)] below meth c s₁ [] 0 0 := Stand.of_body Bd
  have e0 : s₁.heap = h0 := by rw [← hh, Bd.state]; rfl
  have N0 := Fr.nil n0
  have pre0 : ∀ t, Steps p.tables e below (s₁.setTop (mkF m 0 #[.val (.int p1), .unset, .unset, .unset] [])) t → Steps p.tables e below (s₁.setTop (entryFrame m #[(.int p1)] maxLocals)) t := fun t k => castTop (ef_0 m p1) k
  obtain ⟨_, _, ⟨T1, L1, k1, n1⟩, -, X1, ⟨Lc1, hQ1, l1, y1, z1⟩, st1⟩ := Jvm.LawKit.callS X0 hx (y := (⟨"com/example/concordat/concordat/log/LogRecord$Kind", "of", "(B)Lcom/example/concordat/concordat/log/LogRecord$Kind;"⟩ : MethodName)) hown (mvT hZ (hw _ (List.mem_of_getElem? (i := 0) rfl))) (mvT hZ (hw _ (List.mem_of_getElem? (i := 1) rfl))) (mvT hZ (hw _ (List.mem_of_getElem? (i := 2) rfl))) (mvT hZ (hw _ (List.mem_of_getElem? (i := 3) rfl))) (by decide) (backOf (W := 0) (rmO_9 l Z a0 hw [] vA kA w0 w1 w2 w3 w4 w5 w6 w7 w8 w9 h0 n0 Z0 SV AV EV FC0 FC1 FC2 FC3 FC4 FC5 FC6 FC7 FC8 FC9 ) hZ (hw _ (List.mem_of_getElem? (i := 3) rfl)) (hw _ (List.mem_of_getElem? (i := 2) rfl)) (by decide) (by decide)) (g := (mkF m 4 #[.val (.int p1), .val (.int (9 : Int32)), .unset, .unset] [(.int (9 : Int32))])) rfl (by rw [hml]; rfl) (argsL := [(.int (9 : Int32))]) (rest := []) (lenOf pd_1 rfl) rfl (by show 2 * 0 + _ ≤ _; exact Nat.le_of_eq rfl) (hb hby at_4) (fun _ _ => ⟨rfl, e0, (by decide : 0 + 1 ≤ _), (by decide : 0 + 10 ≤ _)⟩)
  dsimp only [Pt.U, Pt.locs, Pt.cells, Pt.slots] at X1 l1 y1 z1 st1 hQ1
  subst l1 y1 z1
  obtain ⟨rfl, N1q, Ex⟩ := hQ1
  have Z1 : n0 ≤ T1.heap.size := Nat.le_trans Z0 Ex.1
  have N1 := Fr.app N0 N1q
  obtain ⟨_, _, ⟨T2, L2, k2, n2⟩, -, X2, ⟨Lc2, hQ2, l2, y2, z2⟩, st2⟩ := Jvm.LawKit.callS X1 hx (y := (⟨"com/example/concordat/concordat/log/KindOfPinLaw", "expected", "(B)Lcom/example/concordat/concordat/log/LogRecord$Kind;"⟩ : MethodName)) hown (mvT hZ (hw _ (List.mem_of_getElem? (i := 31) rfl))) (mvT hZ (hw _ (List.mem_of_getElem? (i := 32) rfl))) (mvT hZ (hw _ (List.mem_of_getElem? (i := 33) rfl))) (mvT hZ (hw _ (List.mem_of_getElem? (i := 34) rfl))) (by decide) (backOf (W := 0) (rmE_9 l Z a0 hw [] w8 T1.heap n0 Z1 (S.ext Ex)) hZ (hw _ (List.mem_of_getElem? (i := 34) rfl)) (hw _ (List.mem_of_getElem? (i := 33) rfl)) (by decide) (by decide)) (g := (mkF m 9 #[.val (.int p1), .val (.int (9 : Int32)), .val (.ref w8), .unset] [(.int (9 : Int32))])) rfl (by rw [hml]; rfl) (argsL := [(.int (9 : Int32))]) (rest := []) (lenOf pd_1 rfl) rfl (by show 2 * 0 + _ ≤ _; exact Nat.le_of_eq rfl) (hb hby at_9) (fun _ _ => ⟨rfl, rfl, (by decide : 1 + 0 ≤ _), (by decide : 10 + 0 ≤ _)⟩)
  dsimp only [Pt.U, Pt.locs, Pt.cells, Pt.slots] at X2 l2 y2 z2 st2 hQ2
  subst l2 y2 z2
  obtain ⟨rfl, N2q, eq2⟩ := hQ2
  have N2 := Fr.app N1 N2q
  obtain ⟨T3, X3, e3, st3⟩ := getF X2 hx hZ hown (host := "") (Or.inl (hw _ (List.mem_of_getElem? (i := 36) rfl))) Via.refl eq2 (FC8.ext Ex) (g := (mkF m 25 #[.val (.int p1), .val (.int (9 : Int32)), .val (.ref w8), .val (.ref w8)] [(.ref w8)])) rfl rfl (hb hby at_25)
  obtain ⟨fs, hr, hrun, hended, hW, hsame⟩ := X3.leave (v := some (.int (1 : Int32))) (fun h => by rw [Bd.returns] at h; cases h)
  refine ⟨_, _, pre0 _ ?_, hrun, hended, _, _, rfl, ?_, ⟨_, rfl⟩, hW, hsame.mono (by decide) (by decide)⟩
  · show Steps p.tables e below (s₁.setTop (mkF m 0 #[.val (.int p1), .unset, .unset, .unset] [])) _
    refine XS.iloadN X0.here hx rfl (hb hby at_0) rfl ?_
    show Steps p.tables e below (s₁.setTop (mkF m 1 #[.val (.int p1), .unset, .unset, .unset] [(.int p1)])) _
    refine XS.i2b X0.here hx rfl (hb hby at_1) rfl ?_
    show Steps p.tables e below (s₁.setTop (mkF m 2 #[.val (.int p1), .unset, .unset, .unset] [(.int (p1.toInt8.toInt32))])) _
    rw [hk]
    show Steps p.tables e below (s₁.setTop (mkF m 2 #[.val (.int p1), .unset, .unset, .unset] [(.int (9 : Int32))])) _
    refine XS.istoreN X0.here hx rfl (hb hby at_2) rfl (l' := #[.val (.int p1), .val (.int (9 : Int32)), .unset, .unset]) rfl ?_
    show Steps p.tables e below (s₁.setTop (mkF m 3 #[.val (.int p1), .val (.int (9 : Int32)), .unset, .unset] [])) _
    refine XS.iloadN X0.here hx rfl (hb hby at_3) rfl ?_
    show Steps p.tables e below (s₁.setTop (mkF m 4 #[.val (.int p1), .val (.int (9 : Int32)), .unset, .unset] [(.int (9 : Int32))])) _
    refine st1 _ ?_
    show Steps p.tables e below (T1.setTop (mkF m 7 #[.val (.int p1), .val (.int (9 : Int32)), .unset, .unset] [(.ref w8)])) _
    refine XS.astoreN X1.here hx rfl (hb hby at_7) rfl rfl (l' := #[.val (.int p1), .val (.int (9 : Int32)), .val (.ref w8), .unset]) rfl ?_
    show Steps p.tables e below (T1.setTop (mkF m 8 #[.val (.int p1), .val (.int (9 : Int32)), .val (.ref w8), .unset] [])) _
    refine XS.iloadN X1.here hx rfl (hb hby at_8) rfl ?_
    show Steps p.tables e below (T1.setTop (mkF m 9 #[.val (.int p1), .val (.int (9 : Int32)), .val (.ref w8), .unset] [(.int (9 : Int32))])) _
    refine st2 _ ?_
    show Steps p.tables e below (T2.setTop (mkF m 12 #[.val (.int p1), .val (.int (9 : Int32)), .val (.ref w8), .unset] [(.ref w8)])) _
    refine XS.astoreN X2.here hx rfl (hb hby at_12) rfl rfl (l' := #[.val (.int p1), .val (.int (9 : Int32)), .val (.ref w8), .val (.ref w8)]) rfl ?_
    show Steps p.tables e below (T2.setTop (mkF m 13 #[.val (.int p1), .val (.int (9 : Int32)), .val (.ref w8), .val (.ref w8)] [])) _
    refine XS.aloadN X2.here hx rfl (hb hby at_13) rfl rfl ?_
    show Steps p.tables e below (T2.setTop (mkF m 14 #[.val (.int p1), .val (.int (9 : Int32)), .val (.ref w8), .val (.ref w8)] [(.ref w8)])) _
    refine XS.aloadN X2.here hx rfl (hb hby at_14) rfl rfl ?_
    show Steps p.tables e below (T2.setTop (mkF m 15 #[.val (.int p1), .val (.int (9 : Int32)), .val (.ref w8), .val (.ref w8)] [(.ref w8), (.ref w8)])) _
    refine Jvm.RoadKit.acmp (g := (mkF m 15 #[.val (.int p1), .val (.int (9 : Int32)), .val (.ref w8), .val (.ref w8)] [(.ref w8), (.ref w8)])) X2 hx rfl rfl rfl (pc0 := 15) (pc' := 20) (same := true) rfl (hb hby at_15) rfl (decide_eq_true rfl) (by decide) (by decide) ?_
    show Steps p.tables e below (T2.setTop (mkF m 20 #[.val (.int p1), .val (.int (9 : Int32)), .val (.ref w8), .val (.ref w8)] [])) _
    refine XS.aloadN X2.here hx rfl (hb hby at_20) rfl rfl ?_
    show Steps p.tables e below (T2.setTop (mkF m 21 #[.val (.int p1), .val (.int (9 : Int32)), .val (.ref w8), .val (.ref w8)] [(.ref w8)])) _
    refine XS.ifnullNo X2.here hx rfl (hb hby at_21) rfl ?_
    show Steps p.tables e below (T2.setTop (mkF m 24 #[.val (.int p1), .val (.int (9 : Int32)), .val (.ref w8), .val (.ref w8)] [])) _
    refine XS.aloadN X2.here hx rfl (hb hby at_24) rfl rfl ?_
    show Steps p.tables e below (T2.setTop (mkF m 25 #[.val (.int p1), .val (.int (9 : Int32)), .val (.ref w8), .val (.ref w8)] [(.ref w8)])) _
    refine st3 _ ?_
    show Steps p.tables e below (T3.setTop (mkF m 28 #[.val (.int p1), .val (.int (9 : Int32)), .val (.ref w8), .val (.ref w8)] [(.int (9 : Int32))])) _
    refine XS.iloadN X3.here hx rfl (hb hby at_28) rfl ?_
    show Steps p.tables e below (T3.setTop (mkF m 29 #[.val (.int p1), .val (.int (9 : Int32)), .val (.ref w8), .val (.ref w8)] [(.int (9 : Int32)), (.int (9 : Int32))])) _
    refine XS.icmpNo X3.here hx rfl (hb hby at_29) rfl (teq (by decide +kernel)).2 ?_
    show Steps p.tables e below (T3.setTop (mkF m 32 #[.val (.int p1), .val (.int (9 : Int32)), .val (.ref w8), .val (.ref w8)] [])) _
    refine XS.iconst X3.here hx rfl (hb hby at_32) ?_
    show Steps p.tables e below (T3.setTop (mkF m 33 #[.val (.int p1), .val (.int (9 : Int32)), .val (.ref w8), .val (.ref w8)] [(.int (1 : Int32))])) _
    refine XS.goto X3.here hx rfl (pc0 := 33) (pc' := 37) rfl (hb hby at_33) (by decide) (by decide) ?_
    show Steps p.tables e below (T3.setTop (mkF m 37 #[.val (.int p1), .val (.int (9 : Int32)), .val (.ref w8), .val (.ref w8)] [(.int (1 : Int32))])) _
    exact retN X3 hx (t := .boolean) Bd.returns (by simp) (hb hby at_37) hr
  · show Q0 Z p1 vA kA w0 w1 w2 w3 w4 w5 w6 w7 w8 w9 h0 n0 _ T3.heap _
    rw [e3]
    exact ⟨rfl, N2⟩
set_option maxRecDepth 65536 in
set_option maxHeartbeats 40000000 in
theorem rm0_10 (l : Launch) (Z : State) (a0 : Array Value) (hw : ∀ d ∈ tables_1, d.before a0 Z = true) (ws : List Jvm.Cond) (p1 : Int32) (vA : Addr) (kA : ClassId) (w0 w1 w2 w3 w4 w5 w6 w7 w8 w9 : Addr) (h0 : Heap) (n0 : Nat) (Z0 : n0 ≤ h0.size) (SV : Sta Z h0 "com/example/concordat/concordat/log/LogRecord$Kind" "$VALUES" "[Lcom/example/concordat/concordat/log/LogRecord$Kind;" (.ref vA)) (AV : Arv Z h0 vA kA (.object "com/example/concordat/concordat/log/LogRecord$Kind") 10 [.ref w0, .ref w1, .ref w2, .ref w3, .ref w4, .ref w5, .ref w6, .ref w7, .ref w8, .ref w9] .null) (EV : Exa Z h0 vA "[Lcom/example/concordat/concordat/log/LogRecord$Kind;") (FC0 : Fld Z h0 w0 "com/example/concordat/concordat/log/LogRecord$Kind" "code" "B" (.int (1 : Int32))) (FC1 : Fld Z h0 w1 "com/example/concordat/concordat/log/LogRecord$Kind" "code" "B" (.int (2 : Int32))) (FC2 : Fld Z h0 w2 "com/example/concordat/concordat/log/LogRecord$Kind" "code" "B" (.int (3 : Int32))) (FC3 : Fld Z h0 w3 "com/example/concordat/concordat/log/LogRecord$Kind" "code" "B" (.int (4 : Int32))) (FC4 : Fld Z h0 w4 "com/example/concordat/concordat/log/LogRecord$Kind" "code" "B" (.int (5 : Int32))) (FC5 : Fld Z h0 w5 "com/example/concordat/concordat/log/LogRecord$Kind" "code" "B" (.int (6 : Int32))) (FC6 : Fld Z h0 w6 "com/example/concordat/concordat/log/LogRecord$Kind" "code" "B" (.int (7 : Int32))) (FC7 : Fld Z h0 w7 "com/example/concordat/concordat/log/LogRecord$Kind" "code" "B" (.int (8 : Int32))) (FC8 : Fld Z h0 w8 "com/example/concordat/concordat/log/LogRecord$Kind" "code" "B" (.int (9 : Int32))) (FC9 : Fld Z h0 w9 "com/example/concordat/concordat/log/LogRecord$Kind" "code" "B" (.int (10 : Int32))) (S : Sta Z h0 "com/example/concordat/concordat/log/LogRecord$Kind" "OUTCOMES" "Lcom/example/concordat/concordat/log/LogRecord$Kind;" (.ref w9)) (hk : (p1.toInt8.toInt32) = 10) :
    MetFree l x (head1 (Jvm.Cond.code x code maxLocals ret :: ws) room_1) (fun a U => a = #[(.int p1)] ∧ Z.Warmed39 U.vm ∧ U.heap = h0) (fun _ _ _ _ _ => True) (fun _ U o U' => ∃ v L, o = .returned v ∧ Q0 Z p1 vA kA w0 w1 w2 w3 w4 w5 w6 w7 w8 w9 h0 n0 v U'.heap L ∧ FrameEnd U o U' L 1 10) := by
  refine MetFree.of_bodySF (plainFor_of_name pn_KindOfPinLaw) hisR ?_
  intro p e s m args below meth c s₁ Bd hml0 hP hK
  obtain ⟨rfl, hZ, hh⟩ := hP
  have hx := Bd.exec
  have hby := Bd.bytes
  have hml : c.maxLocals = 4 := hml0
  have hown : s.vm.findClass "com/example/concordat/concordat/log/KindOfPinLaw" = some m.cls := findClass_of_methodNamed Bd.named
  have hnm := (name_of_methodNamed Bd.named Bd.method).1
  have X0 : Stand p l e room_1 s m #[(.int p1)] below meth c s₁ [] 0 0 := Stand.of_body Bd
  have e0 : s₁.heap = h0 := by rw [← hh, Bd.state]; rfl
  have N0 := Fr.nil n0
  have pre0 : ∀ t, Steps p.tables e below (s₁.setTop (mkF m 0 #[.val (.int p1), .unset, .unset, .unset] [])) t → Steps p.tables e below (s₁.setTop (entryFrame m #[(.int p1)] maxLocals)) t := fun t k => castTop (ef_0 m p1) k
  obtain ⟨_, _, ⟨T1, L1, k1, n1⟩, -, X1, ⟨Lc1, hQ1, l1, y1, z1⟩, st1⟩ := Jvm.LawKit.callS X0 hx (y := (⟨"com/example/concordat/concordat/log/LogRecord$Kind", "of", "(B)Lcom/example/concordat/concordat/log/LogRecord$Kind;"⟩ : MethodName)) hown (mvT hZ (hw _ (List.mem_of_getElem? (i := 0) rfl))) (mvT hZ (hw _ (List.mem_of_getElem? (i := 1) rfl))) (mvT hZ (hw _ (List.mem_of_getElem? (i := 2) rfl))) (mvT hZ (hw _ (List.mem_of_getElem? (i := 3) rfl))) (by decide) (backOf (W := 0) (rmO_10 l Z a0 hw [] vA kA w0 w1 w2 w3 w4 w5 w6 w7 w8 w9 h0 n0 Z0 SV AV EV FC0 FC1 FC2 FC3 FC4 FC5 FC6 FC7 FC8 FC9 ) hZ (hw _ (List.mem_of_getElem? (i := 3) rfl)) (hw _ (List.mem_of_getElem? (i := 2) rfl)) (by decide) (by decide)) (g := (mkF m 4 #[.val (.int p1), .val (.int (10 : Int32)), .unset, .unset] [(.int (10 : Int32))])) rfl (by rw [hml]; rfl) (argsL := [(.int (10 : Int32))]) (rest := []) (lenOf pd_1 rfl) rfl (by show 2 * 0 + _ ≤ _; exact Nat.le_of_eq rfl) (hb hby at_4) (fun _ _ => ⟨rfl, e0, (by decide : 0 + 1 ≤ _), (by decide : 0 + 10 ≤ _)⟩)
  dsimp only [Pt.U, Pt.locs, Pt.cells, Pt.slots] at X1 l1 y1 z1 st1 hQ1
  subst l1 y1 z1
  obtain ⟨rfl, N1q, Ex⟩ := hQ1
  have Z1 : n0 ≤ T1.heap.size := Nat.le_trans Z0 Ex.1
  have N1 := Fr.app N0 N1q
  obtain ⟨_, _, ⟨T2, L2, k2, n2⟩, -, X2, ⟨Lc2, hQ2, l2, y2, z2⟩, st2⟩ := Jvm.LawKit.callS X1 hx (y := (⟨"com/example/concordat/concordat/log/KindOfPinLaw", "expected", "(B)Lcom/example/concordat/concordat/log/LogRecord$Kind;"⟩ : MethodName)) hown (mvT hZ (hw _ (List.mem_of_getElem? (i := 31) rfl))) (mvT hZ (hw _ (List.mem_of_getElem? (i := 32) rfl))) (mvT hZ (hw _ (List.mem_of_getElem? (i := 33) rfl))) (mvT hZ (hw _ (List.mem_of_getElem? (i := 34) rfl))) (by decide) (backOf (W := 0) (rmE_10 l Z a0 hw [] w9 T1.heap n0 Z1 (S.ext Ex)) hZ (hw _ (List.mem_of_getElem? (i := 34) rfl)) (hw _ (List.mem_of_getElem? (i := 33) rfl)) (by decide) (by decide)) (g := (mkF m 9 #[.val (.int p1), .val (.int (10 : Int32)), .val (.ref w9), .unset] [(.int (10 : Int32))])) rfl (by rw [hml]; rfl) (argsL := [(.int (10 : Int32))]) (rest := []) (lenOf pd_1 rfl) rfl (by show 2 * 0 + _ ≤ _; exact Nat.le_of_eq rfl) (hb hby at_9) (fun _ _ => ⟨rfl, rfl, (by decide : 1 + 0 ≤ _), (by decide : 10 + 0 ≤ _)⟩)
  dsimp only [Pt.U, Pt.locs, Pt.cells, Pt.slots] at X2 l2 y2 z2 st2 hQ2
  subst l2 y2 z2
  obtain ⟨rfl, N2q, eq2⟩ := hQ2
  have N2 := Fr.app N1 N2q
  obtain ⟨T3, X3, e3, st3⟩ := getF X2 hx hZ hown (host := "") (Or.inl (hw _ (List.mem_of_getElem? (i := 36) rfl))) Via.refl eq2 (FC9.ext Ex) (g := (mkF m 25 #[.val (.int p1), .val (.int (10 : Int32)), .val (.ref w9), .val (.ref w9)] [(.ref w9)])) rfl rfl (hb hby at_25)
  obtain ⟨fs, hr, hrun, hended, hW, hsame⟩ := X3.leave (v := some (.int (1 : Int32))) (fun h => by rw [Bd.returns] at h; cases h)
  refine ⟨_, _, pre0 _ ?_, hrun, hended, _, _, rfl, ?_, ⟨_, rfl⟩, hW, hsame.mono (by decide) (by decide)⟩
  · show Steps p.tables e below (s₁.setTop (mkF m 0 #[.val (.int p1), .unset, .unset, .unset] [])) _
    refine XS.iloadN X0.here hx rfl (hb hby at_0) rfl ?_
    show Steps p.tables e below (s₁.setTop (mkF m 1 #[.val (.int p1), .unset, .unset, .unset] [(.int p1)])) _
    refine XS.i2b X0.here hx rfl (hb hby at_1) rfl ?_
    show Steps p.tables e below (s₁.setTop (mkF m 2 #[.val (.int p1), .unset, .unset, .unset] [(.int (p1.toInt8.toInt32))])) _
    rw [hk]
    show Steps p.tables e below (s₁.setTop (mkF m 2 #[.val (.int p1), .unset, .unset, .unset] [(.int (10 : Int32))])) _
    refine XS.istoreN X0.here hx rfl (hb hby at_2) rfl (l' := #[.val (.int p1), .val (.int (10 : Int32)), .unset, .unset]) rfl ?_
    show Steps p.tables e below (s₁.setTop (mkF m 3 #[.val (.int p1), .val (.int (10 : Int32)), .unset, .unset] [])) _
    refine XS.iloadN X0.here hx rfl (hb hby at_3) rfl ?_
    show Steps p.tables e below (s₁.setTop (mkF m 4 #[.val (.int p1), .val (.int (10 : Int32)), .unset, .unset] [(.int (10 : Int32))])) _
    refine st1 _ ?_
    show Steps p.tables e below (T1.setTop (mkF m 7 #[.val (.int p1), .val (.int (10 : Int32)), .unset, .unset] [(.ref w9)])) _
    refine XS.astoreN X1.here hx rfl (hb hby at_7) rfl rfl (l' := #[.val (.int p1), .val (.int (10 : Int32)), .val (.ref w9), .unset]) rfl ?_
    show Steps p.tables e below (T1.setTop (mkF m 8 #[.val (.int p1), .val (.int (10 : Int32)), .val (.ref w9), .unset] [])) _
    refine XS.iloadN X1.here hx rfl (hb hby at_8) rfl ?_
    show Steps p.tables e below (T1.setTop (mkF m 9 #[.val (.int p1), .val (.int (10 : Int32)), .val (.ref w9), .unset] [(.int (10 : Int32))])) _
    refine st2 _ ?_
    show Steps p.tables e below (T2.setTop (mkF m 12 #[.val (.int p1), .val (.int (10 : Int32)), .val (.ref w9), .unset] [(.ref w9)])) _
    refine XS.astoreN X2.here hx rfl (hb hby at_12) rfl rfl (l' := #[.val (.int p1), .val (.int (10 : Int32)), .val (.ref w9), .val (.ref w9)]) rfl ?_
    show Steps p.tables e below (T2.setTop (mkF m 13 #[.val (.int p1), .val (.int (10 : Int32)), .val (.ref w9), .val (.ref w9)] [])) _
    refine XS.aloadN X2.here hx rfl (hb hby at_13) rfl rfl ?_
    show Steps p.tables e below (T2.setTop (mkF m 14 #[.val (.int p1), .val (.int (10 : Int32)), .val (.ref w9), .val (.ref w9)] [(.ref w9)])) _
    refine XS.aloadN X2.here hx rfl (hb hby at_14) rfl rfl ?_
    show Steps p.tables e below (T2.setTop (mkF m 15 #[.val (.int p1), .val (.int (10 : Int32)), .val (.ref w9), .val (.ref w9)] [(.ref w9), (.ref w9)])) _
    refine Jvm.RoadKit.acmp (g := (mkF m 15 #[.val (.int p1), .val (.int (10 : Int32)), .val (.ref w9), .val (.ref w9)] [(.ref w9), (.ref w9)])) X2 hx rfl rfl rfl (pc0 := 15) (pc' := 20) (same := true) rfl (hb hby at_15) rfl (decide_eq_true rfl) (by decide) (by decide) ?_
    show Steps p.tables e below (T2.setTop (mkF m 20 #[.val (.int p1), .val (.int (10 : Int32)), .val (.ref w9), .val (.ref w9)] [])) _
    refine XS.aloadN X2.here hx rfl (hb hby at_20) rfl rfl ?_
    show Steps p.tables e below (T2.setTop (mkF m 21 #[.val (.int p1), .val (.int (10 : Int32)), .val (.ref w9), .val (.ref w9)] [(.ref w9)])) _
    refine XS.ifnullNo X2.here hx rfl (hb hby at_21) rfl ?_
    show Steps p.tables e below (T2.setTop (mkF m 24 #[.val (.int p1), .val (.int (10 : Int32)), .val (.ref w9), .val (.ref w9)] [])) _
    refine XS.aloadN X2.here hx rfl (hb hby at_24) rfl rfl ?_
    show Steps p.tables e below (T2.setTop (mkF m 25 #[.val (.int p1), .val (.int (10 : Int32)), .val (.ref w9), .val (.ref w9)] [(.ref w9)])) _
    refine st3 _ ?_
    show Steps p.tables e below (T3.setTop (mkF m 28 #[.val (.int p1), .val (.int (10 : Int32)), .val (.ref w9), .val (.ref w9)] [(.int (10 : Int32))])) _
    refine XS.iloadN X3.here hx rfl (hb hby at_28) rfl ?_
    show Steps p.tables e below (T3.setTop (mkF m 29 #[.val (.int p1), .val (.int (10 : Int32)), .val (.ref w9), .val (.ref w9)] [(.int (10 : Int32)), (.int (10 : Int32))])) _
    refine XS.icmpNo X3.here hx rfl (hb hby at_29) rfl (teq (by decide +kernel)).2 ?_
    show Steps p.tables e below (T3.setTop (mkF m 32 #[.val (.int p1), .val (.int (10 : Int32)), .val (.ref w9), .val (.ref w9)] [])) _
    refine XS.iconst X3.here hx rfl (hb hby at_32) ?_
    show Steps p.tables e below (T3.setTop (mkF m 33 #[.val (.int p1), .val (.int (10 : Int32)), .val (.ref w9), .val (.ref w9)] [(.int (1 : Int32))])) _
    refine XS.goto X3.here hx rfl (pc0 := 33) (pc' := 37) rfl (hb hby at_33) (by decide) (by decide) ?_
    show Steps p.tables e below (T3.setTop (mkF m 37 #[.val (.int p1), .val (.int (10 : Int32)), .val (.ref w9), .val (.ref w9)] [(.int (1 : Int32))])) _
    exact retN X3 hx (t := .boolean) Bd.returns (by simp) (hb hby at_37) hr
  · show Q0 Z p1 vA kA w0 w1 w2 w3 w4 w5 w6 w7 w8 w9 h0 n0 _ T3.heap _
    rw [e3]
    exact ⟨rfl, N2⟩
set_option maxRecDepth 65536 in
set_option maxHeartbeats 40000000 in
theorem rm0_11 (l : Launch) (Z : State) (a0 : Array Value) (hw : ∀ d ∈ tables_1, d.before a0 Z = true) (ws : List Jvm.Cond) (p1 : Int32) (vA : Addr) (kA : ClassId) (w0 w1 w2 w3 w4 w5 w6 w7 w8 w9 : Addr) (h0 : Heap) (n0 : Nat) (Z0 : n0 ≤ h0.size) (SV : Sta Z h0 "com/example/concordat/concordat/log/LogRecord$Kind" "$VALUES" "[Lcom/example/concordat/concordat/log/LogRecord$Kind;" (.ref vA)) (AV : Arv Z h0 vA kA (.object "com/example/concordat/concordat/log/LogRecord$Kind") 10 [.ref w0, .ref w1, .ref w2, .ref w3, .ref w4, .ref w5, .ref w6, .ref w7, .ref w8, .ref w9] .null) (EV : Exa Z h0 vA "[Lcom/example/concordat/concordat/log/LogRecord$Kind;") (FC0 : Fld Z h0 w0 "com/example/concordat/concordat/log/LogRecord$Kind" "code" "B" (.int (1 : Int32))) (FC1 : Fld Z h0 w1 "com/example/concordat/concordat/log/LogRecord$Kind" "code" "B" (.int (2 : Int32))) (FC2 : Fld Z h0 w2 "com/example/concordat/concordat/log/LogRecord$Kind" "code" "B" (.int (3 : Int32))) (FC3 : Fld Z h0 w3 "com/example/concordat/concordat/log/LogRecord$Kind" "code" "B" (.int (4 : Int32))) (FC4 : Fld Z h0 w4 "com/example/concordat/concordat/log/LogRecord$Kind" "code" "B" (.int (5 : Int32))) (FC5 : Fld Z h0 w5 "com/example/concordat/concordat/log/LogRecord$Kind" "code" "B" (.int (6 : Int32))) (FC6 : Fld Z h0 w6 "com/example/concordat/concordat/log/LogRecord$Kind" "code" "B" (.int (7 : Int32))) (FC7 : Fld Z h0 w7 "com/example/concordat/concordat/log/LogRecord$Kind" "code" "B" (.int (8 : Int32))) (FC8 : Fld Z h0 w8 "com/example/concordat/concordat/log/LogRecord$Kind" "code" "B" (.int (9 : Int32))) (FC9 : Fld Z h0 w9 "com/example/concordat/concordat/log/LogRecord$Kind" "code" "B" (.int (10 : Int32))) (hn1 : ¬ (p1.toInt8.toInt32) = (1 : Int32)) (hn2 : ¬ (p1.toInt8.toInt32) = (2 : Int32)) (hn3 : ¬ (p1.toInt8.toInt32) = (3 : Int32)) (hn4 : ¬ (p1.toInt8.toInt32) = (4 : Int32)) (hn5 : ¬ (p1.toInt8.toInt32) = (5 : Int32)) (hn6 : ¬ (p1.toInt8.toInt32) = (6 : Int32)) (hn7 : ¬ (p1.toInt8.toInt32) = (7 : Int32)) (hn8 : ¬ (p1.toInt8.toInt32) = (8 : Int32)) (hn9 : ¬ (p1.toInt8.toInt32) = (9 : Int32)) (hn10 : ¬ (p1.toInt8.toInt32) = (10 : Int32)) :
    MetFree l x (head1 (Jvm.Cond.code x code maxLocals ret :: ws) room_1) (fun a U => a = #[(.int p1)] ∧ Z.Warmed39 U.vm ∧ U.heap = h0) (fun _ _ _ _ _ => True) (fun _ U o U' => ∃ v L, o = .returned v ∧ Q0 Z p1 vA kA w0 w1 w2 w3 w4 w5 w6 w7 w8 w9 h0 n0 v U'.heap L ∧ FrameEnd U o U' L 1 10) := by
  refine MetFree.of_bodySF (plainFor_of_name pn_KindOfPinLaw) hisR ?_
  intro p e s m args below meth c s₁ Bd hml0 hP hK
  obtain ⟨rfl, hZ, hh⟩ := hP
  have hx := Bd.exec
  have hby := Bd.bytes
  have hml : c.maxLocals = 4 := hml0
  have hown : s.vm.findClass "com/example/concordat/concordat/log/KindOfPinLaw" = some m.cls := findClass_of_methodNamed Bd.named
  have hnm := (name_of_methodNamed Bd.named Bd.method).1
  have X0 : Stand p l e room_1 s m #[(.int p1)] below meth c s₁ [] 0 0 := Stand.of_body Bd
  have e0 : s₁.heap = h0 := by rw [← hh, Bd.state]; rfl
  have N0 := Fr.nil n0
  have pre0 : ∀ t, Steps p.tables e below (s₁.setTop (mkF m 0 #[.val (.int p1), .unset, .unset, .unset] [])) t → Steps p.tables e below (s₁.setTop (entryFrame m #[(.int p1)] maxLocals)) t := fun t k => castTop (ef_0 m p1) k
  obtain ⟨_, _, ⟨T1, L1, k1, n1⟩, -, X1, ⟨Lc1, hQ1, l1, y1, z1⟩, st1⟩ := Jvm.LawKit.callS X0 hx (y := (⟨"com/example/concordat/concordat/log/LogRecord$Kind", "of", "(B)Lcom/example/concordat/concordat/log/LogRecord$Kind;"⟩ : MethodName)) hown (mvT hZ (hw _ (List.mem_of_getElem? (i := 0) rfl))) (mvT hZ (hw _ (List.mem_of_getElem? (i := 1) rfl))) (mvT hZ (hw _ (List.mem_of_getElem? (i := 2) rfl))) (mvT hZ (hw _ (List.mem_of_getElem? (i := 3) rfl))) (by decide) (backOf (W := 0) (rmO_11 l Z a0 hw [] (p1.toInt8.toInt32) vA kA w0 w1 w2 w3 w4 w5 w6 w7 w8 w9 h0 n0 Z0 SV AV EV FC0 FC1 FC2 FC3 FC4 FC5 FC6 FC7 FC8 FC9 (fun q => hn1 q.symm) (fun q => hn2 q.symm) (fun q => hn3 q.symm) (fun q => hn4 q.symm) (fun q => hn5 q.symm) (fun q => hn6 q.symm) (fun q => hn7 q.symm) (fun q => hn8 q.symm) (fun q => hn9 q.symm) (fun q => hn10 q.symm)) hZ (hw _ (List.mem_of_getElem? (i := 3) rfl)) (hw _ (List.mem_of_getElem? (i := 2) rfl)) (by decide) (by decide)) (g := (mkF m 4 #[.val (.int p1), .val (.int (p1.toInt8.toInt32)), .unset, .unset] [(.int (p1.toInt8.toInt32))])) rfl (by rw [hml]; rfl) (argsL := [(.int (p1.toInt8.toInt32))]) (rest := []) (lenOf pd_1 rfl) rfl (by show 2 * 0 + _ ≤ _; exact Nat.le_of_eq rfl) (hb hby at_4) (fun _ _ => ⟨rfl, e0, (by decide : 0 + 1 ≤ _), (by decide : 0 + 10 ≤ _)⟩)
  dsimp only [Pt.U, Pt.locs, Pt.cells, Pt.slots] at X1 l1 y1 z1 st1 hQ1
  subst l1 y1 z1
  obtain ⟨rfl, N1q, Ex⟩ := hQ1
  have Z1 : n0 ≤ T1.heap.size := Nat.le_trans Z0 Ex.1
  have N1 := Fr.app N0 N1q
  obtain ⟨_, _, ⟨T2, L2, k2, n2⟩, -, X2, ⟨Lc2, hQ2, l2, y2, z2⟩, st2⟩ := Jvm.LawKit.callS X1 hx (y := (⟨"com/example/concordat/concordat/log/KindOfPinLaw", "expected", "(B)Lcom/example/concordat/concordat/log/LogRecord$Kind;"⟩ : MethodName)) hown (mvT hZ (hw _ (List.mem_of_getElem? (i := 31) rfl))) (mvT hZ (hw _ (List.mem_of_getElem? (i := 32) rfl))) (mvT hZ (hw _ (List.mem_of_getElem? (i := 33) rfl))) (mvT hZ (hw _ (List.mem_of_getElem? (i := 34) rfl))) (by decide) (backOf (W := 0) (rmE_11 l Z a0 hw [] (p1.toInt8.toInt32) T1.heap n0 Z1 hn1 hn2 hn3 hn4 hn5 hn6 hn7 hn8 hn9 hn10) hZ (hw _ (List.mem_of_getElem? (i := 34) rfl)) (hw _ (List.mem_of_getElem? (i := 33) rfl)) (by decide) (by decide)) (g := (mkF m 9 #[.val (.int p1), .val (.int (p1.toInt8.toInt32)), .val .null, .unset] [(.int (p1.toInt8.toInt32))])) rfl (by rw [hml]; rfl) (argsL := [(.int (p1.toInt8.toInt32))]) (rest := []) (lenOf pd_1 rfl) rfl (by show 2 * 0 + _ ≤ _; exact Nat.le_of_eq rfl) (hb hby at_9) (fun _ _ => ⟨rfl, rfl, (by decide : 1 + 0 ≤ _), (by decide : 10 + 0 ≤ _)⟩)
  dsimp only [Pt.U, Pt.locs, Pt.cells, Pt.slots] at X2 l2 y2 z2 st2 hQ2
  subst l2 y2 z2
  obtain ⟨rfl, N2q, eq2⟩ := hQ2
  have N2 := Fr.app N1 N2q
  obtain ⟨fs, hr, hrun, hended, hW, hsame⟩ := X2.leave (v := some (.int (1 : Int32))) (fun h => by rw [Bd.returns] at h; cases h)
  refine ⟨_, _, pre0 _ ?_, hrun, hended, _, _, rfl, ?_, ⟨_, rfl⟩, hW, hsame.mono (by decide) (by decide)⟩
  · show Steps p.tables e below (s₁.setTop (mkF m 0 #[.val (.int p1), .unset, .unset, .unset] [])) _
    refine XS.iloadN X0.here hx rfl (hb hby at_0) rfl ?_
    show Steps p.tables e below (s₁.setTop (mkF m 1 #[.val (.int p1), .unset, .unset, .unset] [(.int p1)])) _
    refine XS.i2b X0.here hx rfl (hb hby at_1) rfl ?_
    show Steps p.tables e below (s₁.setTop (mkF m 2 #[.val (.int p1), .unset, .unset, .unset] [(.int (p1.toInt8.toInt32))])) _
    refine XS.istoreN X0.here hx rfl (hb hby at_2) rfl (l' := #[.val (.int p1), .val (.int (p1.toInt8.toInt32)), .unset, .unset]) rfl ?_
    show Steps p.tables e below (s₁.setTop (mkF m 3 #[.val (.int p1), .val (.int (p1.toInt8.toInt32)), .unset, .unset] [])) _
    refine XS.iloadN X0.here hx rfl (hb hby at_3) rfl ?_
    show Steps p.tables e below (s₁.setTop (mkF m 4 #[.val (.int p1), .val (.int (p1.toInt8.toInt32)), .unset, .unset] [(.int (p1.toInt8.toInt32))])) _
    refine st1 _ ?_
    show Steps p.tables e below (T1.setTop (mkF m 7 #[.val (.int p1), .val (.int (p1.toInt8.toInt32)), .unset, .unset] [.null])) _
    refine XS.astoreN X1.here hx rfl (hb hby at_7) rfl rfl (l' := #[.val (.int p1), .val (.int (p1.toInt8.toInt32)), .val .null, .unset]) rfl ?_
    show Steps p.tables e below (T1.setTop (mkF m 8 #[.val (.int p1), .val (.int (p1.toInt8.toInt32)), .val .null, .unset] [])) _
    refine XS.iloadN X1.here hx rfl (hb hby at_8) rfl ?_
    show Steps p.tables e below (T1.setTop (mkF m 9 #[.val (.int p1), .val (.int (p1.toInt8.toInt32)), .val .null, .unset] [(.int (p1.toInt8.toInt32))])) _
    refine st2 _ ?_
    show Steps p.tables e below (T2.setTop (mkF m 12 #[.val (.int p1), .val (.int (p1.toInt8.toInt32)), .val .null, .unset] [.null])) _
    refine XS.astoreN X2.here hx rfl (hb hby at_12) rfl rfl (l' := #[.val (.int p1), .val (.int (p1.toInt8.toInt32)), .val .null, .val .null]) rfl ?_
    show Steps p.tables e below (T2.setTop (mkF m 13 #[.val (.int p1), .val (.int (p1.toInt8.toInt32)), .val .null, .val .null] [])) _
    refine XS.aloadN X2.here hx rfl (hb hby at_13) rfl rfl ?_
    show Steps p.tables e below (T2.setTop (mkF m 14 #[.val (.int p1), .val (.int (p1.toInt8.toInt32)), .val .null, .val .null] [.null])) _
    refine XS.aloadN X2.here hx rfl (hb hby at_14) rfl rfl ?_
    show Steps p.tables e below (T2.setTop (mkF m 15 #[.val (.int p1), .val (.int (p1.toInt8.toInt32)), .val .null, .val .null] [.null, .null])) _
    refine Jvm.RoadKit.acmp (g := (mkF m 15 #[.val (.int p1), .val (.int (p1.toInt8.toInt32)), .val .null, .val .null] [.null, .null])) X2 hx rfl rfl rfl (pc0 := 15) (pc' := 20) (same := true) rfl (hb hby at_15) rfl (decide_eq_true rfl) (by decide) (by decide) ?_
    show Steps p.tables e below (T2.setTop (mkF m 20 #[.val (.int p1), .val (.int (p1.toInt8.toInt32)), .val .null, .val .null] [])) _
    refine XS.aloadN X2.here hx rfl (hb hby at_20) rfl rfl ?_
    show Steps p.tables e below (T2.setTop (mkF m 21 #[.val (.int p1), .val (.int (p1.toInt8.toInt32)), .val .null, .val .null] [.null])) _
    refine XS.ifnullYes X2.here hx rfl (pc0 := 21) (pc' := 32) rfl (hb hby at_21) rfl (by decide) (by decide) ?_
    show Steps p.tables e below (T2.setTop (mkF m 32 #[.val (.int p1), .val (.int (p1.toInt8.toInt32)), .val .null, .val .null] [])) _
    refine XS.iconst X2.here hx rfl (hb hby at_32) ?_
    show Steps p.tables e below (T2.setTop (mkF m 33 #[.val (.int p1), .val (.int (p1.toInt8.toInt32)), .val .null, .val .null] [(.int (1 : Int32))])) _
    refine XS.goto X2.here hx rfl (pc0 := 33) (pc' := 37) rfl (hb hby at_33) (by decide) (by decide) ?_
    show Steps p.tables e below (T2.setTop (mkF m 37 #[.val (.int p1), .val (.int (p1.toInt8.toInt32)), .val .null, .val .null] [(.int (1 : Int32))])) _
    exact retN X2 hx (t := .boolean) Bd.returns (by simp) (hb hby at_37) hr
  · show Q0 Z p1 vA kA w0 w1 w2 w3 w4 w5 w6 w7 w8 w9 h0 n0 _ T2.heap _
    rw [eq2]
    exact ⟨rfl, N2⟩
set_option maxRecDepth 65536 in
set_option maxHeartbeats 40000000 in
theorem rm0 (l : Launch) (Z : State) (a0 : Array Value) (hw : ∀ d ∈ tables_1, d.before a0 Z = true) (ws : List Jvm.Cond) (p1 : Int32) (vA : Addr) (kA : ClassId) (w0 w1 w2 w3 w4 w5 w6 w7 w8 w9 : Addr) (h0 : Heap) (n0 : Nat) (Z0 : n0 ≤ h0.size) (SV : Sta Z h0 "com/example/concordat/concordat/log/LogRecord$Kind" "$VALUES" "[Lcom/example/concordat/concordat/log/LogRecord$Kind;" (.ref vA)) (AV : Arv Z h0 vA kA (.object "com/example/concordat/concordat/log/LogRecord$Kind") 10 [.ref w0, .ref w1, .ref w2, .ref w3, .ref w4, .ref w5, .ref w6, .ref w7, .ref w8, .ref w9] .null) (EV : Exa Z h0 vA "[Lcom/example/concordat/concordat/log/LogRecord$Kind;") (FC0 : Fld Z h0 w0 "com/example/concordat/concordat/log/LogRecord$Kind" "code" "B" (.int (1 : Int32))) (FC1 : Fld Z h0 w1 "com/example/concordat/concordat/log/LogRecord$Kind" "code" "B" (.int (2 : Int32))) (FC2 : Fld Z h0 w2 "com/example/concordat/concordat/log/LogRecord$Kind" "code" "B" (.int (3 : Int32))) (FC3 : Fld Z h0 w3 "com/example/concordat/concordat/log/LogRecord$Kind" "code" "B" (.int (4 : Int32))) (FC4 : Fld Z h0 w4 "com/example/concordat/concordat/log/LogRecord$Kind" "code" "B" (.int (5 : Int32))) (FC5 : Fld Z h0 w5 "com/example/concordat/concordat/log/LogRecord$Kind" "code" "B" (.int (6 : Int32))) (FC6 : Fld Z h0 w6 "com/example/concordat/concordat/log/LogRecord$Kind" "code" "B" (.int (7 : Int32))) (FC7 : Fld Z h0 w7 "com/example/concordat/concordat/log/LogRecord$Kind" "code" "B" (.int (8 : Int32))) (FC8 : Fld Z h0 w8 "com/example/concordat/concordat/log/LogRecord$Kind" "code" "B" (.int (9 : Int32))) (FC9 : Fld Z h0 w9 "com/example/concordat/concordat/log/LogRecord$Kind" "code" "B" (.int (10 : Int32))) (S0 : Sta Z h0 "com/example/concordat/concordat/log/LogRecord$Kind" "COMMIT" "Lcom/example/concordat/concordat/log/LogRecord$Kind;" (.ref w0)) (S1 : Sta Z h0 "com/example/concordat/concordat/log/LogRecord$Kind" "PREPARE" "Lcom/example/concordat/concordat/log/LogRecord$Kind;" (.ref w1)) (S2 : Sta Z h0 "com/example/concordat/concordat/log/LogRecord$Kind" "COMMIT_PREPARED" "Lcom/example/concordat/concordat/log/LogRecord$Kind;" (.ref w2)) (S3 : Sta Z h0 "com/example/concordat/concordat/log/LogRecord$Kind" "ABORT_PREPARED" "Lcom/example/concordat/concordat/log/LogRecord$Kind;" (.ref w3)) (S4 : Sta Z h0 "com/example/concordat/concordat/log/LogRecord$Kind" "DECISION" "Lcom/example/concordat/concordat/log/LogRecord$Kind;" (.ref w4)) (S5 : Sta Z h0 "com/example/concordat/concordat/log/LogRecord$Kind" "FINISHED" "Lcom/example/concordat/concordat/log/LogRecord$Kind;" (.ref w5)) (S6 : Sta Z h0 "com/example/concordat/concordat/log/LogRecord$Kind" "SNAPSHOT" "Lcom/example/concordat/concordat/log/LogRecord$Kind;" (.ref w6)) (S7 : Sta Z h0 "com/example/concordat/concordat/log/LogRecord$Kind" "ON_DISK" "Lcom/example/concordat/concordat/log/LogRecord$Kind;" (.ref w7)) (S8 : Sta Z h0 "com/example/concordat/concordat/log/LogRecord$Kind" "RUN" "Lcom/example/concordat/concordat/log/LogRecord$Kind;" (.ref w8)) (S9 : Sta Z h0 "com/example/concordat/concordat/log/LogRecord$Kind" "OUTCOMES" "Lcom/example/concordat/concordat/log/LogRecord$Kind;" (.ref w9)) :
    MetFree l x (head1 (Jvm.Cond.code x code maxLocals ret :: ws) room_1) (fun a U => a = #[(.int p1)] ∧ Z.Warmed39 U.vm ∧ U.heap = h0) (fun _ _ _ _ _ => True) (fun _ U o U' => ∃ v L, o = .returned v ∧ Q0 Z p1 vA kA w0 w1 w2 w3 w4 w5 w6 w7 w8 w9 h0 n0 v U'.heap L ∧ FrameEnd U o U' L 1 10) := by
  by_cases hn1 : (p1.toInt8.toInt32) = (1 : Int32)
  · exact rm0_1 l Z a0 hw ws p1 vA kA w0 w1 w2 w3 w4 w5 w6 w7 w8 w9 h0 n0 Z0 SV AV EV FC0 FC1 FC2 FC3 FC4 FC5 FC6 FC7 FC8 FC9 S0 hn1
  by_cases hn2 : (p1.toInt8.toInt32) = (2 : Int32)
  · exact rm0_2 l Z a0 hw ws p1 vA kA w0 w1 w2 w3 w4 w5 w6 w7 w8 w9 h0 n0 Z0 SV AV EV FC0 FC1 FC2 FC3 FC4 FC5 FC6 FC7 FC8 FC9 S1 hn2
  by_cases hn3 : (p1.toInt8.toInt32) = (3 : Int32)
  · exact rm0_3 l Z a0 hw ws p1 vA kA w0 w1 w2 w3 w4 w5 w6 w7 w8 w9 h0 n0 Z0 SV AV EV FC0 FC1 FC2 FC3 FC4 FC5 FC6 FC7 FC8 FC9 S2 hn3
  by_cases hn4 : (p1.toInt8.toInt32) = (4 : Int32)
  · exact rm0_4 l Z a0 hw ws p1 vA kA w0 w1 w2 w3 w4 w5 w6 w7 w8 w9 h0 n0 Z0 SV AV EV FC0 FC1 FC2 FC3 FC4 FC5 FC6 FC7 FC8 FC9 S3 hn4
  by_cases hn5 : (p1.toInt8.toInt32) = (5 : Int32)
  · exact rm0_5 l Z a0 hw ws p1 vA kA w0 w1 w2 w3 w4 w5 w6 w7 w8 w9 h0 n0 Z0 SV AV EV FC0 FC1 FC2 FC3 FC4 FC5 FC6 FC7 FC8 FC9 S4 hn5
  by_cases hn6 : (p1.toInt8.toInt32) = (6 : Int32)
  · exact rm0_6 l Z a0 hw ws p1 vA kA w0 w1 w2 w3 w4 w5 w6 w7 w8 w9 h0 n0 Z0 SV AV EV FC0 FC1 FC2 FC3 FC4 FC5 FC6 FC7 FC8 FC9 S5 hn6
  by_cases hn7 : (p1.toInt8.toInt32) = (7 : Int32)
  · exact rm0_7 l Z a0 hw ws p1 vA kA w0 w1 w2 w3 w4 w5 w6 w7 w8 w9 h0 n0 Z0 SV AV EV FC0 FC1 FC2 FC3 FC4 FC5 FC6 FC7 FC8 FC9 S6 hn7
  by_cases hn8 : (p1.toInt8.toInt32) = (8 : Int32)
  · exact rm0_8 l Z a0 hw ws p1 vA kA w0 w1 w2 w3 w4 w5 w6 w7 w8 w9 h0 n0 Z0 SV AV EV FC0 FC1 FC2 FC3 FC4 FC5 FC6 FC7 FC8 FC9 S7 hn8
  by_cases hn9 : (p1.toInt8.toInt32) = (9 : Int32)
  · exact rm0_9 l Z a0 hw ws p1 vA kA w0 w1 w2 w3 w4 w5 w6 w7 w8 w9 h0 n0 Z0 SV AV EV FC0 FC1 FC2 FC3 FC4 FC5 FC6 FC7 FC8 FC9 S8 hn9
  by_cases hn10 : (p1.toInt8.toInt32) = (10 : Int32)
  · exact rm0_10 l Z a0 hw ws p1 vA kA w0 w1 w2 w3 w4 w5 w6 w7 w8 w9 h0 n0 Z0 SV AV EV FC0 FC1 FC2 FC3 FC4 FC5 FC6 FC7 FC8 FC9 S9 hn10
  exact rm0_11 l Z a0 hw ws p1 vA kA w0 w1 w2 w3 w4 w5 w6 w7 w8 w9 h0 n0 Z0 SV AV EV FC0 FC1 FC2 FC3 FC4 FC5 FC6 FC7 FC8 FC9 hn1 hn2 hn3 hn4 hn5 hn6 hn7 hn8 hn9 hn10
set_option maxRecDepth 65536 in
set_option maxHeartbeats 40000000 in
theorem comes_1 {Post : Tables → Env → Array Value → State → Outcome → State → Prop} (hpost : ∀ tb e args s v u, (limb_1_1.after args s (.returned v) u = true ∧ limb_1_2.after args s (.returned v) u = true ∧ True) → FrameEnd s (.returned v) u (Jvm.fieldLocs frame_1_writes args s ++ Jvm.arrayLocs frame_1_arrays args s ++ Jvm.staticLocs frame_1_statics s) 16 128 → Post tb e args s (.returned v) u) :
    ArmFor flags0 classFile x code maxLocals ret World_1 tables_1 room_1 Calls_1 rest_1 Pre_1 Post := by
  intro l hfl _ _ p e ha hc hk s m args below hf hA hF happ hP
  obtain ⟨hcalls, hrest, hpre⟩ := hP
  obtain ⟨-, -, -, hnamed, -, -, -, hat⟩ := (Spec.applies_iff hf).mp happ
  obtain ⟨hg, hn⟩ := and_e (Cond.before_iff.mp (show (Jvm.Cond.and given_1 narrow_1).before args s = true from hpre))
  obtain ⟨g0, g1⟩ := and_e hg
  obtain ⟨w0, rfl⟩ : ∃ w0 : Value, args = #[w0] := by
    have hs : args.size = 1 := by simpa [Cond.value, given_1] using g0
    obtain ⟨L⟩ := args
    match L, hs with
    | [w0], _ => exact ⟨w0, rfl⟩
  have hw := fun d (hd : d ∈ tables_1) => atoms_spec (ws := Jvm.Cond.code x code maxLocals ret :: tables_1) hat d (List.mem_cons_of_mem _ hd)
  have hfit : Fit s := fun {y c} hc i hi => by
    obtain ⟨ha, rfl⟩ := Array.getElem?_eq_some_iff.mp hc
    have q := List.all_eq_true.mp ((Array.all_eq_true_iff_forall_mem.mp hF) _ (Array.getElem_mem ha)) i (List.mem_range.mpr hi)
    simpa [Array.getElem?_eq_getElem hi] using q
  obtain ⟨i0, ei0⟩ := is_v g1
  obtain rfl : w0 = (.int i0) := Option.some.inj ei0
  obtain ⟨c0, c_r⟩ := and_e hn
  obtain ⟨c1, c_rr⟩ := and_e c_r
  obtain ⟨c2, c_rrr⟩ := and_e c_rr
  obtain ⟨c3, c_rrrr⟩ := and_e c_rrr
  obtain ⟨c4, c_rrrrr⟩ := and_e c_rrrr
  obtain ⟨c5, c_rrrrrr⟩ := and_e c_rrrrr
  obtain ⟨c6, c_rrrrrrr⟩ := and_e c_rrrrrr
  obtain ⟨c7, c_rrrrrrrr⟩ := and_e c_rrrrrrr
  obtain ⟨c8, c_rrrrrrrrr⟩ := and_e c_rrrrrrrr
  obtain ⟨c9, c_rrrrrrrrrr⟩ := and_e c_rrrrrrrrr
  obtain ⟨c10, c_rrrrrrrrrrr⟩ := and_e c_rrrrrrrrrr
  obtain ⟨c11, c_rrrrrrrrrrrr⟩ := and_e c_rrrrrrrrrrr
  obtain ⟨c12, c_rrrrrrrrrrrrr⟩ := and_e c_rrrrrrrrrrrr
  obtain ⟨c13, c_rrrrrrrrrrrrrr⟩ := and_e c_rrrrrrrrrrrrr
  obtain ⟨c14, c_rrrrrrrrrrrrrrr⟩ := and_e c_rrrrrrrrrrrrrr
  obtain ⟨c15, c_rrrrrrrrrrrrrrrr⟩ := and_e c_rrrrrrrrrrrrrrr
  obtain ⟨c16, c_rrrrrrrrrrrrrrrrr⟩ := and_e c_rrrrrrrrrrrrrrrr
  obtain ⟨c17, c_rrrrrrrrrrrrrrrrrr⟩ := and_e c_rrrrrrrrrrrrrrrrr
  obtain ⟨c18, c_rrrrrrrrrrrrrrrrrrr⟩ := and_e c_rrrrrrrrrrrrrrrrrr
  obtain ⟨c19, c_rrrrrrrrrrrrrrrrrrrr⟩ := and_e c_rrrrrrrrrrrrrrrrrrr
  obtain ⟨c20, c_rrrrrrrrrrrrrrrrrrrrr⟩ := and_e c_rrrrrrrrrrrrrrrrrrrr
  obtain ⟨c21, c_rrrrrrrrrrrrrrrrrrrrrr⟩ := and_e c_rrrrrrrrrrrrrrrrrrrrr
  obtain ⟨c22, c_rrrrrrrrrrrrrrrrrrrrrrr⟩ := and_e c_rrrrrrrrrrrrrrrrrrrrrr
  obtain ⟨c23, c_rrrrrrrrrrrrrrrrrrrrrrrr⟩ := and_e c_rrrrrrrrrrrrrrrrrrrrrrr
  obtain ⟨c24, c_rrrrrrrrrrrrrrrrrrrrrrrrr⟩ := and_e c_rrrrrrrrrrrrrrrrrrrrrrrr
  obtain ⟨c25, c_rrrrrrrrrrrrrrrrrrrrrrrrrr⟩ := and_e c_rrrrrrrrrrrrrrrrrrrrrrrrr
  obtain ⟨c26, c_rrrrrrrrrrrrrrrrrrrrrrrrrrr⟩ := and_e c_rrrrrrrrrrrrrrrrrrrrrrrrrr
  obtain ⟨c27, c_rrrrrrrrrrrrrrrrrrrrrrrrrrrr⟩ := and_e c_rrrrrrrrrrrrrrrrrrrrrrrrrrr
  obtain ⟨c28, c_rrrrrrrrrrrrrrrrrrrrrrrrrrrrr⟩ := and_e c_rrrrrrrrrrrrrrrrrrrrrrrrrrrr
  obtain ⟨c29, c_rrrrrrrrrrrrrrrrrrrrrrrrrrrrrr⟩ := and_e c_rrrrrrrrrrrrrrrrrrrrrrrrrrrrr
  obtain ⟨c30, c_rrrrrrrrrrrrrrrrrrrrrrrrrrrrrrr⟩ := and_e c_rrrrrrrrrrrrrrrrrrrrrrrrrrrrrr
  obtain ⟨c31, c32⟩ := and_e c_rrrrrrrrrrrrrrrrrrrrrrrrrrrrrrr
  obtain ⟨w_COMMIT, v_COMMIT⟩ := exa_v c3
  have E_COMMIT := Exa.start v_COMMIT c3
  have S_COMMIT := Sta.start v_COMMIT (Or.inr ⟨(hw _ (List.mem_of_getElem? (i := 2) rfl)), (hw _ (List.mem_of_getElem? (i := 16) rfl))⟩)
  obtain ⟨w_PREPARE, v_PREPARE⟩ := exa_v c5
  have E_PREPARE := Exa.start v_PREPARE c5
  have S_PREPARE := Sta.start v_PREPARE (Or.inr ⟨(hw _ (List.mem_of_getElem? (i := 2) rfl)), (hw _ (List.mem_of_getElem? (i := 17) rfl))⟩)
  obtain ⟨w_COMMIT_PREPARED, v_COMMIT_PREPARED⟩ := exa_v c7
  have E_COMMIT_PREPARED := Exa.start v_COMMIT_PREPARED c7
  have S_COMMIT_PREPARED := Sta.start v_COMMIT_PREPARED (Or.inr ⟨(hw _ (List.mem_of_getElem? (i := 2) rfl)), (hw _ (List.mem_of_getElem? (i := 18) rfl))⟩)
  obtain ⟨w_ABORT_PREPARED, v_ABORT_PREPARED⟩ := exa_v c9
  have E_ABORT_PREPARED := Exa.start v_ABORT_PREPARED c9
  have S_ABORT_PREPARED := Sta.start v_ABORT_PREPARED (Or.inr ⟨(hw _ (List.mem_of_getElem? (i := 2) rfl)), (hw _ (List.mem_of_getElem? (i := 19) rfl))⟩)
  obtain ⟨w_DECISION, v_DECISION⟩ := exa_v c11
  have E_DECISION := Exa.start v_DECISION c11
  have S_DECISION := Sta.start v_DECISION (Or.inr ⟨(hw _ (List.mem_of_getElem? (i := 2) rfl)), (hw _ (List.mem_of_getElem? (i := 20) rfl))⟩)
  obtain ⟨w_FINISHED, v_FINISHED⟩ := exa_v c13
  have E_FINISHED := Exa.start v_FINISHED c13
  have S_FINISHED := Sta.start v_FINISHED (Or.inr ⟨(hw _ (List.mem_of_getElem? (i := 2) rfl)), (hw _ (List.mem_of_getElem? (i := 21) rfl))⟩)
  obtain ⟨w_SNAPSHOT, v_SNAPSHOT⟩ := exa_v c15
  have E_SNAPSHOT := Exa.start v_SNAPSHOT c15
  have S_SNAPSHOT := Sta.start v_SNAPSHOT (Or.inr ⟨(hw _ (List.mem_of_getElem? (i := 2) rfl)), (hw _ (List.mem_of_getElem? (i := 22) rfl))⟩)
  obtain ⟨w_ON_DISK, v_ON_DISK⟩ := exa_v c17
  have E_ON_DISK := Exa.start v_ON_DISK c17
  have S_ON_DISK := Sta.start v_ON_DISK (Or.inr ⟨(hw _ (List.mem_of_getElem? (i := 2) rfl)), (hw _ (List.mem_of_getElem? (i := 23) rfl))⟩)
  obtain ⟨w_RUN, v_RUN⟩ := exa_v c19
  have E_RUN := Exa.start v_RUN c19
  have S_RUN := Sta.start v_RUN (Or.inr ⟨(hw _ (List.mem_of_getElem? (i := 2) rfl)), (hw _ (List.mem_of_getElem? (i := 24) rfl))⟩)
  obtain ⟨w_OUTCOMES, v_OUTCOMES⟩ := exa_v c21
  have E_OUTCOMES := Exa.start v_OUTCOMES c21
  have S_OUTCOMES := Sta.start v_OUTCOMES (Or.inr ⟨(hw _ (List.mem_of_getElem? (i := 2) rfl)), (hw _ (List.mem_of_getElem? (i := 25) rfl))⟩)
  have O_COMMIT := own_fld c23 v_COMMIT
  have O_PREPARE := own_fld c24 v_PREPARE
  have O_COMMIT_PREPARED := own_fld c25 v_COMMIT_PREPARED
  have O_ABORT_PREPARED := own_fld c26 v_ABORT_PREPARED
  have O_DECISION := own_fld c27 v_DECISION
  have O_FINISHED := own_fld c28 v_FINISHED
  have O_SNAPSHOT := own_fld c29 v_SNAPSHOT
  have O_ON_DISK := own_fld c30 v_ON_DISK
  have O_RUN := own_fld c31 v_RUN
  have O_OUTCOMES := own_fld c32 v_OUTCOMES
  obtain ⟨w_V, v_V⟩ := exa_v c1
  have E_V := Exa.start v_V c1
  have S_V := Sta.start v_V (Or.inr ⟨(hw _ (List.mem_of_getElem? (i := 2) rfl)), (hw _ (List.mem_of_getElem? (i := 8) rfl))⟩)
  obtain ⟨cl, A_V⟩ := Arr.start v_V c0
  obtain ⟨z1, z2⟩ := own_len c2 v_V A_V
  have V_V : Arv s s.heap w_V cl.cls (.object "com/example/concordat/concordat/log/LogRecord$Kind") 10 [.ref w_COMMIT, .ref w_PREPARE, .ref w_COMMIT_PREPARED, .ref w_ABORT_PREPARED, .ref w_DECISION, .ref w_FINISHED, .ref w_SNAPSHOT, .ref w_ON_DISK, .ref w_RUN, .ref w_OUTCOMES] .null := Arv.start hfit A_V z1 z2 (by decide) rfl ⟨own_el c4 v_V v_COMMIT A_V (by decide), own_el c6 v_V v_PREPARE A_V (by decide), own_el c8 v_V v_COMMIT_PREPARED A_V (by decide), own_el c10 v_V v_ABORT_PREPARED A_V (by decide), own_el c12 v_V v_DECISION A_V (by decide), own_el c14 v_V v_FINISHED A_V (by decide), own_el c16 v_V v_SNAPSHOT A_V (by decide), own_el c18 v_V v_ON_DISK A_V (by decide), own_el c20 v_V v_RUN A_V (by decide), own_el c22 v_V v_OUTCOMES A_V (by decide), trivial⟩
  obtain ⟨n, o, h1, h2, h3, _, L, rfl, ⟨rfl, N⟩, hq⟩ := rm0 l s _ hw tables_1 i0 w_V cl.cls w_COMMIT w_PREPARE w_COMMIT_PREPARED w_ABORT_PREPARED w_DECISION w_FINISHED w_SNAPSHOT w_ON_DISK w_RUN w_OUTCOMES s.heap s.heap.size (Nat.le_refl _) S_V V_V E_V (Fld.start O_COMMIT) (Fld.start O_PREPARE) (Fld.start O_COMMIT_PREPARED) (Fld.start O_ABORT_PREPARED) (Fld.start O_DECISION) (Fld.start O_FINISHED) (Fld.start O_SNAPSHOT) (Fld.start O_ON_DISK) (Fld.start O_RUN) (Fld.start O_OUTCOMES) S_COMMIT S_PREPARE S_COMMIT_PREPARED S_ABORT_PREPARED S_DECISION S_FINISHED S_SNAPSHOT S_ON_DISK S_RUN S_OUTCOMES p e ha hc hk s m _ below hf ((Spec.applies_iff_loose hf).mp happ).1 ⟨rfl, State.Warmed39.refl s, rfl⟩ trivial
  refine ⟨n, _, h1, h2, h3, hpost _ _ _ _ _ _ ⟨Cond.after_iff.mpr rfl, Cond.after_iff.mpr (eq_i res_at (Term.int_eval (1)) rfl), trivial⟩ ⟨hq.1, hq.2.1, (hq.2.2.sift fun y hy => Or.inr (N y hy)).mono (by decide +kernel) (by decide +kernel)⟩⟩
theorem main_1_1 : Claimed_1_1 := comes_1 fun _ _ _ _ _ _ h hF => ⟨h.1, hF⟩
theorem main_1_2 : Claimed_1_2 := comes_1 fun _ _ _ _ _ _ h hF => ⟨h.2.1, hF⟩
end Jvm.Pilot.@@N@@
namespace Jvm.Pilot.@@N@@
open Jvm Jvm.ClassFile Sem Op Lib Jvm.Free Jvm.Stand Jvm.Pilot.@@N@@.Jvm.D
/-! MADE BY PROGRAM (witnessworld.py) out of the Statement's table words and the real class files: 13 classes; the members and pool entries that the words name. The judged class is class 1, her method 2. -/
namespace start1
open Jvm.ClassFile
def u (s : String) : CpInfo := .utf8 (stringToUtf16 s)
/-- a pool by its gaps: so many unusable entries, then the entry; so many at the end -/
def gap : Nat → List CpInfo → List CpInfo
  | 0, r => r
  | n + 1, r => .unusable :: gap n r
def poolList (es : List (Nat × CpInfo)) (last : Nat) : List CpInfo := es.foldr (fun e r => gap e.1 (e.2 :: r)) (gap last [])
def pool (es : List (Nat × CpInfo)) (last : Nat) : Array CpInfo := ⟨poolList es last⟩
def fileOf (pool : Array CpInfo) (this : Nat) (attrs : Array Attribute := #[]) (ms : Array MethodInfo := #[]) (fl : Nat := 33) (sup : Nat := 0) (ifs : Array Nat := #[]) (fds : Array FieldInfo := #[]) : ClassFile where
  minorVersion := 0
  majorVersion := 65
  constantPool := pool
  accessFlags := fl
  thisClass := this
  superClass := sup
  interfaces := ifs
  fields := fds
  methods := ms
  attributes := attrs
def plain (name : String) (sup : Option ClassId) : Class where
  name := name
  kind := .ordinary
  loader := none
  accessFlags := 33
  super := sup
  interfaces := #[]
  cf := none
  fields := #[]
  methods := #[]
  instanceTypes := #[]
  staticTypes := #[]
  resolved := #[]
  callSites := []
  init := .initialized
  statics := none
  mirror := none

def pool0 : Array CpInfo := pool [(5, u "<init>"), (0, u "()V"), (1, .class_ 10), (1, u "java/lang/Object"), (85, u "clone"), (0, u "()Ljava/lang/Object;")] 26

def k0m0 : Method := { name := "<init>", desc := "()V", sig := { parameters := [], returnType := none }, accessFlags := 1, code := none }
def k0m1 : Method := { name := "clone", desc := "()Ljava/lang/Object;", sig := { parameters := [], returnType := some (.object "java/lang/Object") }, accessFlags := 260, code := none }
/-- java/lang/Object -/
def k0 : Class := { plain "java/lang/Object" none with
  accessFlags := 33
  interfaces := #[]
  cf := some (fileOf pool0 8 #[] #[{ accessFlags := 1, nameIndex := 5, descriptorIndex := 6, attributes := #[] }, { accessFlags := 260, nameIndex := 96, descriptorIndex := 97, attributes := #[] }] 33 0 #[] #[])
  fields := #[]
  methods := #[k0m0, k0m1]
  instanceTypes := #[]
  staticTypes := #[]
  resolved := Array.replicate 124 none
  statics := none }

def pool1 : Array CpInfo := pool [(2, .class_ 4), (1, u "java/lang/Object"), (0, u "<init>"), (0, u "()V"), (0, .fieldref 8 9), (0, .class_ 10), (0, .nameAndType 11 12), (0, u "com/example/concordat/concordat/log/LogRecord$Kind"), (0, u "COMMIT"), (0, u "Lcom/example/concordat/concordat/log/LogRecord$Kind;"), (0, .fieldref 8 14), (0, .nameAndType 15 12), (0, u "PREPARE"), (0, .fieldref 8 17), (0, .nameAndType 18 12), (0, u "COMMIT_PREPARED"), (0, .fieldref 8 20), (0, .nameAndType 21 12), (0, u "ABORT_PREPARED"), (0, .fieldref 8 23), (0, .nameAndType 24 12), (0, u "DECISION"), (0, .fieldref 8 26), (0, .nameAndType 27 12), (0, u "FINISHED"), (0, .fieldref 8 29), (0, .nameAndType 30 12), (0, u "SNAPSHOT"), (0, .fieldref 8 32), (0, .nameAndType 33 12), (0, u "ON_DISK"), (0, .fieldref 8 35), (0, .nameAndType 36 12), (0, u "RUN"), (0, .fieldref 8 38), (0, .nameAndType 39 12), (0, u "OUTCOMES"), (0, .methodref 8 41), (0, .nameAndType 42 43), (0, u "of"), (0, u "(B)Lcom/example/concordat/concordat/log/LogRecord$Kind;"), (0, .methodref 45 46), (0, .class_ 47), (0, .nameAndType 48 43), (0, u "com/example/concordat/concordat/log/KindOfPinLaw"), (0, u "expected"), (0, .fieldref 8 50), (0, .nameAndType 51 52), (0, u "code"), (0, u "B"), (3, u "law"), (0, u "(I)Z")] 6

def k1m0 : Method := { name := "<init>", desc := "()V", sig := { parameters := [], returnType := none }, accessFlags := 1, code := none }
def k1c1 : Code := { maxStack := 2, maxLocals := 1, code := method_2_code, exceptionTable := #[], attributes := #[] }
def k1m1 : Method := { name := "expected", desc := "(B)Lcom/example/concordat/concordat/log/LogRecord$Kind;", sig := { parameters := [.byte], returnType := some (.object "com/example/concordat/concordat/log/LogRecord$Kind") }, accessFlags := 10, code := some k1c1 }
def k1c2 : Code := { maxStack := 2, maxLocals := 4, code := code, exceptionTable := #[], attributes := #[] }
def k1m2 : Method := { name := "law", desc := "(I)Z", sig := { parameters := [.int], returnType := some .boolean }, accessFlags := 9, code := some k1c2 }
/-- com/example/concordat/concordat/log/KindOfPinLaw -/
def k1 : Class := { plain "com/example/concordat/concordat/log/KindOfPinLaw" (some 0) with
  accessFlags := 49
  interfaces := #[]
  cf := some (fileOf pool1 45 #[] #[{ accessFlags := 1, nameIndex := 5, descriptorIndex := 6, attributes := #[] }, { accessFlags := 10, nameIndex := 48, descriptorIndex := 43, attributes := #[] }, { accessFlags := 9, nameIndex := 56, descriptorIndex := 57, attributes := #[] }] 49 2 #[] #[])
  fields := #[]
  methods := #[k1m0, k1m1, k1m2]
  instanceTypes := #[]
  staticTypes := #[]
  resolved := Array.replicate 64 none
  statics := none }

def pool2 : Array CpInfo := pool [(1, .class_ 2), (0, u "java/lang/constant/Constable"), (0, .class_ 4), (0, u "java/lang/Object")] 6

/-- java/lang/constant/Constable -/
def k2 : Class := { plain "java/lang/constant/Constable" (some 0) with
  accessFlags := 1537
  interfaces := #[]
  cf := some (fileOf pool2 1 #[] #[] 1537 3 #[] #[])
  fields := #[]
  methods := #[]
  instanceTypes := #[]
  staticTypes := #[]
  resolved := Array.replicate 11 none
  statics := none }

def pool3 : Array CpInfo := pool [(1, .class_ 2), (0, u "java/lang/Comparable"), (0, .class_ 4), (0, u "java/lang/Object")] 7

/-- java/lang/Comparable -/
def k3 : Class := { plain "java/lang/Comparable" (some 0) with
  accessFlags := 1537
  interfaces := #[]
  cf := some (fileOf pool3 1 #[] #[] 1537 3 #[] #[])
  fields := #[]
  methods := #[]
  instanceTypes := #[]
  staticTypes := #[]
  resolved := Array.replicate 12 none
  statics := none }

def pool4 : Array CpInfo := pool [(1, .class_ 2), (0, u "java/io/Serializable"), (0, .class_ 4), (0, u "java/lang/Object")] 2

/-- java/io/Serializable -/
def k4 : Class := { plain "java/io/Serializable" (some 0) with
  accessFlags := 1537
  interfaces := #[]
  cf := some (fileOf pool4 1 #[] #[] 1537 3 #[] #[])
  fields := #[]
  methods := #[]
  instanceTypes := #[]
  staticTypes := #[]
  resolved := Array.replicate 7 none
  statics := none }

def pool5 : Array CpInfo := pool [(2, .class_ 4), (1, u "java/lang/Enum"), (0, u "name"), (0, u "Ljava/lang/String;"), (2, u "ordinal"), (0, u "I"), (1, .class_ 14), (1, u "java/lang/Object"), (4, u "hash"), (86, .class_ 108), (1, u "java/lang/Enum$EnumDesc"), (2, .class_ 112), (0, u "java/lang/constant/Constable"), (0, .class_ 114), (0, u "java/lang/Comparable"), (0, .class_ 116), (0, u "java/io/Serializable")] 87

/-- java/lang/Enum -/
def k5 : Class := { plain "java/lang/Enum" (some 0) with
  accessFlags := 1057
  interfaces := #[2, 3, 4]
  cf := some (fileOf pool5 2 #[.nestMembers #[106]] #[] 1057 12 #[111, 113, 115] #[{ accessFlags := 18, nameIndex := 5, descriptorIndex := 6, attributes := #[] }, { accessFlags := 18, nameIndex := 9, descriptorIndex := 10, attributes := #[] }, { accessFlags := 2, nameIndex := 19, descriptorIndex := 10, attributes := #[] }])
  fields := #[{ name := "name", type := (.object "java/lang/String"), accessFlags := 18, slot := 0, constantValue := 0 }, { name := "ordinal", type := .int, accessFlags := 18, slot := 1, constantValue := 0 }, { name := "hash", type := .int, accessFlags := 2, slot := 2, constantValue := 0 }]
  methods := #[]
  instanceTypes := #[(.object "java/lang/String"), .int, .int]
  staticTypes := #[]
  resolved := Array.replicate 204 none
  statics := none }

def pool6 : Array CpInfo := pool [(1, .class_ 2), (0, u "com/example/concordat/concordat/log/LogRecord$Kind"), (2, u "COMMIT"), (0, u "Lcom/example/concordat/concordat/log/LogRecord$Kind;"), (2, u "PREPARE"), (2, u "COMMIT_PREPARED"), (2, u "ABORT_PREPARED"), (2, u "DECISION"), (2, u "FINISHED"), (2, u "SNAPSHOT"), (2, u "ON_DISK"), (2, u "RUN"), (2, u "OUTCOMES"), (0, .fieldref 1 35), (0, .nameAndType 36 37), (0, u "$VALUES"), (0, u "[Lcom/example/concordat/concordat/log/LogRecord$Kind;"), (0, .methodref 39 40), (0, .class_ 37), (0, .nameAndType 41 42), (0, u "clone"), (0, u "()Ljava/lang/Object;"), (1, .class_ 46), (1, u "java/lang/Enum"), (6, .fieldref 1 54), (0, .nameAndType 55 56), (0, u "code"), (0, u "B"), (2, u "holdsWrites"), (0, u "Z"), (2, u "holdsNodes"), (2, u "synced"), (0, .methodref 1 68), (0, .nameAndType 69 70), (0, u "values"), (0, u "()[Lcom/example/concordat/concordat/log/LogRecord$Kind;"), (22, u "of"), (0, u "(B)Lcom/example/concordat/concordat/log/LogRecord$Kind;"), (7, .class_ 103), (0, u "com/example/concordat/concordat/log/LogRecord")] 2

def k6c0 : Code := { maxStack := 1, maxLocals := 0, code := prog_45_method_1_code, exceptionTable := #[], attributes := #[] }
def k6m0 : Method := { name := "values", desc := "()[Lcom/example/concordat/concordat/log/LogRecord$Kind;", sig := { parameters := [], returnType := some (.array (.object "com/example/concordat/concordat/log/LogRecord$Kind")) }, accessFlags := 9, code := some k6c0 }
def k6c1 : Code := { maxStack := 2, maxLocals := 5, code := prog_45_method_4_code, exceptionTable := #[], attributes := #[] }
def k6m1 : Method := { name := "of", desc := "(B)Lcom/example/concordat/concordat/log/LogRecord$Kind;", sig := { parameters := [.byte], returnType := some (.object "com/example/concordat/concordat/log/LogRecord$Kind") }, accessFlags := 8, code := some k6c1 }
/-- com/example/concordat/concordat/log/LogRecord$Kind -/
def k6 : Class := { plain "com/example/concordat/concordat/log/LogRecord$Kind" (some 5) with
  accessFlags := 16432
  interfaces := #[]
  cf := some (fileOf pool6 1 #[.nestHost 102] #[{ accessFlags := 9, nameIndex := 69, descriptorIndex := 70, attributes := #[] }, { accessFlags := 8, nameIndex := 93, descriptorIndex := 94, attributes := #[] }] 16432 44 #[] #[{ accessFlags := 16409, nameIndex := 5, descriptorIndex := 6, attributes := #[] }, { accessFlags := 16409, nameIndex := 9, descriptorIndex := 6, attributes := #[] }, { accessFlags := 16409, nameIndex := 12, descriptorIndex := 6, attributes := #[] }, { accessFlags := 16409, nameIndex := 15, descriptorIndex := 6, attributes := #[] }, { accessFlags := 16409, nameIndex := 18, descriptorIndex := 6, attributes := #[] }, { accessFlags := 16409, nameIndex := 21, descriptorIndex := 6, attributes := #[] }, { accessFlags := 16409, nameIndex := 24, descriptorIndex := 6, attributes := #[] }, { accessFlags := 16409, nameIndex := 27, descriptorIndex := 6, attributes := #[] }, { accessFlags := 16409, nameIndex := 30, descriptorIndex := 6, attributes := #[] }, { accessFlags := 16409, nameIndex := 33, descriptorIndex := 6, attributes := #[] }, { accessFlags := 16, nameIndex := 55, descriptorIndex := 56, attributes := #[] }, { accessFlags := 16, nameIndex := 59, descriptorIndex := 60, attributes := #[] }, { accessFlags := 16, nameIndex := 63, descriptorIndex := 60, attributes := #[] }, { accessFlags := 16, nameIndex := 66, descriptorIndex := 60, attributes := #[] }, { accessFlags := 4122, nameIndex := 36, descriptorIndex := 37, attributes := #[] }])
  fields := #[{ name := "COMMIT", type := (.object "com/example/concordat/concordat/log/LogRecord$Kind"), accessFlags := 16409, slot := 0, constantValue := 0 }, { name := "PREPARE", type := (.object "com/example/concordat/concordat/log/LogRecord$Kind"), accessFlags := 16409, slot := 1, constantValue := 0 }, { name := "COMMIT_PREPARED", type := (.object "com/example/concordat/concordat/log/LogRecord$Kind"), accessFlags := 16409, slot := 2, constantValue := 0 }, { name := "ABORT_PREPARED", type := (.object "com/example/concordat/concordat/log/LogRecord$Kind"), accessFlags := 16409, slot := 3, constantValue := 0 }, { name := "DECISION", type := (.object "com/example/concordat/concordat/log/LogRecord$Kind"), accessFlags := 16409, slot := 4, constantValue := 0 }, { name := "FINISHED", type := (.object "com/example/concordat/concordat/log/LogRecord$Kind"), accessFlags := 16409, slot := 5, constantValue := 0 }, { name := "SNAPSHOT", type := (.object "com/example/concordat/concordat/log/LogRecord$Kind"), accessFlags := 16409, slot := 6, constantValue := 0 }, { name := "ON_DISK", type := (.object "com/example/concordat/concordat/log/LogRecord$Kind"), accessFlags := 16409, slot := 7, constantValue := 0 }, { name := "RUN", type := (.object "com/example/concordat/concordat/log/LogRecord$Kind"), accessFlags := 16409, slot := 8, constantValue := 0 }, { name := "OUTCOMES", type := (.object "com/example/concordat/concordat/log/LogRecord$Kind"), accessFlags := 16409, slot := 9, constantValue := 0 }, { name := "code", type := .byte, accessFlags := 16, slot := 3, constantValue := 0 }, { name := "holdsWrites", type := .boolean, accessFlags := 16, slot := 4, constantValue := 0 }, { name := "holdsNodes", type := .boolean, accessFlags := 16, slot := 5, constantValue := 0 }, { name := "synced", type := .boolean, accessFlags := 16, slot := 6, constantValue := 0 }, { name := "$VALUES", type := (.array (.object "com/example/concordat/concordat/log/LogRecord$Kind")), accessFlags := 4122, slot := 10, constantValue := 0 }]
  methods := #[k6m0, k6m1]
  instanceTypes := #[(.object "java/lang/String"), .int, .int, .byte, .boolean, .boolean, .boolean]
  staticTypes := #[(.object "com/example/concordat/concordat/log/LogRecord$Kind"), (.object "com/example/concordat/concordat/log/LogRecord$Kind"), (.object "com/example/concordat/concordat/log/LogRecord$Kind"), (.object "com/example/concordat/concordat/log/LogRecord$Kind"), (.object "com/example/concordat/concordat/log/LogRecord$Kind"), (.object "com/example/concordat/concordat/log/LogRecord$Kind"), (.object "com/example/concordat/concordat/log/LogRecord$Kind"), (.object "com/example/concordat/concordat/log/LogRecord$Kind"), (.object "com/example/concordat/concordat/log/LogRecord$Kind"), (.object "com/example/concordat/concordat/log/LogRecord$Kind"), (.array (.object "com/example/concordat/concordat/log/LogRecord$Kind"))]
  resolved := Array.replicate 106 none
  statics := some 0 }

def pool7 : Array CpInfo := pool [(1, .class_ 2), (0, u "java/lang/Cloneable"), (0, .class_ 4), (0, u "java/lang/Object")] 2

/-- java/lang/Cloneable -/
def k7 : Class := { plain "java/lang/Cloneable" (some 0) with
  accessFlags := 1537
  interfaces := #[]
  cf := some (fileOf pool7 1 #[] #[] 1537 3 #[] #[])
  fields := #[]
  methods := #[]
  instanceTypes := #[]
  staticTypes := #[]
  resolved := Array.replicate 7 none
  statics := none }

/-- the primitive byte -/
def k8 : Class := { plain "byte" none with kind := .primitive 'B', accessFlags := 0x411 }
/-- [B -/
def k9 : Class := { plain "[B" (some 0) with kind := .array 8 .byte, interfaces := #[7, 4], accessFlags := 1041 }

/-- the primitive int -/
def k10 : Class := { plain "int" none with kind := .primitive 'I', accessFlags := 0x411 }
/-- [I -/
def k11 : Class := { plain "[I" (some 0) with kind := .array 10 .int, interfaces := #[7, 4], accessFlags := 1041 }

/-- [Lcom/example/concordat/concordat/log/LogRecord$Kind; -/
def k12 : Class := { plain "[Lcom/example/concordat/concordat/log/LogRecord$Kind;" (some 0) with kind := .array 6 (.object "com/example/concordat/concordat/log/LogRecord$Kind"), interfaces := #[7, 4], accessFlags := 1041 }

def heap : Heap := #[{ cls := 6, slots := #[.ref 2, .ref 3, .ref 4, .ref 5, .ref 6, .ref 7, .ref 8, .ref 9, .ref 10, .ref 11, .ref 1], vm := .statics 6 },
  { cls := 12, slots := #[.ref 2, .ref 3, .ref 4, .ref 5, .ref 6, .ref 7, .ref 8, .ref 9, .ref 10, .ref 11], vm := .none },
  { cls := 6, slots := #[.null, .int 0, .int 0, .int 1, .int 0, .int 0, .int 0], vm := .none },
  { cls := 6, slots := #[.null, .int 1, .int 0, .int 2, .int 0, .int 0, .int 0], vm := .none },
  { cls := 6, slots := #[.null, .int 2, .int 0, .int 3, .int 0, .int 0, .int 0], vm := .none },
  { cls := 6, slots := #[.null, .int 3, .int 0, .int 4, .int 0, .int 0, .int 0], vm := .none },
  { cls := 6, slots := #[.null, .int 4, .int 0, .int 5, .int 0, .int 0, .int 0], vm := .none },
  { cls := 6, slots := #[.null, .int 5, .int 0, .int 6, .int 0, .int 0, .int 0], vm := .none },
  { cls := 6, slots := #[.null, .int 6, .int 0, .int 7, .int 0, .int 0, .int 0], vm := .none },
  { cls := 6, slots := #[.null, .int 7, .int 0, .int 8, .int 0, .int 0, .int 0], vm := .none },
  { cls := 6, slots := #[.null, .int 8, .int 0, .int 9, .int 0, .int 0, .int 0], vm := .none },
  { cls := 6, slots := #[.null, .int 9, .int 0, .int 10, .int 0, .int 0, .int 0], vm := .none }]
def classes : Array Class := #[k0, k1, k2, k3, k4, k5, k6, k7, k8, k9, k10, k11, k12]
def interned : List (Array UInt16 × Addr) := []
def slotsUsed : Nat := 91
def theMethod : MethodId := ⟨1, 2⟩
def args0 : Array Value := #[.int 5]
def aboutOver (below : List Frame) : State where
  vm := { classes := classes, interned := interned.toArray }
  heap := heap
  slotsUsed := slotsUsed
  threads := #[{ frames := .invoking theMethod args0 :: below }]
def below0 : List Frame := [.native { method := ⟨0, 0⟩, args := #[] }]
def about1 : State := aboutOver below0
def p0 : Program := .bare "" "" ""
def e0 : Env := launch0.env 0 0 0
theorem w_frames : about1.frames = Frame.invoking theMethod args0 :: below0 := rfl
set_option maxRecDepth 65536 in
theorem w_args : argsFit about1.vm theMethod args0 = true := by decide +kernel
set_option maxRecDepth 65536 in
theorem w_heap : heapFits about1 = true := by decide +kernel
set_option maxRecDepth 65536 in
theorem w_runnable : about1.curStatus? = some .runnable := by decide +kernel
set_option maxRecDepth 65536 in
theorem w_alone : about1.alone = true := by decide +kernel
set_option maxRecDepth 65536 in
theorem w_named : about1.methodNamed? x = some theMethod := by decide +kernel
set_option maxRecDepth 65536 in
theorem w_hears : about1.hears theMethod below0 = true := by decide +kernel
set_option maxRecDepth 65536 in
theorem w_ripe : about1.ripe theMethod args0 below0 = true := by decide +kernel
theorem w_running : about1.status = .running := rfl
set_option maxRecDepth 65536 in
theorem w_room : about1.hasRoom e0.platform room_1 = true :=
  launch0.hasRoom_least _ room_1 (by decide +kernel) (by decide +kernel) (by decide +kernel) (by decide +kernel) (by decide +kernel) (by decide +kernel)
theorem allAtoms_all (ts : List Jvm.Cond) (a : Array Jvm.Value) (st : Jvm.State) : (allAtoms ts).before a st = ts.all (fun c => c.before a st) := by
  induction ts with
  | nil => rfl
  | cons c t ih =>
    show (Jvm.Cond.and c (allAtoms t)).before a st = _
    rw [Jvm.Cond.before_and, ih, List.all_cons]
def words1 : List Jvm.Cond := Jvm.Cond.code x code maxLocals ret :: tables_1
/-- a 'code' word, met by the world's own term for the bytes: nothing is compared byte by byte -/
theorem code_word {y : MethodName} {bytes : ByteArray} {mx : Nat} {rt : Option FieldType} {a : Array Value} {s : State} {m : MethodId} {meth : Method} {c : Code} (h1 : s.methodNamed? y = some m) (h2 : s.vm.method? m = some meth) (h3 : meth.code = some c) (h4 : c.code = bytes)
    (h5 : (c.maxLocals == mx && c.exceptionTable.isEmpty && decide (c.maxStack ≤ mostOperands) && decide (meth.sig.returnType = rt) && !meth.locks && decide (parseMethodDescriptor y.desc = some meth.sig)) = true) : (Jvm.Cond.code y bytes mx rt).before a s = true := by
  simp only [Bool.and_eq_true, beq_iff_eq, Bool.not_eq_true', decide_eq_true_eq] at h5
  obtain ⟨⟨⟨⟨⟨g1, g2⟩, g3⟩, g4⟩, g5⟩, g6⟩ := h5
  simp [Cond.before, Cond.holds, Cond.value, h1, h2, h3, h4, g1, g2, g3, g4, g5, g6]
def isCode : Jvm.Cond → Bool
  | .code _ _ _ _ => true
  | _ => false
theorem all_split {L : List Jvm.Cond} {P : Jvm.Cond → Bool} (h1 : L.all (fun c => isCode c || P c) = true) (h2 : ∀ c ∈ L.filter isCode, P c = true) : L.all P = true := by
  refine List.all_eq_true.mpr fun c hc => ?_
  have h := List.all_eq_true.mp h1 c hc
  rcases Bool.eq_false_or_eq_true (isCode c) with hi | hi
  · exact h2 c (List.mem_filter.mpr ⟨hc, hi⟩)
  · simpa [hi] using h
set_option maxRecDepth 65536 in
theorem w_c0 : (Jvm.Cond.code x code maxLocals ret).before args0 about1 = true := code_word (m := ⟨1, 2⟩) (meth := k1m2) (c := k1c2) (by decide +kernel) rfl rfl rfl (by decide +kernel)
set_option maxRecDepth 65536 in
theorem w_c1 : (Jvm.Cond.code ({ cls := "com/example/concordat/concordat/log/LogRecord$Kind", name := "of", desc := "(B)Lcom/example/concordat/concordat/log/LogRecord$Kind;" } : Jvm.MethodName) prog_45_method_4_code (5 : Nat) (Option.some (Jvm.ClassFile.FieldType.object "com/example/concordat/concordat/log/LogRecord$Kind"))).before args0 about1 = true := code_word (m := ⟨6, 1⟩) (meth := k6m1) (c := k6c1) (by decide +kernel) rfl rfl rfl (by decide +kernel)
set_option maxRecDepth 65536 in
theorem w_c2 : (Jvm.Cond.code ({ cls := "com/example/concordat/concordat/log/LogRecord$Kind", name := "values", desc := "()[Lcom/example/concordat/concordat/log/LogRecord$Kind;" } : Jvm.MethodName) prog_45_method_1_code (0 : Nat) (Option.some (Jvm.ClassFile.FieldType.array (Jvm.ClassFile.FieldType.object "com/example/concordat/concordat/log/LogRecord$Kind")))).before args0 about1 = true := code_word (m := ⟨6, 0⟩) (meth := k6m0) (c := k6c0) (by decide +kernel) rfl rfl rfl (by decide +kernel)
set_option maxRecDepth 65536 in
theorem w_c3 : (Jvm.Cond.code ({ cls := "com/example/concordat/concordat/log/KindOfPinLaw", name := "expected", desc := "(B)Lcom/example/concordat/concordat/log/LogRecord$Kind;" } : Jvm.MethodName) method_2_code (1 : Nat) (Option.some (Jvm.ClassFile.FieldType.object "com/example/concordat/concordat/log/LogRecord$Kind"))).before args0 about1 = true := code_word (m := ⟨1, 1⟩) (meth := k1m1) (c := k1c1) (by decide +kernel) rfl rfl rfl (by decide +kernel)
def codes1 : List Jvm.Cond := [Jvm.Cond.code x code maxLocals ret, Jvm.Cond.code ({ cls := "com/example/concordat/concordat/log/LogRecord$Kind", name := "of", desc := "(B)Lcom/example/concordat/concordat/log/LogRecord$Kind;" } : Jvm.MethodName) prog_45_method_4_code (5 : Nat) (Option.some (Jvm.ClassFile.FieldType.object "com/example/concordat/concordat/log/LogRecord$Kind")), Jvm.Cond.code ({ cls := "com/example/concordat/concordat/log/LogRecord$Kind", name := "values", desc := "()[Lcom/example/concordat/concordat/log/LogRecord$Kind;" } : Jvm.MethodName) prog_45_method_1_code (0 : Nat) (Option.some (Jvm.ClassFile.FieldType.array (Jvm.ClassFile.FieldType.object "com/example/concordat/concordat/log/LogRecord$Kind"))), Jvm.Cond.code ({ cls := "com/example/concordat/concordat/log/KindOfPinLaw", name := "expected", desc := "(B)Lcom/example/concordat/concordat/log/LogRecord$Kind;" } : Jvm.MethodName) method_2_code (1 : Nat) (Option.some (Jvm.ClassFile.FieldType.object "com/example/concordat/concordat/log/LogRecord$Kind"))]
set_option maxRecDepth 65536 in
theorem codes_eq : words1.filter isCode = codes1 := rfl
theorem w_codes : ∀ c ∈ words1.filter isCode, c.before args0 about1 = true := by
  rw [codes_eq]
  intro c hc
  simp only [codes1, List.mem_cons, List.not_mem_nil, or_false] at hc
  rcases hc with rfl | rfl | rfl | rfl
  · exact w_c0
  · exact w_c1
  · exact w_c2
  · exact w_c3
set_option maxRecDepth 65536 in
theorem w_t1 : (words1.take 24).all (fun c => isCode c || c.before args0 about1) = true := by decide +kernel
set_option maxRecDepth 65536 in
theorem w_t2 : (words1.drop 24).all (fun c => isCode c || c.before args0 about1) = true := by decide +kernel
theorem w_tables : (allAtoms (Jvm.Cond.code x code maxLocals ret :: tables_1)).before args0 about1 = true := by
  rw [allAtoms_all]
  show words1.all (fun c => c.before args0 about1) = true
  refine all_split ?_ w_codes
  rw [← List.take_append_drop 24 words1, List.all_append, w_t1, w_t2]
  rfl
set_option maxRecDepth 65536 in
theorem w_case : (Jvm.Cond.and given_1 narrow_1).before args0 about1 = true := by decide +kernel
theorem w_applies : (headSpec (Jvm.Cond.code x code maxLocals ret :: tables_1) room_1).applies x e0.platform about1 = true :=
  (Spec.applies_iff w_frames).mpr ⟨w_running, w_runnable, w_alone, w_named, w_hears, w_ripe, w_room, w_tables⟩
theorem atStart : AtStart classFile x code maxLocals ret World_1 tables_1 room_1 Calls_1 rest_1 Pre_1 launch0 p0 e0 about1 theMethod args0 below0 :=
  ⟨lists_1, trivial, launch0.admits_env _ _ _, launch0.least_env, fairChoices_fair.cas, fairChoices_fair.clock, w_frames, w_args, w_heap, w_applies, trivial, trivial, w_case⟩
end start1
theorem witness_1 : WitnessClaimed_1 := ⟨start1.p0, start1.e0, start1.about1, start1.theMethod, start1.args0, start1.below0, start1.atStart⟩
end Jvm.Pilot.@@N@@
