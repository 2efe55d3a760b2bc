import JvmDerived
import JvmDerived.Pilot.@@N@@Statement
import JvmDerived.Pilot.@@N@@Code
set_option linter.unusedVariables false
set_option linter.unusedSimpArgs false
@@BLOCK:NumsL.lean.txt@@
namespace Jvm.RoadKit
open Sem ClassFile Op Lib Jvm.Stand Jvm.Free Jvm.LawKit
section New
variable {p : Program} {l : Launch} {e : Env} {R : Room} {s : State} {m : MethodId} {args : Array Value} {below : List Frame} {meth : Method} {c : Code} {T : State} {locs : List Loc} {cells slots : Nat}
theorem retI (X : Stand p l e R s m args below meth c T locs cells slots) (hx : p.tables.exec = Jvm.exec) {pc : Nat} {Ls : Array Slot} {z : Int32} {rest : List Value} (hret : meth.sig.returnType = some .int) (hd : decode c.code pc = .ok (.ireturn, 1)) {fs : List Frame}
    (hl : ∀ (f : JFrame) (acts : List Action), f.method = m → f.locked = none → f.entered = [] → (doReturn e (T.setTop f) acts (some (.int z))).1 = T.setFrames fs) : Steps p.tables e below (T.setTop (mkF m pc Ls (.int z :: rest))) (T.setFrames fs) := by
  have hm' : T.vm.method? m = some meth := X.method'
  have hn : narrow .int (.int z) = .int z := rfl
  show Steps p.tables e below (T.setTop { method := m, pc := pc, locals := Ls, stack := _ :: rest, locked := none }) _
  jvm_step X.here [X.here.top, hx, hd, hm', hret, hn]
  first | (intro acts; rw [hl _ acts rfl rfl rfl]) | rw [hl _ _ rfl rfl rfl]
  exact Steps.refl _
end New
end Jvm.RoadKit
namespace Jvm.Pilot.@@N@@
open Jvm Jvm.ClassFile Sem Op Lib Jvm.Free Jvm.Stand Jvm.LawKit Jvm.RoadKit Bundle Jvm.Pilot.@@N@@.Jvm.D

/-- what an enum constant's ordinal says: the word of the sheet as a fact on the field -/
theorem own_fld {t : Term} {C n d : String} {i : Int32} {a : Addr} {args : Array Value} {Z : State} (h : (Jvm.Cond.eq (.field t C n d) (.int i)).value args Z none Z [] = some true) (ht : t.eval args Z none [] Z = some (.ref a)) : Z.fieldOf? a C n d = some (.int i) := (fld_at ht).symm.trans (eqv_i (F := .int i) rfl h)
theorem own_fldL {t : Term} {C n d : String} {i : Int64} {a : Addr} {args : Array Value} {Z : State} (h : (Jvm.Cond.eq (.field t C n d) (.long i)).value args Z none Z [] = some true) (ht : t.eval args Z none [] Z = some (.ref a)) : Z.fieldOf? a C n d = some (.long i) := (fld_at ht).symm.trans (eqv_l (F := .long i) rfl h)
theorem own_ne {C n d : String} {i j : Int32} {a b : Addr} {Z : State} (h1 : Z.fieldOf? a C n d = some (.int i)) (h2 : Z.fieldOf? b C n d = some (.int j)) (hn : i ≠ j) : ¬ a = b := fun e => hn (Value.int.inj (Option.some.inj (h1.symm.trans (e ▸ h2))))

theorem own_k (x : Int32) : (x &&& 3) = 0 ∨ (x &&& 3) = 1 ∨ (x &&& 3) = 2 ∨ (x &&& 3) = 3 := by
  have e1 : (x &&& 3).toInt = x.toInt % 2 ^ 2 := Jvm.Kit.i32_mask x 3 (by decide) (by decide)
  have e3 : (x &&& 3).toInt = 0 ∨ (x &&& 3).toInt = 1 ∨ (x &&& 3).toInt = 2 ∨ (x &&& 3).toInt = 3 := by omega
  generalize (x &&& 3) = k at e3 ⊢
  simp only [← Int32.toInt_inj]
  exact e3
theorem d6_0 : decode jdk_29_method_61_code 0 = .ok (.lload_n 0, 1) := by decide +kernel
theorem d6_1 : decode jdk_29_method_61_code 1 = .ok (.lconst 0, 1) := by decide +kernel
theorem d6_2 : decode jdk_29_method_61_code 2 = .ok (.lcmp, 1) := by decide +kernel
theorem d6_3 : decode jdk_29_method_61_code 3 = .ok (.ifCond .ge 8, 3) := by decide +kernel
theorem d6_6 : decode jdk_29_method_61_code 6 = .ok (.lload_n 0, 1) := by decide +kernel
theorem d6_7 : decode jdk_29_method_61_code 7 = .ok (.lneg, 1) := by decide +kernel
theorem d6_8 : decode jdk_29_method_61_code 8 = .ok (.goto 4, 3) := by decide +kernel
theorem d6_11 : decode jdk_29_method_61_code 11 = .ok (.lload_n 0, 1) := by decide +kernel
theorem d6_12 : decode jdk_29_method_61_code 12 = .ok (.lreturn, 1) := by decide +kernel
theorem ef_6 (m : MethodId) (x0 : Int64) : entryFrame m #[(.long x0)] 2 = mkF m 0 #[.val (.long x0), .second] [] := by first | (simp [entryFrame, mkF, argsToLocals, Value.category]; done) | rfl
def Q6 (Z : State) (q1 : Int64) (h0 : Heap) (n0 : Nat) (v : Option Value) (h : Heap) (L : List Loc) : Prop := v = some (.long q1) ∧ Fr n0 L ∧ h = h0
set_option maxRecDepth 65536 in
set_option maxHeartbeats 40000000 in
theorem rm6 (l : Launch) (Z : State) (a0 : Array Value) (hw : ∀ d ∈ tables_1, d.before a0 Z = true) (ws : List Jvm.Cond) (q1 : Int64) (h0 : Heap) (n0 : Nat) (Z0 : n0 ≤ h0.size) (ha : ¬ (lcmpW q1 (0 : Int64)) < (0 : Int32)) :
    MetFree l (⟨"java/lang/Math", "abs", "(J)J"⟩ : MethodName) (head1 (Jvm.Cond.code (⟨"java/lang/Math", "abs", "(J)J"⟩ : MethodName) jdk_29_method_61_code 2 (some .long) :: ws) ({ frames := 0, cells := 0, slots := 0, locals := 0 } : Room)) (fun a U => a = #[(.long q1)] ∧ Z.Warmed39 U.vm ∧ U.heap = h0) (fun _ _ _ _ _ => True) (fun _ U o U' => ∃ v L, o = .returned v ∧ Q6 Z q1 h0 n0 v U'.heap L ∧ FrameEnd U o U' L ({ frames := 0, cells := 0, slots := 0, locals := 0 } : Room).cells ({ frames := 0, cells := 0, slots := 0, locals := 0 } : Room).slots) := by
  refine MetFree.of_bodySF (Jvm.Free.JP.mathPlain rfl (by decide +kernel)) hisR ?_
  intro p e s m args below meth c s₁ Bd hml0 hP hK
  obtain ⟨rfl, hZ, hh⟩ := hP
  have hx := Bd.exec
  have hby := Bd.bytes
  have hml : c.maxLocals = 2 := hml0
  have hown : s.vm.findClass "java/lang/Math" = some m.cls := findClass_of_methodNamed Bd.named
  have hnm := (name_of_methodNamed Bd.named Bd.method).1
  have X0 : Stand p l e ({ frames := 0, cells := 0, slots := 0, locals := 0 } : Room) s m #[(.long q1)] below meth c s₁ [] 0 0 := Stand.of_body Bd
  have e0 : s₁.heap = h0 := by rw [← hh, Bd.state]; rfl
  have N0 := Fr.nil n0
  have pre0 : ∀ t, Steps p.tables e below (s₁.setTop (mkF m 0 #[.val (.long q1), .second] [])) t → Steps p.tables e below (s₁.setTop (entryFrame m #[(.long q1)] 2)) t := fun t k => castTop (ef_6 m q1) k
  obtain ⟨fs, hr, hrun, hended, hW, hsame⟩ := X0.leave (v := some (.long q1)) (fun h => by rw [Bd.returns] at h; cases h)
  refine ⟨_, _, pre0 _ ?_, hrun, hended, _, _, rfl, ?_, ⟨_, rfl⟩, hW, hsame.mono (by decide) (by decide)⟩
  · show Steps p.tables e below (s₁.setTop (mkF m 0 #[.val (.long q1), .second] [])) _
    refine XS.lloadN X0.here hx rfl (hb hby d6_0) rfl ?_
    show Steps p.tables e below (s₁.setTop (mkF m 1 #[.val (.long q1), .second] [(.long q1)])) _
    refine XS.lconst X0.here hx rfl (hb hby d6_1) ?_
    show Steps p.tables e below (s₁.setTop (mkF m 2 #[.val (.long q1), .second] [(.long (0 : Int64)), (.long q1)])) _
    refine XS.lcmp X0.here hx rfl (hb hby d6_2) rfl ?_
    show Steps p.tables e below (s₁.setTop (mkF m 3 #[.val (.long q1), .second] [(.int (lcmpW q1 (0 : Int64)))])) _
    refine XS.ifYes X0.here hx rfl (pc0 := 3) (pc' := 11) rfl (hb hby d6_3) rfl ((if0 _ _).trans (flt ha).2.1) (by decide) (by decide) ?_
    show Steps p.tables e below (s₁.setTop (mkF m 11 #[.val (.long q1), .second] [])) _
    refine XS.lloadN X0.here hx rfl (hb hby d6_11) rfl ?_
    show Steps p.tables e below (s₁.setTop (mkF m 12 #[.val (.long q1), .second] [(.long q1)])) _
    exact X0.lreturnOut hx Bd.returns (hb hby d6_12) hr
  · show Q6 Z q1 h0 n0 _ s₁.heap _
    rw [e0]
    exact ⟨rfl, N0, rfl⟩
theorem pd_0 : parseMethodDescriptor "(J)J" = some ⟨[.long], some .long⟩ := by decide +kernel
theorem d5_0 : decode jdk_29_method_30_code 0 = .ok (.lload_n 0, 1) := by decide +kernel
theorem d5_1 : decode jdk_29_method_30_code 1 = .ok (.lload_n 2, 1) := by decide +kernel
theorem d5_2 : decode jdk_29_method_30_code 2 = .ok (.lmul, 1) := by decide +kernel
theorem d5_3 : decode jdk_29_method_30_code 3 = .ok (.lstore 4, 2) := by decide +kernel
theorem d5_5 : decode jdk_29_method_30_code 5 = .ok (.lload_n 0, 1) := by decide +kernel
theorem d5_6 : decode jdk_29_method_30_code 6 = .ok (.invokestatic 122, 3) := by decide +kernel
theorem d5_9 : decode jdk_29_method_30_code 9 = .ok (.lstore 6, 2) := by decide +kernel
theorem d5_11 : decode jdk_29_method_30_code 11 = .ok (.lload_n 2, 1) := by decide +kernel
theorem d5_12 : decode jdk_29_method_30_code 12 = .ok (.invokestatic 122, 3) := by decide +kernel
theorem d5_15 : decode jdk_29_method_30_code 15 = .ok (.lstore 8, 2) := by decide +kernel
theorem d5_17 : decode jdk_29_method_30_code 17 = .ok (.lload 6, 2) := by decide +kernel
theorem d5_19 : decode jdk_29_method_30_code 19 = .ok (.lload 8, 2) := by decide +kernel
theorem d5_21 : decode jdk_29_method_30_code 21 = .ok (.lor, 1) := by decide +kernel
theorem d5_22 : decode jdk_29_method_30_code 22 = .ok (.bipush 31, 2) := by decide +kernel
theorem d5_24 : decode jdk_29_method_30_code 24 = .ok (.lushr, 1) := by decide +kernel
theorem d5_25 : decode jdk_29_method_30_code 25 = .ok (.lconst 0, 1) := by decide +kernel
theorem d5_26 : decode jdk_29_method_30_code 26 = .ok (.lcmp, 1) := by decide +kernel
theorem d5_27 : decode jdk_29_method_30_code 27 = .ok (.ifCond .eq 44, 3) := by decide +kernel
theorem d5_30 : decode jdk_29_method_30_code 30 = .ok (.lload_n 2, 1) := by decide +kernel
theorem d5_31 : decode jdk_29_method_30_code 31 = .ok (.lconst 0, 1) := by decide +kernel
theorem d5_32 : decode jdk_29_method_30_code 32 = .ok (.lcmp, 1) := by decide +kernel
theorem d5_33 : decode jdk_29_method_30_code 33 = .ok (.ifCond .eq 12, 3) := by decide +kernel
theorem d5_36 : decode jdk_29_method_30_code 36 = .ok (.lload 4, 2) := by decide +kernel
theorem d5_38 : decode jdk_29_method_30_code 38 = .ok (.lload_n 2, 1) := by decide +kernel
theorem d5_39 : decode jdk_29_method_30_code 39 = .ok (.ldiv, 1) := by decide +kernel
theorem d5_40 : decode jdk_29_method_30_code 40 = .ok (.lload_n 0, 1) := by decide +kernel
theorem d5_41 : decode jdk_29_method_30_code 41 = .ok (.lcmp, 1) := by decide +kernel
theorem d5_42 : decode jdk_29_method_30_code 42 = .ok (.ifCond .ne 19, 3) := by decide +kernel
theorem d5_45 : decode jdk_29_method_30_code 45 = .ok (.lload_n 0, 1) := by decide +kernel
theorem d5_46 : decode jdk_29_method_30_code 46 = .ok (.ldc2_w 128, 3) := by decide +kernel
theorem d5_49 : decode jdk_29_method_30_code 49 = .ok (.lcmp, 1) := by decide +kernel
theorem d5_50 : decode jdk_29_method_30_code 50 = .ok (.ifCond .ne 21, 3) := by decide +kernel
theorem d5_53 : decode jdk_29_method_30_code 53 = .ok (.lload_n 2, 1) := by decide +kernel
theorem d5_54 : decode jdk_29_method_30_code 54 = .ok (.ldc2_w 130, 3) := by decide +kernel
theorem d5_57 : decode jdk_29_method_30_code 57 = .ok (.lcmp, 1) := by decide +kernel
theorem d5_58 : decode jdk_29_method_30_code 58 = .ok (.ifCond .ne 13, 3) := by decide +kernel
theorem d5_61 : decode jdk_29_method_30_code 61 = .ok (.new 109, 3) := by decide +kernel
theorem d5_64 : decode jdk_29_method_30_code 64 = .ok (.dup, 1) := by decide +kernel
theorem d5_65 : decode jdk_29_method_30_code 65 = .ok (.ldc 116, 2) := by decide +kernel
theorem d5_67 : decode jdk_29_method_30_code 67 = .ok (.invokespecial 113, 3) := by decide +kernel
theorem d5_70 : decode jdk_29_method_30_code 70 = .ok (.athrow, 1) := by decide +kernel
theorem d5_71 : decode jdk_29_method_30_code 71 = .ok (.lload 4, 2) := by decide +kernel
theorem d5_73 : decode jdk_29_method_30_code 73 = .ok (.lreturn, 1) := by decide +kernel
theorem ef_5 (m : MethodId) (x0 : Int64) (x1 : Int64) : entryFrame m #[(.long x0), (.long x1)] 10 = mkF m 0 #[.val (.long x0), .second, .val (.long x1), .second, .unset, .unset, .unset, .unset, .unset, .unset] [] := by first | (simp [entryFrame, mkF, argsToLocals, Value.category]; done) | rfl
def Q5_0 (Z : State)  (h0 : Heap) (n0 : Nat) (v : Option Value) (h : Heap) (L : List Loc) : Prop := v = some (.long (1000 : Int64)) ∧ Fr n0 L ∧ h = h0
set_option maxRecDepth 65536 in
set_option maxHeartbeats 40000000 in
theorem rm5_0 (l : Launch) (Z : State) (a0 : Array Value) (hw : ∀ d ∈ tables_1, d.before a0 Z = true) (ws : List Jvm.Cond)  (h0 : Heap) (n0 : Nat) (Z0 : n0 ≤ h0.size) :
    MetFree l (⟨"java/lang/Math", "multiplyExact", "(JJ)J"⟩ : MethodName) (head1 (Jvm.Cond.code (⟨"java/lang/Math", "multiplyExact", "(JJ)J"⟩ : MethodName) jdk_29_method_30_code 10 (some .long) :: ws) ({ frames := 1, cells := 0, slots := 0, locals := 13 } : Room)) (fun a U => a = #[(.long (1 : Int64)), (.long (1000 : Int64))] ∧ Z.Warmed39 U.vm ∧ U.heap = h0) (fun _ _ _ _ _ => True) (fun _ U o U' => ∃ v L, o = .returned v ∧ Q5_0 Z  h0 n0 v U'.heap L ∧ FrameEnd U o U' L ({ frames := 1, cells := 0, slots := 0, locals := 13 } : Room).cells ({ frames := 1, cells := 0, slots := 0, locals := 13 } : Room).slots) := by
  refine MetFree.of_bodySF (Jvm.Free.JP.mathPlain rfl (by decide +kernel)) hisR ?_
  intro p e s m args below meth c s₁ Bd hml0 hP hK
  obtain ⟨rfl, hZ, hh⟩ := hP
  have hx := Bd.exec
  have hby := Bd.bytes
  have hml : c.maxLocals = 10 := hml0
  have hown : s.vm.findClass "java/lang/Math" = some m.cls := findClass_of_methodNamed Bd.named
  have hnm := (name_of_methodNamed Bd.named Bd.method).1
  have X0 : Stand p l e ({ frames := 1, cells := 0, slots := 0, locals := 13 } : Room) s m #[(.long (1 : Int64)), (.long (1000 : Int64))] below meth c s₁ [] 0 0 := Stand.of_body Bd
  have e0 : s₁.heap = h0 := by rw [← hh, Bd.state]; rfl
  have N0 := Fr.nil n0
  have pre0 : ∀ t, Steps p.tables e below (s₁.setTop (mkF m 0 #[.val (.long (1 : Int64)), .second, .val (.long (1000 : Int64)), .second, .unset, .unset, .unset, .unset, .unset, .unset] [])) t → Steps p.tables e below (s₁.setTop (entryFrame m #[(.long (1 : Int64)), (.long (1000 : Int64))] 10)) t := fun t k => castTop (ef_5 m (1 : Int64) (1000 : Int64)) k
  obtain ⟨_, _, ⟨T1, L1, k1, n1⟩, -, X1, ⟨Lc1, hQ1, l1, y1, z1⟩, st1⟩ := Jvm.LawKit.callS X0 hx (y := (⟨"java/lang/Math", "abs", "(J)J"⟩ : MethodName)) hown (mvT hZ (hw _ (List.mem_of_getElem? (i := 34) rfl))) (mvT hZ (hw _ (List.mem_of_getElem? (i := 35) rfl))) (mvT hZ (hw _ (List.mem_of_getElem? (i := 29) rfl))) (mvT hZ (hw _ (List.mem_of_getElem? (i := 36) rfl))) (by decide) (backOf (W := 0) (rm6 l Z a0 hw [] (1 : Int64) h0 n0 Z0 (by decide +kernel)) hZ (hw _ (List.mem_of_getElem? (i := 36) rfl)) (hw _ (List.mem_of_getElem? (i := 29) rfl)) (by decide) (by decide)) (g := (mkF m 6 #[.val (.long (1 : Int64)), .second, .val (.long (1000 : Int64)), .second, .val (.long ((1 : Int64) * (1000 : Int64))), .second, .unset, .unset, .unset, .unset] [(.long (1 : Int64))])) rfl (by rw [hml]; rfl) (argsL := [(.long (1 : Int64))]) (rest := []) (lenOf pd_0 rfl) rfl (by show 2 * 0 + _ ≤ _; exact Nat.le_of_eq rfl) (hb hby d5_6) (fun _ _ => ⟨rfl, e0, (by decide : 0 + 0 ≤ _), (by decide : 0 + 0 ≤ _)⟩)
  dsimp only [Pt.U, Pt.locs, Pt.cells, Pt.slots] at X1 l1 y1 z1 st1 hQ1
  subst l1 y1 z1
  obtain ⟨rfl, N1q, eq1⟩ := hQ1
  have N1 := Fr.app N0 N1q
  obtain ⟨_, _, ⟨T2, L2, k2, n2⟩, -, X2, ⟨Lc2, hQ2, l2, y2, z2⟩, st2⟩ := Jvm.LawKit.callS X1 hx (y := (⟨"java/lang/Math", "abs", "(J)J"⟩ : MethodName)) hown (mvT hZ (hw _ (List.mem_of_getElem? (i := 34) rfl))) (mvT hZ (hw _ (List.mem_of_getElem? (i := 35) rfl))) (mvT hZ (hw _ (List.mem_of_getElem? (i := 29) rfl))) (mvT hZ (hw _ (List.mem_of_getElem? (i := 36) rfl))) (by decide) (backOf (W := 0) (rm6 l Z a0 hw [] (1000 : Int64) h0 n0 Z0 (by decide +kernel)) hZ (hw _ (List.mem_of_getElem? (i := 36) rfl)) (hw _ (List.mem_of_getElem? (i := 29) rfl)) (by decide) (by decide)) (g := (mkF m 12 #[.val (.long (1 : Int64)), .second, .val (.long (1000 : Int64)), .second, .val (.long ((1 : Int64) * (1000 : Int64))), .second, .val (.long (1 : Int64)), .second, .unset, .unset] [(.long (1000 : Int64))])) rfl (by rw [hml]; rfl) (argsL := [(.long (1000 : Int64))]) (rest := []) (lenOf pd_0 rfl) rfl (by show 2 * 0 + _ ≤ _; exact Nat.le_of_eq rfl) (hb hby d5_12) (fun _ _ => ⟨rfl, eq1, (by decide : 0 + 0 ≤ _), (by decide : 0 + 0 ≤ _)⟩)
  dsimp only [Pt.U, Pt.locs, Pt.cells, Pt.slots] at X2 l2 y2 z2 st2 hQ2
  subst l2 y2 z2
  obtain ⟨rfl, N2q, eq2⟩ := hQ2
  have N2 := Fr.app N1 N2q
  obtain ⟨fs, hr, hrun, hended, hW, hsame⟩ := X2.leave (v := some (.long ((1 : Int64) * (1000 : Int64)))) (fun h => by rw [Bd.returns] at h; cases h)
  refine ⟨_, _, pre0 _ ?_, hrun, hended, _, _, rfl, ?_, ⟨_, rfl⟩, hW, hsame.mono (by decide) (by decide)⟩
  · show Steps p.tables e below (s₁.setTop (mkF m 0 #[.val (.long (1 : Int64)), .second, .val (.long (1000 : Int64)), .second, .unset, .unset, .unset, .unset, .unset, .unset] [])) _
    refine XS.lloadN X0.here hx rfl (hb hby d5_0) rfl ?_
    show Steps p.tables e below (s₁.setTop (mkF m 1 #[.val (.long (1 : Int64)), .second, .val (.long (1000 : Int64)), .second, .unset, .unset, .unset, .unset, .unset, .unset] [(.long (1 : Int64))])) _
    refine XS.lloadN X0.here hx rfl (hb hby d5_1) rfl ?_
    show Steps p.tables e below (s₁.setTop (mkF m 2 #[.val (.long (1 : Int64)), .second, .val (.long (1000 : Int64)), .second, .unset, .unset, .unset, .unset, .unset, .unset] [(.long (1000 : Int64)), (.long (1 : Int64))])) _
    refine XS.lmul X0.here hx rfl (hb hby d5_2) rfl ?_
    show Steps p.tables e below (s₁.setTop (mkF m 3 #[.val (.long (1 : Int64)), .second, .val (.long (1000 : Int64)), .second, .unset, .unset, .unset, .unset, .unset, .unset] [(.long ((1 : Int64) * (1000 : Int64)))])) _
    refine XS.lstore X0.here hx rfl (hb hby d5_3) rfl (l' := #[.val (.long (1 : Int64)), .second, .val (.long (1000 : Int64)), .second, .val (.long ((1 : Int64) * (1000 : Int64))), .second, .unset, .unset, .unset, .unset]) rfl ?_
    show Steps p.tables e below (s₁.setTop (mkF m 5 #[.val (.long (1 : Int64)), .second, .val (.long (1000 : Int64)), .second, .val (.long ((1 : Int64) * (1000 : Int64))), .second, .unset, .unset, .unset, .unset] [])) _
    refine XS.lloadN X0.here hx rfl (hb hby d5_5) rfl ?_
    show Steps p.tables e below (s₁.setTop (mkF m 6 #[.val (.long (1 : Int64)), .second, .val (.long (1000 : Int64)), .second, .val (.long ((1 : Int64) * (1000 : Int64))), .second, .unset, .unset, .unset, .unset] [(.long (1 : Int64))])) _
    refine st1 _ ?_
    show Steps p.tables e below (T1.setTop (mkF m 9 #[.val (.long (1 : Int64)), .second, .val (.long (1000 : Int64)), .second, .val (.long ((1 : Int64) * (1000 : Int64))), .second, .unset, .unset, .unset, .unset] [(.long (1 : Int64))])) _
    refine XS.lstore X1.here hx rfl (hb hby d5_9) rfl (l' := #[.val (.long (1 : Int64)), .second, .val (.long (1000 : Int64)), .second, .val (.long ((1 : Int64) * (1000 : Int64))), .second, .val (.long (1 : Int64)), .second, .unset, .unset]) rfl ?_
    show Steps p.tables e below (T1.setTop (mkF m 11 #[.val (.long (1 : Int64)), .second, .val (.long (1000 : Int64)), .second, .val (.long ((1 : Int64) * (1000 : Int64))), .second, .val (.long (1 : Int64)), .second, .unset, .unset] [])) _
    refine XS.lloadN X1.here hx rfl (hb hby d5_11) rfl ?_
    show Steps p.tables e below (T1.setTop (mkF m 12 #[.val (.long (1 : Int64)), .second, .val (.long (1000 : Int64)), .second, .val (.long ((1 : Int64) * (1000 : Int64))), .second, .val (.long (1 : Int64)), .second, .unset, .unset] [(.long (1000 : Int64))])) _
    refine st2 _ ?_
    show Steps p.tables e below (T2.setTop (mkF m 15 #[.val (.long (1 : Int64)), .second, .val (.long (1000 : Int64)), .second, .val (.long ((1 : Int64) * (1000 : Int64))), .second, .val (.long (1 : Int64)), .second, .unset, .unset] [(.long (1000 : Int64))])) _
    refine XS.lstore X2.here hx rfl (hb hby d5_15) rfl (l' := #[.val (.long (1 : Int64)), .second, .val (.long (1000 : Int64)), .second, .val (.long ((1 : Int64) * (1000 : Int64))), .second, .val (.long (1 : Int64)), .second, .val (.long (1000 : Int64)), .second]) rfl ?_
    show Steps p.tables e below (T2.setTop (mkF m 17 #[.val (.long (1 : Int64)), .second, .val (.long (1000 : Int64)), .second, .val (.long ((1 : Int64) * (1000 : Int64))), .second, .val (.long (1 : Int64)), .second, .val (.long (1000 : Int64)), .second] [])) _
    refine XS.lload X2.here hx rfl (hb hby d5_17) rfl ?_
    show Steps p.tables e below (T2.setTop (mkF m 19 #[.val (.long (1 : Int64)), .second, .val (.long (1000 : Int64)), .second, .val (.long ((1 : Int64) * (1000 : Int64))), .second, .val (.long (1 : Int64)), .second, .val (.long (1000 : Int64)), .second] [(.long (1 : Int64))])) _
    refine XS.lload X2.here hx rfl (hb hby d5_19) rfl ?_
    show Steps p.tables e below (T2.setTop (mkF m 21 #[.val (.long (1 : Int64)), .second, .val (.long (1000 : Int64)), .second, .val (.long ((1 : Int64) * (1000 : Int64))), .second, .val (.long (1 : Int64)), .second, .val (.long (1000 : Int64)), .second] [(.long (1000 : Int64)), (.long (1 : Int64))])) _
    refine XS.lor X2.here hx rfl (hb hby d5_21) rfl ?_
    show Steps p.tables e below (T2.setTop (mkF m 22 #[.val (.long (1 : Int64)), .second, .val (.long (1000 : Int64)), .second, .val (.long ((1 : Int64) * (1000 : Int64))), .second, .val (.long (1 : Int64)), .second, .val (.long (1000 : Int64)), .second] [(.long ((1 : Int64) ||| (1000 : Int64)))])) _
    refine XS.bipush X2.here hx rfl (hb hby d5_22) ?_
    show Steps p.tables e below (T2.setTop (mkF m 24 #[.val (.long (1 : Int64)), .second, .val (.long (1000 : Int64)), .second, .val (.long ((1 : Int64) * (1000 : Int64))), .second, .val (.long (1 : Int64)), .second, .val (.long (1000 : Int64)), .second] [(.int (31 : Int32)), (.long ((1 : Int64) ||| (1000 : Int64)))])) _
    refine XS.lushr X2.here hx rfl (hb hby d5_24) rfl ?_
    show Steps p.tables e below (T2.setTop (mkF m 25 #[.val (.long (1 : Int64)), .second, .val (.long (1000 : Int64)), .second, .val (.long ((1 : Int64) * (1000 : Int64))), .second, .val (.long (1 : Int64)), .second, .val (.long (1000 : Int64)), .second] [(.long ((((1 : Int64) ||| (1000 : Int64)).toUInt64 >>> ((31 : Int32) &&& 0x3f).toInt64.toUInt64).toInt64))])) _
    refine XS.lconst X2.here hx rfl (hb hby d5_25) ?_
    show Steps p.tables e below (T2.setTop (mkF m 26 #[.val (.long (1 : Int64)), .second, .val (.long (1000 : Int64)), .second, .val (.long ((1 : Int64) * (1000 : Int64))), .second, .val (.long (1 : Int64)), .second, .val (.long (1000 : Int64)), .second] [(.long (0 : Int64)), (.long ((((1 : Int64) ||| (1000 : Int64)).toUInt64 >>> ((31 : Int32) &&& 0x3f).toInt64.toUInt64).toInt64))])) _
    refine XS.lcmp X2.here hx rfl (hb hby d5_26) rfl ?_
    show Steps p.tables e below (T2.setTop (mkF m 27 #[.val (.long (1 : Int64)), .second, .val (.long (1000 : Int64)), .second, .val (.long ((1 : Int64) * (1000 : Int64))), .second, .val (.long (1 : Int64)), .second, .val (.long (1000 : Int64)), .second] [(.int (lcmpW ((((1 : Int64) ||| (1000 : Int64)).toUInt64 >>> ((31 : Int32) &&& 0x3f).toInt64.toUInt64).toInt64) (0 : Int64)))])) _
    refine XS.ifYes X2.here hx rfl (pc0 := 27) (pc' := 71) rfl (hb hby d5_27) rfl ((if0 _ _).trans (teq (by decide +kernel)).1) (by decide) (by decide) ?_
    show Steps p.tables e below (T2.setTop (mkF m 71 #[.val (.long (1 : Int64)), .second, .val (.long (1000 : Int64)), .second, .val (.long ((1 : Int64) * (1000 : Int64))), .second, .val (.long (1 : Int64)), .second, .val (.long (1000 : Int64)), .second] [])) _
    refine XS.lload X2.here hx rfl (hb hby d5_71) rfl ?_
    show Steps p.tables e below (T2.setTop (mkF m 73 #[.val (.long (1 : Int64)), .second, .val (.long (1000 : Int64)), .second, .val (.long ((1 : Int64) * (1000 : Int64))), .second, .val (.long (1 : Int64)), .second, .val (.long (1000 : Int64)), .second] [(.long ((1 : Int64) * (1000 : Int64)))])) _
    exact X2.lreturnOut hx Bd.returns (hb hby d5_73) hr
  · show Q5_0 Z  h0 n0 _ T2.heap _
    rw [eq2]
    exact ⟨congrArg (fun z => some (Value.long z)) (by decide +kernel), N2, rfl⟩
theorem pd_1 : parseMethodDescriptor "(JJ)J" = some ⟨[.long, .long], some .long⟩ := by decide +kernel
theorem d4_0 : decode jdk_29_method_29_code 0 = .ok (.lload_n 0, 1) := by decide +kernel
theorem d4_1 : decode jdk_29_method_29_code 1 = .ok (.iload_n 2, 1) := by decide +kernel
theorem d4_2 : decode jdk_29_method_29_code 2 = .ok (.i2l, 1) := by decide +kernel
theorem d4_3 : decode jdk_29_method_29_code 3 = .ok (.invokestatic 118, 3) := by decide +kernel
theorem d4_6 : decode jdk_29_method_29_code 6 = .ok (.lreturn, 1) := by decide +kernel
theorem ef_4 (m : MethodId) (x0 : Int64) (x1 : Int32) : entryFrame m #[(.long x0), (.int x1)] 3 = mkF m 0 #[.val (.long x0), .second, .val (.int x1)] [] := by first | (simp [entryFrame, mkF, argsToLocals, Value.category]; done) | rfl
def Q4_0 (Z : State)  (h0 : Heap) (n0 : Nat) (v : Option Value) (h : Heap) (L : List Loc) : Prop := v = some (.long (1000 : Int64)) ∧ Fr n0 L ∧ h = h0
set_option maxRecDepth 65536 in
set_option maxHeartbeats 40000000 in
theorem rm4_0 (l : Launch) (Z : State) (a0 : Array Value) (hw : ∀ d ∈ tables_1, d.before a0 Z = true) (ws : List Jvm.Cond)  (h0 : Heap) (n0 : Nat) (Z0 : n0 ≤ h0.size) :
    MetFree l (⟨"java/lang/Math", "multiplyExact", "(JI)J"⟩ : MethodName) (head1 (Jvm.Cond.code (⟨"java/lang/Math", "multiplyExact", "(JI)J"⟩ : MethodName) jdk_29_method_29_code 3 (some .long) :: ws) ({ frames := 2, cells := 0, slots := 0, locals := 34 } : Room)) (fun a U => a = #[(.long (1 : Int64)), (.int (1000 : Int32))] ∧ Z.Warmed39 U.vm ∧ U.heap = h0) (fun _ _ _ _ _ => True) (fun _ U o U' => ∃ v L, o = .returned v ∧ Q4_0 Z  h0 n0 v U'.heap L ∧ FrameEnd U o U' L ({ frames := 2, cells := 0, slots := 0, locals := 34 } : Room).cells ({ frames := 2, cells := 0, slots := 0, locals := 34 } : Room).slots) := by
  refine MetFree.of_bodySF (Jvm.Free.JP.mathPlain rfl (by decide +kernel)) hisR ?_
  intro p e s m args below meth c s₁ Bd hml0 hP hK
  obtain ⟨rfl, hZ, hh⟩ := hP
  have hx := Bd.exec
  have hby := Bd.bytes
  have hml : c.maxLocals = 3 := hml0
  have hown : s.vm.findClass "java/lang/Math" = some m.cls := findClass_of_methodNamed Bd.named
  have hnm := (name_of_methodNamed Bd.named Bd.method).1
  have X0 : Stand p l e ({ frames := 2, cells := 0, slots := 0, locals := 34 } : Room) s m #[(.long (1 : Int64)), (.int (1000 : Int32))] below meth c s₁ [] 0 0 := Stand.of_body Bd
  have e0 : s₁.heap = h0 := by rw [← hh, Bd.state]; rfl
  have N0 := Fr.nil n0
  have pre0 : ∀ t, Steps p.tables e below (s₁.setTop (mkF m 0 #[.val (.long (1 : Int64)), .second, .val (.int (1000 : Int32))] [])) t → Steps p.tables e below (s₁.setTop (entryFrame m #[(.long (1 : Int64)), (.int (1000 : Int32))] 3)) t := fun t k => castTop (ef_4 m (1 : Int64) (1000 : Int32)) k
  obtain ⟨_, _, ⟨T1, L1, k1, n1⟩, -, X1, ⟨Lc1, hQ1, l1, y1, z1⟩, st1⟩ := Jvm.LawKit.callS X0 hx (y := (⟨"java/lang/Math", "multiplyExact", "(JJ)J"⟩ : MethodName)) hown (mvT hZ (hw _ (List.mem_of_getElem? (i := 31) rfl))) (mvT hZ (hw _ (List.mem_of_getElem? (i := 32) rfl))) (mvT hZ (hw _ (List.mem_of_getElem? (i := 29) rfl))) (mvT hZ (hw _ (List.mem_of_getElem? (i := 33) rfl))) (by decide) (backOf (W := 0) (rm5_0 l Z a0 hw [] h0 n0 Z0) hZ (hw _ (List.mem_of_getElem? (i := 33) rfl)) (hw _ (List.mem_of_getElem? (i := 29) rfl)) (by decide) (by decide)) (g := (mkF m 3 #[.val (.long (1 : Int64)), .second, .val (.int (1000 : Int32))] [(.long (1000 : Int64)), (.long (1 : Int64))])) rfl (by rw [hml]; rfl) (argsL := [(.long (1 : Int64)), (.long (1000 : Int64))]) (rest := []) (lenOf pd_1 rfl) rfl (by show 2 * 0 + _ ≤ _; exact Nat.le_of_eq rfl) (hb hby d4_3) (fun _ _ => ⟨rfl, e0, (by decide : 0 + 0 ≤ _), (by decide : 0 + 0 ≤ _)⟩)
  dsimp only [Pt.U, Pt.locs, Pt.cells, Pt.slots] at X1 l1 y1 z1 st1 hQ1
  subst l1 y1 z1
  obtain ⟨rfl, N1q, eq1⟩ := hQ1
  have N1 := Fr.app N0 N1q
  obtain ⟨fs, hr, hrun, hended, hW, hsame⟩ := X1.leave (v := some (.long (1000 : Int64))) (fun h => by rw [Bd.returns] at h; cases h)
  refine ⟨_, _, pre0 _ ?_, hrun, hended, _, _, rfl, ?_, ⟨_, rfl⟩, hW, hsame.mono (by decide) (by decide)⟩
  · show Steps p.tables e below (s₁.setTop (mkF m 0 #[.val (.long (1 : Int64)), .second, .val (.int (1000 : Int32))] [])) _
    refine XS.lloadN X0.here hx rfl (hb hby d4_0) rfl ?_
    show Steps p.tables e below (s₁.setTop (mkF m 1 #[.val (.long (1 : Int64)), .second, .val (.int (1000 : Int32))] [(.long (1 : Int64))])) _
    refine XS.iloadN X0.here hx rfl (hb hby d4_1) rfl ?_
    show Steps p.tables e below (s₁.setTop (mkF m 2 #[.val (.long (1 : Int64)), .second, .val (.int (1000 : Int32))] [(.int (1000 : Int32)), (.long (1 : Int64))])) _
    refine XS.i2l X0.here hx rfl (hb hby d4_2) rfl ?_
    show Steps p.tables e below (s₁.setTop (mkF m 3 #[.val (.long (1 : Int64)), .second, .val (.int (1000 : Int32))] [(.long ((1000 : Int32).toInt64)), (.long (1 : Int64))])) _
    rw [show ((1000 : Int32).toInt64) = (1000 : Int64) from by decide +kernel]
    show Steps p.tables e below (s₁.setTop (mkF m 3 #[.val (.long (1 : Int64)), .second, .val (.int (1000 : Int32))] [(.long (1000 : Int64)), (.long (1 : Int64))])) _
    refine st1 _ ?_
    show Steps p.tables e below (T1.setTop (mkF m 6 #[.val (.long (1 : Int64)), .second, .val (.int (1000 : Int32))] [(.long (1000 : Int64))])) _
    exact X1.lreturnOut hx Bd.returns (hb hby d4_6) hr
  · show Q4_0 Z  h0 n0 _ T1.heap _
    rw [eq1]
    exact ⟨rfl, N1, rfl⟩
theorem d7_0 : decode jdk_29_method_25_code 0 = .ok (.lload_n 0, 1) := by decide +kernel
theorem d7_1 : decode jdk_29_method_25_code 1 = .ok (.lload_n 2, 1) := by decide +kernel
theorem d7_2 : decode jdk_29_method_25_code 2 = .ok (.ladd, 1) := by decide +kernel
theorem d7_3 : decode jdk_29_method_25_code 3 = .ok (.lstore 4, 2) := by decide +kernel
theorem d7_5 : decode jdk_29_method_25_code 5 = .ok (.lload_n 0, 1) := by decide +kernel
theorem d7_6 : decode jdk_29_method_25_code 6 = .ok (.lload 4, 2) := by decide +kernel
theorem d7_8 : decode jdk_29_method_25_code 8 = .ok (.lxor, 1) := by decide +kernel
theorem d7_9 : decode jdk_29_method_25_code 9 = .ok (.lload_n 2, 1) := by decide +kernel
theorem d7_10 : decode jdk_29_method_25_code 10 = .ok (.lload 4, 2) := by decide +kernel
theorem d7_12 : decode jdk_29_method_25_code 12 = .ok (.lxor, 1) := by decide +kernel
theorem d7_13 : decode jdk_29_method_25_code 13 = .ok (.land, 1) := by decide +kernel
theorem d7_14 : decode jdk_29_method_25_code 14 = .ok (.lconst 0, 1) := by decide +kernel
theorem d7_15 : decode jdk_29_method_25_code 15 = .ok (.lcmp, 1) := by decide +kernel
theorem d7_16 : decode jdk_29_method_25_code 16 = .ok (.ifCond .ge 13, 3) := by decide +kernel
theorem d7_19 : decode jdk_29_method_25_code 19 = .ok (.new 109, 3) := by decide +kernel
theorem d7_22 : decode jdk_29_method_25_code 22 = .ok (.dup, 1) := by decide +kernel
theorem d7_23 : decode jdk_29_method_25_code 23 = .ok (.ldc 116, 2) := by decide +kernel
theorem d7_25 : decode jdk_29_method_25_code 25 = .ok (.invokespecial 113, 3) := by decide +kernel
theorem d7_28 : decode jdk_29_method_25_code 28 = .ok (.athrow, 1) := by decide +kernel
theorem d7_29 : decode jdk_29_method_25_code 29 = .ok (.lload 4, 2) := by decide +kernel
theorem d7_31 : decode jdk_29_method_25_code 31 = .ok (.lreturn, 1) := by decide +kernel
theorem ef_7 (m : MethodId) (x0 : Int64) (x1 : Int64) : entryFrame m #[(.long x0), (.long x1)] 6 = mkF m 0 #[.val (.long x0), .second, .val (.long x1), .second, .unset, .unset] [] := by first | (simp [entryFrame, mkF, argsToLocals, Value.category]; done) | rfl
def Q7_0 (Z : State)  (h0 : Heap) (n0 : Nat) (v : Option Value) (h : Heap) (L : List Loc) : Prop := v = some (.long (1000 : Int64)) ∧ Fr n0 L ∧ h = h0
set_option maxRecDepth 65536 in
set_option maxHeartbeats 40000000 in
theorem rm7_0 (l : Launch) (Z : State) (a0 : Array Value) (hw : ∀ d ∈ tables_1, d.before a0 Z = true) (ws : List Jvm.Cond)  (h0 : Heap) (n0 : Nat) (Z0 : n0 ≤ h0.size) :
    MetFree l (⟨"java/lang/Math", "addExact", "(JJ)J"⟩ : MethodName) (head1 (Jvm.Cond.code (⟨"java/lang/Math", "addExact", "(JJ)J"⟩ : MethodName) jdk_29_method_25_code 6 (some .long) :: ws) ({ frames := 0, cells := 0, slots := 0, locals := 0 } : Room)) (fun a U => a = #[(.long (1000 : Int64)), (.long (0 : Int64))] ∧ Z.Warmed39 U.vm ∧ U.heap = h0) (fun _ _ _ _ _ => True) (fun _ U o U' => ∃ v L, o = .returned v ∧ Q7_0 Z  h0 n0 v U'.heap L ∧ FrameEnd U o U' L ({ frames := 0, cells := 0, slots := 0, locals := 0 } : Room).cells ({ frames := 0, cells := 0, slots := 0, locals := 0 } : Room).slots) := by
  refine MetFree.of_bodySF (Jvm.Free.JP.mathPlain rfl (by decide +kernel)) hisR ?_
  intro p e s m args below meth c s₁ Bd hml0 hP hK
  obtain ⟨rfl, hZ, hh⟩ := hP
  have hx := Bd.exec
  have hby := Bd.bytes
  have hml : c.maxLocals = 6 := hml0
  have hown : s.vm.findClass "java/lang/Math" = some m.cls := findClass_of_methodNamed Bd.named
  have hnm := (name_of_methodNamed Bd.named Bd.method).1
  have X0 : Stand p l e ({ frames := 0, cells := 0, slots := 0, locals := 0 } : Room) s m #[(.long (1000 : Int64)), (.long (0 : Int64))] below meth c s₁ [] 0 0 := Stand.of_body Bd
  have e0 : s₁.heap = h0 := by rw [← hh, Bd.state]; rfl
  have N0 := Fr.nil n0
  have pre0 : ∀ t, Steps p.tables e below (s₁.setTop (mkF m 0 #[.val (.long (1000 : Int64)), .second, .val (.long (0 : Int64)), .second, .unset, .unset] [])) t → Steps p.tables e below (s₁.setTop (entryFrame m #[(.long (1000 : Int64)), (.long (0 : Int64))] 6)) t := fun t k => castTop (ef_7 m (1000 : Int64) (0 : Int64)) k
  obtain ⟨fs, hr, hrun, hended, hW, hsame⟩ := X0.leave (v := some (.long ((1000 : Int64) + (0 : Int64)))) (fun h => by rw [Bd.returns] at h; cases h)
  refine ⟨_, _, pre0 _ ?_, hrun, hended, _, _, rfl, ?_, ⟨_, rfl⟩, hW, hsame.mono (by decide) (by decide)⟩
  · show Steps p.tables e below (s₁.setTop (mkF m 0 #[.val (.long (1000 : Int64)), .second, .val (.long (0 : Int64)), .second, .unset, .unset] [])) _
    refine XS.lloadN X0.here hx rfl (hb hby d7_0) rfl ?_
    show Steps p.tables e below (s₁.setTop (mkF m 1 #[.val (.long (1000 : Int64)), .second, .val (.long (0 : Int64)), .second, .unset, .unset] [(.long (1000 : Int64))])) _
    refine XS.lloadN X0.here hx rfl (hb hby d7_1) rfl ?_
    show Steps p.tables e below (s₁.setTop (mkF m 2 #[.val (.long (1000 : Int64)), .second, .val (.long (0 : Int64)), .second, .unset, .unset] [(.long (0 : Int64)), (.long (1000 : Int64))])) _
    refine XS.ladd X0.here hx rfl (hb hby d7_2) rfl ?_
    show Steps p.tables e below (s₁.setTop (mkF m 3 #[.val (.long (1000 : Int64)), .second, .val (.long (0 : Int64)), .second, .unset, .unset] [(.long ((1000 : Int64) + (0 : Int64)))])) _
    refine XS.lstore X0.here hx rfl (hb hby d7_3) rfl (l' := #[.val (.long (1000 : Int64)), .second, .val (.long (0 : Int64)), .second, .val (.long ((1000 : Int64) + (0 : Int64))), .second]) rfl ?_
    show Steps p.tables e below (s₁.setTop (mkF m 5 #[.val (.long (1000 : Int64)), .second, .val (.long (0 : Int64)), .second, .val (.long ((1000 : Int64) + (0 : Int64))), .second] [])) _
    refine XS.lloadN X0.here hx rfl (hb hby d7_5) rfl ?_
    show Steps p.tables e below (s₁.setTop (mkF m 6 #[.val (.long (1000 : Int64)), .second, .val (.long (0 : Int64)), .second, .val (.long ((1000 : Int64) + (0 : Int64))), .second] [(.long (1000 : Int64))])) _
    refine XS.lload X0.here hx rfl (hb hby d7_6) rfl ?_
    show Steps p.tables e below (s₁.setTop (mkF m 8 #[.val (.long (1000 : Int64)), .second, .val (.long (0 : Int64)), .second, .val (.long ((1000 : Int64) + (0 : Int64))), .second] [(.long ((1000 : Int64) + (0 : Int64))), (.long (1000 : Int64))])) _
    refine XS.lxor X0.here hx rfl (hb hby d7_8) rfl ?_
    show Steps p.tables e below (s₁.setTop (mkF m 9 #[.val (.long (1000 : Int64)), .second, .val (.long (0 : Int64)), .second, .val (.long ((1000 : Int64) + (0 : Int64))), .second] [(.long ((1000 : Int64) ^^^ ((1000 : Int64) + (0 : Int64))))])) _
    refine XS.lloadN X0.here hx rfl (hb hby d7_9) rfl ?_
    show Steps p.tables e below (s₁.setTop (mkF m 10 #[.val (.long (1000 : Int64)), .second, .val (.long (0 : Int64)), .second, .val (.long ((1000 : Int64) + (0 : Int64))), .second] [(.long (0 : Int64)), (.long ((1000 : Int64) ^^^ ((1000 : Int64) + (0 : Int64))))])) _
    refine XS.lload X0.here hx rfl (hb hby d7_10) rfl ?_
    show Steps p.tables e below (s₁.setTop (mkF m 12 #[.val (.long (1000 : Int64)), .second, .val (.long (0 : Int64)), .second, .val (.long ((1000 : Int64) + (0 : Int64))), .second] [(.long ((1000 : Int64) + (0 : Int64))), (.long (0 : Int64)), (.long ((1000 : Int64) ^^^ ((1000 : Int64) + (0 : Int64))))])) _
    refine XS.lxor X0.here hx rfl (hb hby d7_12) rfl ?_
    show Steps p.tables e below (s₁.setTop (mkF m 13 #[.val (.long (1000 : Int64)), .second, .val (.long (0 : Int64)), .second, .val (.long ((1000 : Int64) + (0 : Int64))), .second] [(.long ((0 : Int64) ^^^ ((1000 : Int64) + (0 : Int64)))), (.long ((1000 : Int64) ^^^ ((1000 : Int64) + (0 : Int64))))])) _
    refine XS.land X0.here hx rfl (hb hby d7_13) rfl ?_
    show Steps p.tables e below (s₁.setTop (mkF m 14 #[.val (.long (1000 : Int64)), .second, .val (.long (0 : Int64)), .second, .val (.long ((1000 : Int64) + (0 : Int64))), .second] [(.long (((1000 : Int64) ^^^ ((1000 : Int64) + (0 : Int64))) &&& ((0 : Int64) ^^^ ((1000 : Int64) + (0 : Int64)))))])) _
    refine XS.lconst X0.here hx rfl (hb hby d7_14) ?_
    show Steps p.tables e below (s₁.setTop (mkF m 15 #[.val (.long (1000 : Int64)), .second, .val (.long (0 : Int64)), .second, .val (.long ((1000 : Int64) + (0 : Int64))), .second] [(.long (0 : Int64)), (.long (((1000 : Int64) ^^^ ((1000 : Int64) + (0 : Int64))) &&& ((0 : Int64) ^^^ ((1000 : Int64) + (0 : Int64)))))])) _
    refine XS.lcmp X0.here hx rfl (hb hby d7_15) rfl ?_
    show Steps p.tables e below (s₁.setTop (mkF m 16 #[.val (.long (1000 : Int64)), .second, .val (.long (0 : Int64)), .second, .val (.long ((1000 : Int64) + (0 : Int64))), .second] [(.int (lcmpW (((1000 : Int64) ^^^ ((1000 : Int64) + (0 : Int64))) &&& ((0 : Int64) ^^^ ((1000 : Int64) + (0 : Int64)))) (0 : Int64)))])) _
    refine XS.ifYes X0.here hx rfl (pc0 := 16) (pc' := 29) rfl (hb hby d7_16) rfl ((if0 _ _).trans (flt (by decide +kernel)).2.1) (by decide) (by decide) ?_
    show Steps p.tables e below (s₁.setTop (mkF m 29 #[.val (.long (1000 : Int64)), .second, .val (.long (0 : Int64)), .second, .val (.long ((1000 : Int64) + (0 : Int64))), .second] [])) _
    refine XS.lload X0.here hx rfl (hb hby d7_29) rfl ?_
    show Steps p.tables e below (s₁.setTop (mkF m 31 #[.val (.long (1000 : Int64)), .second, .val (.long (0 : Int64)), .second, .val (.long ((1000 : Int64) + (0 : Int64))), .second] [(.long ((1000 : Int64) + (0 : Int64)))])) _
    exact X0.lreturnOut hx Bd.returns (hb hby d7_31) hr
  · show Q7_0 Z  h0 n0 _ s₁.heap _
    rw [e0]
    exact ⟨congrArg (fun z => some (Value.long z)) (by decide +kernel), N0, rfl⟩
theorem pd_2 : parseMethodDescriptor "(JI)J" = some ⟨[.long, .int], some .long⟩ := by decide +kernel
theorem d3_0 : decode jdk_2316_method_57_code 0 = .ok (.aload_n 0, 1) := by decide +kernel
theorem d3_1 : decode jdk_2316_method_57_code 1 = .ok (.getfield 221, 3) := by decide +kernel
theorem d3_4 : decode jdk_2316_method_57_code 4 = .ok (.lstore_n 1, 1) := by decide +kernel
theorem d3_5 : decode jdk_2316_method_57_code 5 = .ok (.aload_n 0, 1) := by decide +kernel
theorem d3_6 : decode jdk_2316_method_57_code 6 = .ok (.getfield 224, 3) := by decide +kernel
theorem d3_9 : decode jdk_2316_method_57_code 9 = .ok (.i2l, 1) := by decide +kernel
theorem d3_10 : decode jdk_2316_method_57_code 10 = .ok (.lstore_n 3, 1) := by decide +kernel
theorem d3_11 : decode jdk_2316_method_57_code 11 = .ok (.lload_n 1, 1) := by decide +kernel
theorem d3_12 : decode jdk_2316_method_57_code 12 = .ok (.lconst 0, 1) := by decide +kernel
theorem d3_13 : decode jdk_2316_method_57_code 13 = .ok (.lcmp, 1) := by decide +kernel
theorem d3_14 : decode jdk_2316_method_57_code 14 = .ok (.ifCond .ge 13, 3) := by decide +kernel
theorem d3_17 : decode jdk_2316_method_57_code 17 = .ok (.lload_n 1, 1) := by decide +kernel
theorem d3_18 : decode jdk_2316_method_57_code 18 = .ok (.lconst 1, 1) := by decide +kernel
theorem d3_19 : decode jdk_2316_method_57_code 19 = .ok (.ladd, 1) := by decide +kernel
theorem d3_20 : decode jdk_2316_method_57_code 20 = .ok (.lstore_n 1, 1) := by decide +kernel
theorem d3_21 : decode jdk_2316_method_57_code 21 = .ok (.lload_n 3, 1) := by decide +kernel
theorem d3_22 : decode jdk_2316_method_57_code 22 = .ok (.ldc2_w 16, 3) := by decide +kernel
theorem d3_25 : decode jdk_2316_method_57_code 25 = .ok (.lsub, 1) := by decide +kernel
theorem d3_26 : decode jdk_2316_method_57_code 26 = .ok (.lstore_n 3, 1) := by decide +kernel
theorem d3_27 : decode jdk_2316_method_57_code 27 = .ok (.lload_n 1, 1) := by decide +kernel
theorem d3_28 : decode jdk_2316_method_57_code 28 = .ok (.sipush 1000, 3) := by decide +kernel
theorem d3_31 : decode jdk_2316_method_57_code 31 = .ok (.invokestatic 4, 3) := by decide +kernel
theorem d3_34 : decode jdk_2316_method_57_code 34 = .ok (.lstore 5, 2) := by decide +kernel
theorem d3_36 : decode jdk_2316_method_57_code 36 = .ok (.lload 5, 2) := by decide +kernel
theorem d3_38 : decode jdk_2316_method_57_code 38 = .ok (.lload_n 3, 1) := by decide +kernel
theorem d3_39 : decode jdk_2316_method_57_code 39 = .ok (.ldc2_w 294, 3) := by decide +kernel
theorem d3_42 : decode jdk_2316_method_57_code 42 = .ok (.ldiv, 1) := by decide +kernel
theorem d3_43 : decode jdk_2316_method_57_code 43 = .ok (.invokestatic 22, 3) := by decide +kernel
theorem d3_46 : decode jdk_2316_method_57_code 46 = .ok (.lstore 5, 2) := by decide +kernel
theorem d3_48 : decode jdk_2316_method_57_code 48 = .ok (.lload 5, 2) := by decide +kernel
theorem d3_50 : decode jdk_2316_method_57_code 50 = .ok (.lreturn, 1) := by decide +kernel
theorem pn_Duration : plainName "java/time/Duration" = true := by first | (simp [plainName, overriddenIn]; done) | decide +kernel
theorem ef_3 (m : MethodId) (x0 : Addr) : entryFrame m #[(.ref x0)] 7 = mkF m 0 #[.val (.ref x0), .unset, .unset, .unset, .unset, .unset, .unset] [] := by first | (simp [entryFrame, mkF, argsToLocals, Value.category]; done) | rfl
def Q3_0 (Z : State) (d1 : Addr) (h0 : Heap) (n0 : Nat) (v : Option Value) (h : Heap) (L : List Loc) : Prop := v = some (.long (1000 : Int64)) ∧ Fr n0 L ∧ h = h0
set_option maxRecDepth 65536 in
set_option maxHeartbeats 40000000 in
theorem rm3_0 (l : Launch) (Z : State) (a0 : Array Value) (hw : ∀ d ∈ tables_1, d.before a0 Z = true) (ws : List Jvm.Cond) (d1 : Addr) (h0 : Heap) (n0 : Nat) (Z0 : n0 ≤ h0.size) (FS : Fld Z h0 d1 "java/time/Duration" "seconds" "J" (.long (1 : Int64))) (FN : Fld Z h0 d1 "java/time/Duration" "nanos" "I" (.int (0 : Int32))) :
    MetFree l (⟨"java/time/Duration", "toMillis", "()J"⟩ : MethodName) (head1 (Jvm.Cond.code (⟨"java/time/Duration", "toMillis", "()J"⟩ : MethodName) jdk_2316_method_57_code 7 (some .long) :: ws) ({ frames := 3, cells := 0, slots := 0, locals := 48 } : Room)) (fun a U => a = #[(.ref d1)] ∧ Z.Warmed39 U.vm ∧ U.heap = h0) (fun _ _ _ _ _ => True) (fun _ U o U' => ∃ v L, o = .returned v ∧ Q3_0 Z d1 h0 n0 v U'.heap L ∧ FrameEnd U o U' L ({ frames := 3, cells := 0, slots := 0, locals := 48 } : Room).cells ({ frames := 3, cells := 0, slots := 0, locals := 48 } : Room).slots) := by
  refine MetFree.of_bodySF (plainFor_of_name pn_Duration) hisR ?_
  intro p e s m args below meth c s₁ Bd hml0 hP hK
  obtain ⟨rfl, hZ, hh⟩ := hP
  have hx := Bd.exec
  have hby := Bd.bytes
  have hml : c.maxLocals = 7 := hml0
  have hown : s.vm.findClass "java/time/Duration" = some m.cls := findClass_of_methodNamed Bd.named
  have hnm := (name_of_methodNamed Bd.named Bd.method).1
  have X0 : Stand p l e ({ frames := 3, cells := 0, slots := 0, locals := 48 } : Room) s m #[(.ref d1)] below meth c s₁ [] 0 0 := Stand.of_body Bd
  have e0 : s₁.heap = h0 := by rw [← hh, Bd.state]; rfl
  have N0 := Fr.nil n0
  have pre0 : ∀ t, Steps p.tables e below (s₁.setTop (mkF m 0 #[.val (.ref d1), .unset, .unset, .unset, .unset, .unset, .unset] [])) t → Steps p.tables e below (s₁.setTop (entryFrame m #[(.ref d1)] 7)) t := fun t k => castTop (ef_3 m d1) k
  obtain ⟨T1, X1, e1, st1⟩ := getF X0 hx hZ hown (host := "") (Or.inl (hw _ (List.mem_of_getElem? (i := 23) rfl))) Via.refl e0 FS (g := (mkF m 1 #[.val (.ref d1), .unset, .unset, .unset, .unset, .unset, .unset] [(.ref d1)])) rfl rfl (hb hby d3_1)
  obtain ⟨T2, X2, e2, st2⟩ := getF X1 hx hZ hown (host := "") (Or.inl (hw _ (List.mem_of_getElem? (i := 25) rfl))) Via.refl e1 FN (g := (mkF m 6 #[.val (.ref d1), .val (.long (1 : Int64)), .second, .unset, .unset, .unset, .unset] [(.ref d1)])) rfl rfl (hb hby d3_6)
  obtain ⟨_, _, ⟨T3, L3, k3, n3⟩, -, X3, ⟨Lc3, hQ3, l3, y3, z3⟩, st3⟩ := Jvm.LawKit.callS X2 hx (y := (⟨"java/lang/Math", "multiplyExact", "(JI)J"⟩ : MethodName)) hown (mvT hZ (hw _ (List.mem_of_getElem? (i := 27) rfl))) (mvT hZ (hw _ (List.mem_of_getElem? (i := 28) rfl))) (mvT hZ (hw _ (List.mem_of_getElem? (i := 29) rfl))) (mvT hZ (hw _ (List.mem_of_getElem? (i := 30) rfl))) (by decide) (backOf (W := 0) (rm4_0 l Z a0 hw [] h0 n0 Z0) hZ (hw _ (List.mem_of_getElem? (i := 30) rfl)) (hw _ (List.mem_of_getElem? (i := 29) rfl)) (by decide) (by decide)) (g := (mkF m 31 #[.val (.ref d1), .val (.long (1 : Int64)), .second, .val (.long (0 : Int64)), .second, .unset, .unset] [(.int (1000 : Int32)), (.long (1 : Int64))])) rfl (by rw [hml]; rfl) (argsL := [(.long (1 : Int64)), (.int (1000 : Int32))]) (rest := []) (lenOf pd_2 rfl) rfl (by show 2 * 0 + _ ≤ _; exact Nat.le_of_eq rfl) (hb hby d3_31) (fun _ _ => ⟨rfl, e2, (by decide : 0 + 0 ≤ _), (by decide : 0 + 0 ≤ _)⟩)
  dsimp only [Pt.U, Pt.locs, Pt.cells, Pt.slots] at X3 l3 y3 z3 st3 hQ3
  subst l3 y3 z3
  obtain ⟨rfl, N3q, eq3⟩ := hQ3
  have N3 := Fr.app N0 N3q
  obtain ⟨_, _, ⟨T4, L4, k4, n4⟩, -, X4, ⟨Lc4, hQ4, l4, y4, z4⟩, st4⟩ := Jvm.LawKit.callS X3 hx (y := (⟨"java/lang/Math", "addExact", "(JJ)J"⟩ : MethodName)) hown (mvT hZ (hw _ (List.mem_of_getElem? (i := 38) rfl))) (mvT hZ (hw _ (List.mem_of_getElem? (i := 39) rfl))) (mvT hZ (hw _ (List.mem_of_getElem? (i := 29) rfl))) (mvT hZ (hw _ (List.mem_of_getElem? (i := 40) rfl))) (by decide) (backOf (W := 0) (rm7_0 l Z a0 hw [] h0 n0 Z0) hZ (hw _ (List.mem_of_getElem? (i := 40) rfl)) (hw _ (List.mem_of_getElem? (i := 29) rfl)) (by decide) (by decide)) (g := (mkF m 43 #[.val (.ref d1), .val (.long (1 : Int64)), .second, .val (.long (0 : Int64)), .second, .val (.long (1000 : Int64)), .second] [(.long (0 : Int64)), (.long (1000 : Int64))])) rfl (by rw [hml]; rfl) (argsL := [(.long (1000 : Int64)), (.long (0 : Int64))]) (rest := []) (lenOf pd_1 rfl) rfl (by show 2 * 0 + _ ≤ _; exact Nat.le_of_eq rfl) (hb hby d3_43) (fun _ _ => ⟨rfl, eq3, (by decide : 0 + 0 ≤ _), (by decide : 0 + 0 ≤ _)⟩)
  dsimp only [Pt.U, Pt.locs, Pt.cells, Pt.slots] at X4 l4 y4 z4 st4 hQ4
  subst l4 y4 z4
  obtain ⟨rfl, N4q, eq4⟩ := hQ4
  have N4 := Fr.app N3 N4q
  obtain ⟨fs, hr, hrun, hended, hW, hsame⟩ := X4.leave (v := some (.long (1000 : Int64))) (fun h => by rw [Bd.returns] at h; cases h)
  refine ⟨_, _, pre0 _ ?_, hrun, hended, _, _, rfl, ?_, ⟨_, rfl⟩, hW, hsame.mono (by decide) (by decide)⟩
  · show Steps p.tables e below (s₁.setTop (mkF m 0 #[.val (.ref d1), .unset, .unset, .unset, .unset, .unset, .unset] [])) _
    refine XS.aloadN X0.here hx rfl (hb hby d3_0) rfl rfl ?_
    show Steps p.tables e below (s₁.setTop (mkF m 1 #[.val (.ref d1), .unset, .unset, .unset, .unset, .unset, .unset] [(.ref d1)])) _
    refine st1 _ ?_
    show Steps p.tables e below (T1.setTop (mkF m 4 #[.val (.ref d1), .unset, .unset, .unset, .unset, .unset, .unset] [(.long (1 : Int64))])) _
    refine XS.lstoreN X1.here hx rfl (hb hby d3_4) rfl (l' := #[.val (.ref d1), .val (.long (1 : Int64)), .second, .unset, .unset, .unset, .unset]) rfl ?_
    show Steps p.tables e below (T1.setTop (mkF m 5 #[.val (.ref d1), .val (.long (1 : Int64)), .second, .unset, .unset, .unset, .unset] [])) _
    refine XS.aloadN X1.here hx rfl (hb hby d3_5) rfl rfl ?_
    show Steps p.tables e below (T1.setTop (mkF m 6 #[.val (.ref d1), .val (.long (1 : Int64)), .second, .unset, .unset, .unset, .unset] [(.ref d1)])) _
    refine st2 _ ?_
    show Steps p.tables e below (T2.setTop (mkF m 9 #[.val (.ref d1), .val (.long (1 : Int64)), .second, .unset, .unset, .unset, .unset] [(.int (0 : Int32))])) _
    refine XS.i2l X2.here hx rfl (hb hby d3_9) rfl ?_
    show Steps p.tables e below (T2.setTop (mkF m 10 #[.val (.ref d1), .val (.long (1 : Int64)), .second, .unset, .unset, .unset, .unset] [(.long ((0 : Int32).toInt64))])) _
    rw [show ((0 : Int32).toInt64) = (0 : Int64) from by decide +kernel]
    show Steps p.tables e below (T2.setTop (mkF m 10 #[.val (.ref d1), .val (.long (1 : Int64)), .second, .unset, .unset, .unset, .unset] [(.long (0 : Int64))])) _
    refine XS.lstoreN X2.here hx rfl (hb hby d3_10) rfl (l' := #[.val (.ref d1), .val (.long (1 : Int64)), .second, .val (.long (0 : Int64)), .second, .unset, .unset]) rfl ?_
    show Steps p.tables e below (T2.setTop (mkF m 11 #[.val (.ref d1), .val (.long (1 : Int64)), .second, .val (.long (0 : Int64)), .second, .unset, .unset] [])) _
    refine XS.lloadN X2.here hx rfl (hb hby d3_11) rfl ?_
    show Steps p.tables e below (T2.setTop (mkF m 12 #[.val (.ref d1), .val (.long (1 : Int64)), .second, .val (.long (0 : Int64)), .second, .unset, .unset] [(.long (1 : Int64))])) _
    refine XS.lconst X2.here hx rfl (hb hby d3_12) ?_
    show Steps p.tables e below (T2.setTop (mkF m 13 #[.val (.ref d1), .val (.long (1 : Int64)), .second, .val (.long (0 : Int64)), .second, .unset, .unset] [(.long (0 : Int64)), (.long (1 : Int64))])) _
    refine XS.lcmp X2.here hx rfl (hb hby d3_13) rfl ?_
    show Steps p.tables e below (T2.setTop (mkF m 14 #[.val (.ref d1), .val (.long (1 : Int64)), .second, .val (.long (0 : Int64)), .second, .unset, .unset] [(.int (lcmpW (1 : Int64) (0 : Int64)))])) _
    refine XS.ifYes X2.here hx rfl (pc0 := 14) (pc' := 27) rfl (hb hby d3_14) rfl ((if0 _ _).trans (flt (by decide +kernel)).2.1) (by decide) (by decide) ?_
    show Steps p.tables e below (T2.setTop (mkF m 27 #[.val (.ref d1), .val (.long (1 : Int64)), .second, .val (.long (0 : Int64)), .second, .unset, .unset] [])) _
    refine XS.lloadN X2.here hx rfl (hb hby d3_27) rfl ?_
    show Steps p.tables e below (T2.setTop (mkF m 28 #[.val (.ref d1), .val (.long (1 : Int64)), .second, .val (.long (0 : Int64)), .second, .unset, .unset] [(.long (1 : Int64))])) _
    refine XS.sipush X2.here hx rfl (hb hby d3_28) ?_
    show Steps p.tables e below (T2.setTop (mkF m 31 #[.val (.ref d1), .val (.long (1 : Int64)), .second, .val (.long (0 : Int64)), .second, .unset, .unset] [(.int (1000 : Int32)), (.long (1 : Int64))])) _
    refine st3 _ ?_
    show Steps p.tables e below (T3.setTop (mkF m 34 #[.val (.ref d1), .val (.long (1 : Int64)), .second, .val (.long (0 : Int64)), .second, .unset, .unset] [(.long (1000 : Int64))])) _
    refine XS.lstore X3.here hx rfl (hb hby d3_34) rfl (l' := #[.val (.ref d1), .val (.long (1 : Int64)), .second, .val (.long (0 : Int64)), .second, .val (.long (1000 : Int64)), .second]) rfl ?_
    show Steps p.tables e below (T3.setTop (mkF m 36 #[.val (.ref d1), .val (.long (1 : Int64)), .second, .val (.long (0 : Int64)), .second, .val (.long (1000 : Int64)), .second] [])) _
    refine XS.lload X3.here hx rfl (hb hby d3_36) rfl ?_
    show Steps p.tables e below (T3.setTop (mkF m 38 #[.val (.ref d1), .val (.long (1 : Int64)), .second, .val (.long (0 : Int64)), .second, .val (.long (1000 : Int64)), .second] [(.long (1000 : Int64))])) _
    refine XS.lloadN X3.here hx rfl (hb hby d3_38) rfl ?_
    show Steps p.tables e below (T3.setTop (mkF m 39 #[.val (.ref d1), .val (.long (1 : Int64)), .second, .val (.long (0 : Int64)), .second, .val (.long (1000 : Int64)), .second] [(.long (0 : Int64)), (.long (1000 : Int64))])) _
    refine X3.ldc2Long hx hown (mvT hZ (hw _ (List.mem_of_getElem? (i := 37) rfl))) (g := (mkF m 39 #[.val (.ref d1), .val (.long (1 : Int64)), .second, .val (.long (0 : Int64)), .second, .val (.long (1000 : Int64)), .second] [(.long (0 : Int64)), (.long (1000 : Int64))])) rfl (hb hby d3_39) _ ?_
    show Steps p.tables e below (T3.setTop (mkF m 42 #[.val (.ref d1), .val (.long (1 : Int64)), .second, .val (.long (0 : Int64)), .second, .val (.long (1000 : Int64)), .second] [(.long (1000000 : Int64)), (.long (0 : Int64)), (.long (1000 : Int64))])) _
    refine XS.ldiv X3.here hx rfl (hb hby d3_42) rfl (by decide +kernel) ?_
    show Steps p.tables e below (T3.setTop (mkF m 43 #[.val (.ref d1), .val (.long (1 : Int64)), .second, .val (.long (0 : Int64)), .second, .val (.long (1000 : Int64)), .second] [(.long ((0 : Int64) / (1000000 : Int64))), (.long (1000 : Int64))])) _
    rw [show ((0 : Int64) / (1000000 : Int64)) = (0 : Int64) from by decide +kernel]
    show Steps p.tables e below (T3.setTop (mkF m 43 #[.val (.ref d1), .val (.long (1 : Int64)), .second, .val (.long (0 : Int64)), .second, .val (.long (1000 : Int64)), .second] [(.long (0 : Int64)), (.long (1000 : Int64))])) _
    refine st4 _ ?_
    show Steps p.tables e below (T4.setTop (mkF m 46 #[.val (.ref d1), .val (.long (1 : Int64)), .second, .val (.long (0 : Int64)), .second, .val (.long (1000 : Int64)), .second] [(.long (1000 : Int64))])) _
    refine XS.lstore X4.here hx rfl (hb hby d3_46) rfl (l' := #[.val (.ref d1), .val (.long (1 : Int64)), .second, .val (.long (0 : Int64)), .second, .val (.long (1000 : Int64)), .second]) rfl ?_
    show Steps p.tables e below (T4.setTop (mkF m 48 #[.val (.ref d1), .val (.long (1 : Int64)), .second, .val (.long (0 : Int64)), .second, .val (.long (1000 : Int64)), .second] [])) _
    refine XS.lload X4.here hx rfl (hb hby d3_48) rfl ?_
    show Steps p.tables e below (T4.setTop (mkF m 50 #[.val (.ref d1), .val (.long (1 : Int64)), .second, .val (.long (0 : Int64)), .second, .val (.long (1000 : Int64)), .second] [(.long (1000 : Int64))])) _
    exact X4.lreturnOut hx Bd.returns (hb hby d3_50) hr
  · show Q3_0 Z d1 h0 n0 _ T4.heap _
    rw [eq4]
    exact ⟨rfl, N4, rfl⟩
theorem d2_0 : decode prog_8_method_5_code 0 = .ok (.aload_n 0, 1) := by decide +kernel
theorem d2_1 : decode prog_8_method_5_code 1 = .ok (.getfield 39, 3) := by decide +kernel
theorem d2_4 : decode prog_8_method_5_code 4 = .ok (.areturn, 1) := by decide +kernel
theorem pn_Unit : plainName "com/example/throttle/throttle/model/Unit" = true := by first | (simp [plainName, overriddenIn]; done) | decide +kernel
theorem ef_2 (m : MethodId) (x0 : Addr) : entryFrame m #[(.ref x0)] 1 = mkF m 0 #[.val (.ref x0)] [] := by first | (simp [entryFrame, mkF, argsToLocals, Value.category]; done) | rfl
def Q2 (Z : State) (a1 d1 : Addr) (h0 : Heap) (n0 : Nat) (v : Option Value) (h : Heap) (L : List Loc) : Prop := v = some (.ref d1) ∧ Fr n0 L ∧ h = h0
set_option maxRecDepth 65536 in
set_option maxHeartbeats 40000000 in
theorem rm2 (l : Launch) (Z : State) (a0 : Array Value) (hw : ∀ d ∈ tables_1, d.before a0 Z = true) (ws : List Jvm.Cond) (a1 d1 : Addr) (h0 : Heap) (n0 : Nat) (Z0 : n0 ≤ h0.size) (FL : Fld Z h0 a1 "com/example/throttle/throttle/model/Unit" "length" "Ljava/time/Duration;" (.ref d1)) :
    MetFree l (⟨"com/example/throttle/throttle/model/Unit", "length", "()Ljava/time/Duration;"⟩ : MethodName) (head1 (Jvm.Cond.code (⟨"com/example/throttle/throttle/model/Unit", "length", "()Ljava/time/Duration;"⟩ : MethodName) prog_8_method_5_code 1 (some (.object "java/time/Duration")) :: ws) ({ frames := 0, cells := 0, slots := 0, locals := 0 } : Room)) (fun a U => a = #[(.ref a1)] ∧ Z.Warmed39 U.vm ∧ U.heap = h0) (fun _ _ _ _ _ => True) (fun _ U o U' => ∃ v L, o = .returned v ∧ Q2 Z a1 d1 h0 n0 v U'.heap L ∧ FrameEnd U o U' L ({ frames := 0, cells := 0, slots := 0, locals := 0 } : Room).cells ({ frames := 0, cells := 0, slots := 0, locals := 0 } : Room).slots) := by
  refine MetFree.of_bodySF (plainFor_of_name pn_Unit) hisR ?_
  intro p e s m args below meth c s₁ Bd hml0 hP hK
  obtain ⟨rfl, hZ, hh⟩ := hP
  have hx := Bd.exec
  have hby := Bd.bytes
  have hml : c.maxLocals = 1 := hml0
  have hown : s.vm.findClass "com/example/throttle/throttle/model/Unit" = some m.cls := findClass_of_methodNamed Bd.named
  have hnm := (name_of_methodNamed Bd.named Bd.method).1
  have X0 : Stand p l e ({ frames := 0, cells := 0, slots := 0, locals := 0 } : Room) s m #[(.ref a1)] below meth c s₁ [] 0 0 := Stand.of_body Bd
  have e0 : s₁.heap = h0 := by rw [← hh, Bd.state]; rfl
  have N0 := Fr.nil n0
  have pre0 : ∀ t, Steps p.tables e below (s₁.setTop (mkF m 0 #[.val (.ref a1)] [])) t → Steps p.tables e below (s₁.setTop (entryFrame m #[(.ref a1)] 1)) t := fun t k => castTop (ef_2 m a1) k
  obtain ⟨T1, X1, e1, st1⟩ := getF X0 hx hZ hown (host := "") (Or.inl (hw _ (List.mem_of_getElem? (i := 15) rfl))) Via.refl e0 FL (g := (mkF m 1 #[.val (.ref a1)] [(.ref a1)])) rfl rfl (hb hby d2_1)
  obtain ⟨fs, hr, hrun, hended, hW, hsame⟩ := X1.leave (v := some (.ref d1)) (fun h => by rw [Bd.returns] at h; cases h)
  refine ⟨_, _, pre0 _ ?_, hrun, hended, _, _, rfl, ?_, ⟨_, rfl⟩, hW, hsame.mono (by decide) (by decide)⟩
  · show Steps p.tables e below (s₁.setTop (mkF m 0 #[.val (.ref a1)] [])) _
    refine XS.aloadN X0.here hx rfl (hb hby d2_0) rfl rfl ?_
    show Steps p.tables e below (s₁.setTop (mkF m 1 #[.val (.ref a1)] [(.ref a1)])) _
    refine st1 _ ?_
    show Steps p.tables e below (T1.setTop (mkF m 4 #[.val (.ref a1)] [(.ref d1)])) _
    jvm_step X1.here [X1.here.top, hx, (hb hby d2_4), X1.method', Bd.returns, Value.isRef, FieldType.isReference]
    first | (intro acts; rw [hr _ acts rfl rfl rfl]) | rw [hr _ _ rfl rfl rfl]
    exact Steps.refl _
  · show Q2 Z a1 d1 h0 n0 _ T1.heap _
    rw [e1]
    exact ⟨rfl, N0, rfl⟩
theorem pd_3 : parseMethodDescriptor "()Ljava/time/Duration;" = some ⟨[], some (.object "java/time/Duration")⟩ := by decide +kernel
theorem pd_4 : parseMethodDescriptor "()J" = some ⟨[], some .long⟩ := by decide +kernel
theorem d1_0 : decode prog_4_method_2_code 0 = .ok (.ldc2_w 53, 3) := by decide +kernel
theorem d1_3 : decode prog_4_method_2_code 3 = .ok (.aload_n 0, 1) := by decide +kernel
theorem d1_4 : decode prog_4_method_2_code 4 = .ok (.invokevirtual 55, 3) := by decide +kernel
theorem d1_7 : decode prog_4_method_2_code 7 = .ok (.invokevirtual 61, 3) := by decide +kernel
theorem d1_10 : decode prog_4_method_2_code 10 = .ok (.ldiv, 1) := by decide +kernel
theorem d1_11 : decode prog_4_method_2_code 11 = .ok (.lreturn, 1) := by decide +kernel
theorem pn_Rule : plainName "com/example/throttle/throttle/model/Rule" = true := by first | (simp [plainName, overriddenIn]; done) | decide +kernel
theorem ef_1 (m : MethodId) (x0 : Addr) : entryFrame m #[(.ref x0)] 1 = mkF m 0 #[.val (.ref x0)] [] := by first | (simp [entryFrame, mkF, argsToLocals, Value.category]; done) | rfl
def Q1_0 (Z : State) (a1 d1 : Addr) (h0 : Heap) (n0 : Nat) (v : Option Value) (h : Heap) (L : List Loc) : Prop := v = some (.long (9223372036854775 : Int64)) ∧ Fr n0 L ∧ h = h0
set_option maxRecDepth 65536 in
set_option maxHeartbeats 40000000 in
theorem rm1_0 (l : Launch) (Z : State) (a0 : Array Value) (hw : ∀ d ∈ tables_1, d.before a0 Z = true) (ws : List Jvm.Cond) (a1 d1 : Addr) (h0 : Heap) (n0 : Nat) (Z0 : n0 ≤ h0.size) (EU : Exa Z h0 a1 "com/example/throttle/throttle/model/Unit") (FL : Fld Z h0 a1 "com/example/throttle/throttle/model/Unit" "length" "Ljava/time/Duration;" (.ref d1)) (ED : Exa Z h0 d1 "java/time/Duration") (FS : Fld Z h0 d1 "java/time/Duration" "seconds" "J" (.long (1 : Int64))) (FN : Fld Z h0 d1 "java/time/Duration" "nanos" "I" (.int (0 : Int32))) :
    MetFree l (⟨"com/example/throttle/throttle/model/Rule", "maxRpu", "(Lcom/example/throttle/throttle/model/Unit;)J"⟩ : MethodName) (head1 (Jvm.Cond.code (⟨"com/example/throttle/throttle/model/Rule", "maxRpu", "(Lcom/example/throttle/throttle/model/Unit;)J"⟩ : MethodName) prog_4_method_2_code 1 (some .long) :: ws) ({ frames := 4, cells := 0, slots := 0, locals := 68 } : Room)) (fun a U => a = #[(.ref a1)] ∧ Z.Warmed39 U.vm ∧ U.heap = h0) (fun _ _ _ _ _ => True) (fun _ U o U' => ∃ v L, o = .returned v ∧ Q1_0 Z a1 d1 h0 n0 v U'.heap L ∧ FrameEnd U o U' L ({ frames := 4, cells := 0, slots := 0, locals := 68 } : Room).cells ({ frames := 4, cells := 0, slots := 0, locals := 68 } : Room).slots) := by
  refine MetFree.of_bodySF (plainFor_of_name pn_Rule) hisR ?_
  intro p e s m args below meth c s₁ Bd hml0 hP hK
  obtain ⟨rfl, hZ, hh⟩ := hP
  have hx := Bd.exec
  have hby := Bd.bytes
  have hml : c.maxLocals = 1 := hml0
  have hown : s.vm.findClass "com/example/throttle/throttle/model/Rule" = some m.cls := findClass_of_methodNamed Bd.named
  have hnm := (name_of_methodNamed Bd.named Bd.method).1
  have X0 : Stand p l e ({ frames := 4, cells := 0, slots := 0, locals := 68 } : Room) s m #[(.ref a1)] below meth c s₁ [] 0 0 := Stand.of_body Bd
  have e0 : s₁.heap = h0 := by rw [← hh, Bd.state]; rfl
  have N0 := Fr.nil n0
  have pre0 : ∀ t, Steps p.tables e below (s₁.setTop (mkF m 0 #[.val (.ref a1)] [])) t → Steps p.tables e below (s₁.setTop (entryFrame m #[(.ref a1)] 1)) t := fun t k => castTop (ef_1 m a1) k
  obtain ⟨cq1, kq1, q1a, q1b, q1c⟩ := isOf hZ e0 EU
  obtain ⟨_, _, ⟨T1, L1, k1, n1⟩, -, X1, ⟨Lc1, hQ1, l1, y1, z1⟩, st1⟩ := X0.virtualBack hx (y := (⟨"com/example/throttle/throttle/model/Unit", "length", "()Ljava/time/Duration;"⟩ : MethodName)) (z := (⟨"com/example/throttle/throttle/model/Unit", "length", "()Ljava/time/Duration;"⟩ : MethodName)) hown (mvT hZ (hw _ (List.mem_of_getElem? (i := 10) rfl))) (mvT hZ (hw _ (List.mem_of_getElem? (i := 11) rfl))) (notFace_of_selects (args := #[]) (mvT hZ (hw _ (List.mem_of_getElem? (i := 13) rfl)))) (mvT hZ (hw _ (List.mem_of_getElem? (i := 13) rfl))) (mvT hZ (hw _ (List.mem_of_getElem? (i := 12) rfl))) (by decide) (backOf (W := 2) (rm2 l Z a0 hw [] a1 d1 h0 n0 Z0 FL) hZ (hw _ (List.mem_of_getElem? (i := 14) rfl)) (hw _ (List.mem_of_getElem? (i := 1) rfl)) (by decide) (by decide)) q1a q1c (g := (mkF m 4 #[.val (.ref a1)] [(.ref a1), (.long (9223372036854775807 : Int64))])) rfl (by rw [hml]; rfl) (Steps.refl _) (argsL := []) (rest := [(.long (9223372036854775807 : Int64))]) (lenOf pd_3 rfl) rfl (by show 2 * 0 + _ ≤ _; exact Nat.le_of_eq rfl) (hb hby d1_4) (fun _ _ => ⟨rfl, e0, (by decide : 0 + 0 ≤ _), (by decide : 0 + 0 ≤ _)⟩)
  dsimp only [Pt.U, Pt.locs, Pt.cells, Pt.slots] at X1 l1 y1 z1 st1 hQ1
  subst l1 y1 z1
  obtain ⟨rfl, N1q, eq1⟩ := hQ1
  have N1 := Fr.app N0 N1q
  obtain ⟨cq2, kq2, q2a, q2b, q2c⟩ := isOf hZ eq1 ED
  obtain ⟨_, _, ⟨T2, L2, k2, n2⟩, -, X2, ⟨Lc2, hQ2, l2, y2, z2⟩, st2⟩ := X1.virtualBack hx (y := (⟨"java/time/Duration", "toMillis", "()J"⟩ : MethodName)) (z := (⟨"java/time/Duration", "toMillis", "()J"⟩ : MethodName)) hown (mvT hZ (hw _ (List.mem_of_getElem? (i := 17) rfl))) (mvT hZ (hw _ (List.mem_of_getElem? (i := 18) rfl))) (notFace_of_selects (args := #[]) (mvT hZ (hw _ (List.mem_of_getElem? (i := 20) rfl)))) (mvT hZ (hw _ (List.mem_of_getElem? (i := 20) rfl))) (mvT hZ (hw _ (List.mem_of_getElem? (i := 19) rfl))) (by decide) (backOf (W := 2) (rm3_0 l Z a0 hw [] d1 h0 n0 Z0 FS FN) hZ (hw _ (List.mem_of_getElem? (i := 22) rfl)) (hw _ (List.mem_of_getElem? (i := 21) rfl)) (by decide) (by decide)) q2a q2c (g := (mkF m 7 #[.val (.ref a1)] [(.ref d1), (.long (9223372036854775807 : Int64))])) rfl (by rw [hml]; rfl) (Steps.refl _) (argsL := []) (rest := [(.long (9223372036854775807 : Int64))]) (lenOf pd_4 rfl) rfl (by show 2 * 0 + _ ≤ _; exact Nat.le_of_eq rfl) (hb hby d1_7) (fun _ _ => ⟨rfl, eq1, (by decide : 0 + 0 ≤ _), (by decide : 0 + 0 ≤ _)⟩)
  dsimp only [Pt.U, Pt.locs, Pt.cells, Pt.slots] at X2 l2 y2 z2 st2 hQ2
  subst l2 y2 z2
  obtain ⟨rfl, N2q, eq2⟩ := hQ2
  have N2 := Fr.app N1 N2q
  obtain ⟨fs, hr, hrun, hended, hW, hsame⟩ := X2.leave (v := some (.long ((9223372036854775807 : Int64) / (1000 : Int64)))) (fun h => by rw [Bd.returns] at h; cases h)
  refine ⟨_, _, pre0 _ ?_, hrun, hended, _, _, rfl, ?_, ⟨_, rfl⟩, hW, hsame.mono (by decide) (by decide)⟩
  · show Steps p.tables e below (s₁.setTop (mkF m 0 #[.val (.ref a1)] [])) _
    refine X0.ldc2Long hx hown (mvT hZ (hw _ (List.mem_of_getElem? (i := 9) rfl))) (g := (mkF m 0 #[.val (.ref a1)] [])) rfl (hb hby d1_0) _ ?_
    show Steps p.tables e below (s₁.setTop (mkF m 3 #[.val (.ref a1)] [(.long (9223372036854775807 : Int64))])) _
    refine XS.aloadN X0.here hx rfl (hb hby d1_3) rfl rfl ?_
    show Steps p.tables e below (s₁.setTop (mkF m 4 #[.val (.ref a1)] [(.ref a1), (.long (9223372036854775807 : Int64))])) _
    refine st1.trans ?_
    show Steps p.tables e below (T1.setTop (mkF m 7 #[.val (.ref a1)] [(.ref d1), (.long (9223372036854775807 : Int64))])) _
    refine st2.trans ?_
    show Steps p.tables e below (T2.setTop (mkF m 10 #[.val (.ref a1)] [(.long (1000 : Int64)), (.long (9223372036854775807 : Int64))])) _
    refine XS.ldiv X2.here hx rfl (hb hby d1_10) rfl (by decide +kernel) ?_
    show Steps p.tables e below (T2.setTop (mkF m 11 #[.val (.ref a1)] [(.long ((9223372036854775807 : Int64) / (1000 : Int64)))])) _
    exact X2.lreturnOut hx Bd.returns (hb hby d1_11) hr
  · show Q1_0 Z a1 d1 h0 n0 _ T2.heap _
    rw [eq2]
    exact ⟨congrArg (fun z => some (Value.long z)) (by decide +kernel), N2, rfl⟩
theorem pd_5 : parseMethodDescriptor "(Lcom/example/throttle/throttle/model/Unit;)J" = some ⟨[(.object "com/example/throttle/throttle/model/Unit")], some .long⟩ := by decide +kernel
theorem pn_RuleMaxRpuPinLaw : plainName "com/example/throttle/throttle/model/RuleMaxRpuPinLaw" = true := by first | (simp [plainName, overriddenIn]; done) | decide +kernel
theorem ef_0 (m : MethodId) (x0 : Int32) : entryFrame m #[(.int x0)] maxLocals = mkF m 0 #[.val (.int x0), .unset, .unset, .unset, .unset, .unset, .unset, .unset, .unset, .unset, .unset, .unset, .unset] [] := by first | (simp [entryFrame, mkF, argsToLocals, Value.category, maxLocals]; done) | rfl
def Q0 (Z : State) (p1 : Int32) (a1 d1 : Addr) (h0 : Heap) (n0 : Nat) (v : Option Value) (h : Heap) (L : List Loc) : Prop := v = some (.int 1) ∧ Fr n0 L
set_option maxRecDepth 65536 in
set_option maxHeartbeats 40000000 in
theorem rm0_0 (l : Launch) (Z : State) (a0 : Array Value) (hw : ∀ d ∈ tables_1, d.before a0 Z = true) (ws : List Jvm.Cond) (p1 : Int32) (a1 d1 : Addr) (h0 : Heap) (n0 : Nat) (Z0 : n0 ≤ h0.size) (SU : Sta Z h0 "com/example/throttle/throttle/model/Unit" "SECOND" "Lcom/example/throttle/throttle/model/Unit;" (.ref a1)) (EU : Exa Z h0 a1 "com/example/throttle/throttle/model/Unit") (FL : Fld Z h0 a1 "com/example/throttle/throttle/model/Unit" "length" "Ljava/time/Duration;" (.ref d1)) (ED : Exa Z h0 d1 "java/time/Duration") (FS : Fld Z h0 d1 "java/time/Duration" "seconds" "J" (.long (1 : Int64))) (FN : Fld Z h0 d1 "java/time/Duration" "nanos" "I" (.int (0 : Int32))) (hk : (p1 &&& 3) = 0) :
    MetFree l x (head1 (Jvm.Cond.code x code maxLocals ret :: ws) room_1) (fun a U => a = #[(.int p1)] ∧ Z.Warmed39 U.vm ∧ U.heap = h0) (fun _ _ _ _ _ => True) (fun _ U o U' => ∃ v L, o = .returned v ∧ Q0 Z p1 a1 d1 h0 n0 v U'.heap L ∧ FrameEnd U o U' L room_1.cells room_1.slots) := by
  refine MetFree.of_bodySF (plainFor_of_name pn_RuleMaxRpuPinLaw) hisR ?_
  intro p e s m args below meth c s₁ Bd hml0 hP hK
  obtain ⟨rfl, hZ, hh⟩ := hP
  have hx := Bd.exec
  have hby := Bd.bytes
  have hml : c.maxLocals = 13 := hml0
  have hown : s.vm.findClass "com/example/throttle/throttle/model/RuleMaxRpuPinLaw" = some m.cls := findClass_of_methodNamed Bd.named
  have hnm := (name_of_methodNamed Bd.named Bd.method).1
  have X0 : Stand p l e room_1 s m #[(.int p1)] below meth c s₁ [] 0 0 := Stand.of_body Bd
  have e0 : s₁.heap = h0 := by rw [← hh, Bd.state]; rfl
  have N0 := Fr.nil n0
  have pre0 : ∀ t, Steps p.tables e below (s₁.setTop (mkF m 0 #[.val (.int p1), .unset, .unset, .unset, .unset, .unset, .unset, .unset, .unset, .unset, .unset, .unset, .unset] [])) t → Steps p.tables e below (s₁.setTop (entryFrame m #[(.int p1)] maxLocals)) t := fun t k => castTop (ef_0 m p1) k
  obtain ⟨T1, X1, e1, st1⟩ := getS2 X0 hx hZ hown (host := "") (Or.inl (hw _ (List.mem_of_getElem? (i := 0) rfl))) Via.refl e0 SU (g := (mkF m 8 #[.val (.int p1), .val (.int (0 : Int32)), .unset, .unset, .unset, .unset, .unset, .unset, .unset, .unset, .unset, .unset, .unset] [])) rfl (hb hby at_8)
  obtain ⟨_, _, ⟨T2, L2, k2, n2⟩, -, X2, ⟨Lc2, hQ2, l2, y2, z2⟩, st2⟩ := Jvm.LawKit.callS X1 hx (y := (⟨"com/example/throttle/throttle/model/Rule", "maxRpu", "(Lcom/example/throttle/throttle/model/Unit;)J"⟩ : MethodName)) hown (mvT hZ (hw _ (List.mem_of_getElem? (i := 5) rfl))) (mvT hZ (hw _ (List.mem_of_getElem? (i := 6) rfl))) (mvT hZ (hw _ (List.mem_of_getElem? (i := 7) rfl))) (mvT hZ (hw _ (List.mem_of_getElem? (i := 8) rfl))) (by decide) (backOf (W := 0) (rm1_0 l Z a0 hw [] a1 d1 h0 n0 Z0 EU FL ED FS FN) hZ (hw _ (List.mem_of_getElem? (i := 8) rfl)) (hw _ (List.mem_of_getElem? (i := 7) rfl)) (by decide) (by decide)) (g := (mkF m 80 #[.val (.int p1), .val (.int (0 : Int32)), .val (.ref a1), .val (.long (1000 : Int64)), .second, .val (.long (9223372036854775 : Int64)), .second, .unset, .unset, .unset, .unset, .unset, .unset] [(.ref a1)])) rfl (by rw [hml]; rfl) (argsL := [(.ref a1)]) (rest := []) (lenOf pd_5 rfl) rfl (by show 2 * 0 + _ ≤ _; exact Nat.le_of_eq rfl) (hb hby at_80) (fun _ _ => ⟨rfl, e1, (by decide : 0 + 0 ≤ _), (by decide : 0 + 0 ≤ _)⟩)
  dsimp only [Pt.U, Pt.locs, Pt.cells, Pt.slots] at X2 l2 y2 z2 st2 hQ2
  subst l2 y2 z2
  obtain ⟨rfl, N2q, eq2⟩ := hQ2
  have N2 := Fr.app N0 N2q
  obtain ⟨fs, hr, hrun, hended, hW, hsame⟩ := X2.leave (v := some (.int (1 : Int32))) (fun h => by rw [Bd.returns] at h; cases h)
  refine ⟨_, _, pre0 _ ?_, hrun, hended, _, _, rfl, ?_, ⟨_, rfl⟩, hW, hsame.mono (by decide) (by decide)⟩
  · show Steps p.tables e below (s₁.setTop (mkF m 0 #[.val (.int p1), .unset, .unset, .unset, .unset, .unset, .unset, .unset, .unset, .unset, .unset, .unset, .unset] [])) _
    refine XS.iloadN X0.here hx rfl (hb hby at_0) rfl ?_
    show Steps p.tables e below (s₁.setTop (mkF m 1 #[.val (.int p1), .unset, .unset, .unset, .unset, .unset, .unset, .unset, .unset, .unset, .unset, .unset, .unset] [(.int p1)])) _
    refine XS.iconst X0.here hx rfl (hb hby at_1) ?_
    show Steps p.tables e below (s₁.setTop (mkF m 2 #[.val (.int p1), .unset, .unset, .unset, .unset, .unset, .unset, .unset, .unset, .unset, .unset, .unset, .unset] [(.int (3 : Int32)), (.int p1)])) _
    refine XS.iand X0.here hx rfl (hb hby at_2) rfl ?_
    show Steps p.tables e below (s₁.setTop (mkF m 3 #[.val (.int p1), .unset, .unset, .unset, .unset, .unset, .unset, .unset, .unset, .unset, .unset, .unset, .unset] [(.int (p1 &&& (3 : Int32)))])) _
    rw [hk]
    show Steps p.tables e below (s₁.setTop (mkF m 3 #[.val (.int p1), .unset, .unset, .unset, .unset, .unset, .unset, .unset, .unset, .unset, .unset, .unset, .unset] [(.int (0 : Int32))])) _
    refine XS.istoreN X0.here hx rfl (hb hby at_3) rfl (l' := #[.val (.int p1), .val (.int (0 : Int32)), .unset, .unset, .unset, .unset, .unset, .unset, .unset, .unset, .unset, .unset, .unset]) rfl ?_
    show Steps p.tables e below (s₁.setTop (mkF m 4 #[.val (.int p1), .val (.int (0 : Int32)), .unset, .unset, .unset, .unset, .unset, .unset, .unset, .unset, .unset, .unset, .unset] [])) _
    refine XS.iloadN X0.here hx rfl (hb hby at_4) rfl ?_
    show Steps p.tables e below (s₁.setTop (mkF m 5 #[.val (.int p1), .val (.int (0 : Int32)), .unset, .unset, .unset, .unset, .unset, .unset, .unset, .unset, .unset, .unset, .unset] [(.int (0 : Int32))])) _
    refine XS.ifNo X0.here hx rfl (hb hby at_5) rfl ((if0 _ _).trans (teq (by decide +kernel)).2) ?_
    show Steps p.tables e below (s₁.setTop (mkF m 8 #[.val (.int p1), .val (.int (0 : Int32)), .unset, .unset, .unset, .unset, .unset, .unset, .unset, .unset, .unset, .unset, .unset] [])) _
    refine st1 _ ?_
    show Steps p.tables e below (T1.setTop (mkF m 11 #[.val (.int p1), .val (.int (0 : Int32)), .unset, .unset, .unset, .unset, .unset, .unset, .unset, .unset, .unset, .unset, .unset] [(.ref a1)])) _
    refine XS.astoreN X1.here hx rfl (hb hby at_11) rfl rfl (l' := #[.val (.int p1), .val (.int (0 : Int32)), .val (.ref a1), .unset, .unset, .unset, .unset, .unset, .unset, .unset, .unset, .unset, .unset]) rfl ?_
    show Steps p.tables e below (T1.setTop (mkF m 12 #[.val (.int p1), .val (.int (0 : Int32)), .val (.ref a1), .unset, .unset, .unset, .unset, .unset, .unset, .unset, .unset, .unset, .unset] [])) _
    refine X1.ldc2Long hx hown (mvT hZ (hw _ (List.mem_of_getElem? (i := 3) rfl))) (g := (mkF m 12 #[.val (.int p1), .val (.int (0 : Int32)), .val (.ref a1), .unset, .unset, .unset, .unset, .unset, .unset, .unset, .unset, .unset, .unset] [])) rfl (hb hby at_12) _ ?_
    show Steps p.tables e below (T1.setTop (mkF m 15 #[.val (.int p1), .val (.int (0 : Int32)), .val (.ref a1), .unset, .unset, .unset, .unset, .unset, .unset, .unset, .unset, .unset, .unset] [(.long (1000 : Int64))])) _
    refine XS.lstoreN X1.here hx rfl (hb hby at_15) rfl (l' := #[.val (.int p1), .val (.int (0 : Int32)), .val (.ref a1), .val (.long (1000 : Int64)), .second, .unset, .unset, .unset, .unset, .unset, .unset, .unset, .unset]) rfl ?_
    show Steps p.tables e below (T1.setTop (mkF m 16 #[.val (.int p1), .val (.int (0 : Int32)), .val (.ref a1), .val (.long (1000 : Int64)), .second, .unset, .unset, .unset, .unset, .unset, .unset, .unset, .unset] [])) _
    refine X1.ldc2Long hx hown (mvT hZ (hw _ (List.mem_of_getElem? (i := 4) rfl))) (g := (mkF m 16 #[.val (.int p1), .val (.int (0 : Int32)), .val (.ref a1), .val (.long (1000 : Int64)), .second, .unset, .unset, .unset, .unset, .unset, .unset, .unset, .unset] [])) rfl (hb hby at_16) _ ?_
    show Steps p.tables e below (T1.setTop (mkF m 19 #[.val (.int p1), .val (.int (0 : Int32)), .val (.ref a1), .val (.long (1000 : Int64)), .second, .unset, .unset, .unset, .unset, .unset, .unset, .unset, .unset] [(.long (9223372036854775 : Int64))])) _
    refine XS.lstore X1.here hx rfl (hb hby at_19) rfl (l' := #[.val (.int p1), .val (.int (0 : Int32)), .val (.ref a1), .val (.long (1000 : Int64)), .second, .val (.long (9223372036854775 : Int64)), .second, .unset, .unset, .unset, .unset, .unset, .unset]) rfl ?_
    show Steps p.tables e below (T1.setTop (mkF m 21 #[.val (.int p1), .val (.int (0 : Int32)), .val (.ref a1), .val (.long (1000 : Int64)), .second, .val (.long (9223372036854775 : Int64)), .second, .unset, .unset, .unset, .unset, .unset, .unset] [])) _
    refine XS.goto X1.here hx rfl (pc0 := 21) (pc' := 79) rfl (hb hby at_21) (by decide) (by decide) ?_
    show Steps p.tables e below (T1.setTop (mkF m 79 #[.val (.int p1), .val (.int (0 : Int32)), .val (.ref a1), .val (.long (1000 : Int64)), .second, .val (.long (9223372036854775 : Int64)), .second, .unset, .unset, .unset, .unset, .unset, .unset] [])) _
    refine XS.aloadN X1.here hx rfl (hb hby at_79) rfl rfl ?_
    show Steps p.tables e below (T1.setTop (mkF m 80 #[.val (.int p1), .val (.int (0 : Int32)), .val (.ref a1), .val (.long (1000 : Int64)), .second, .val (.long (9223372036854775 : Int64)), .second, .unset, .unset, .unset, .unset, .unset, .unset] [(.ref a1)])) _
    refine st2 _ ?_
    show Steps p.tables e below (T2.setTop (mkF m 83 #[.val (.int p1), .val (.int (0 : Int32)), .val (.ref a1), .val (.long (1000 : Int64)), .second, .val (.long (9223372036854775 : Int64)), .second, .unset, .unset, .unset, .unset, .unset, .unset] [(.long (9223372036854775 : Int64))])) _
    refine XS.lstore X2.here hx rfl (hb hby at_83) rfl (l' := #[.val (.int p1), .val (.int (0 : Int32)), .val (.ref a1), .val (.long (1000 : Int64)), .second, .val (.long (9223372036854775 : Int64)), .second, .val (.long (9223372036854775 : Int64)), .second, .unset, .unset, .unset, .unset]) rfl ?_
    show Steps p.tables e below (T2.setTop (mkF m 85 #[.val (.int p1), .val (.int (0 : Int32)), .val (.ref a1), .val (.long (1000 : Int64)), .second, .val (.long (9223372036854775 : Int64)), .second, .val (.long (9223372036854775 : Int64)), .second, .unset, .unset, .unset, .unset] [])) _
    refine XS.lload X2.here hx rfl (hb hby at_85) rfl ?_
    show Steps p.tables e below (T2.setTop (mkF m 87 #[.val (.int p1), .val (.int (0 : Int32)), .val (.ref a1), .val (.long (1000 : Int64)), .second, .val (.long (9223372036854775 : Int64)), .second, .val (.long (9223372036854775 : Int64)), .second, .unset, .unset, .unset, .unset] [(.long (9223372036854775 : Int64))])) _
    refine XS.lload X2.here hx rfl (hb hby at_87) rfl ?_
    show Steps p.tables e below (T2.setTop (mkF m 89 #[.val (.int p1), .val (.int (0 : Int32)), .val (.ref a1), .val (.long (1000 : Int64)), .second, .val (.long (9223372036854775 : Int64)), .second, .val (.long (9223372036854775 : Int64)), .second, .unset, .unset, .unset, .unset] [(.long (9223372036854775 : Int64)), (.long (9223372036854775 : Int64))])) _
    refine XS.lcmp X2.here hx rfl (hb hby at_89) rfl ?_
    show Steps p.tables e below (T2.setTop (mkF m 90 #[.val (.int p1), .val (.int (0 : Int32)), .val (.ref a1), .val (.long (1000 : Int64)), .second, .val (.long (9223372036854775 : Int64)), .second, .val (.long (9223372036854775 : Int64)), .second, .unset, .unset, .unset, .unset] [(.int (lcmpW (9223372036854775 : Int64) (9223372036854775 : Int64)))])) _
    refine XS.ifYes X2.here hx rfl (pc0 := 90) (pc' := 95) rfl (hb hby at_90) rfl ((if0 _ _).trans (teq (by decide +kernel)).1) (by decide) (by decide) ?_
    show Steps p.tables e below (T2.setTop (mkF m 95 #[.val (.int p1), .val (.int (0 : Int32)), .val (.ref a1), .val (.long (1000 : Int64)), .second, .val (.long (9223372036854775 : Int64)), .second, .val (.long (9223372036854775 : Int64)), .second, .unset, .unset, .unset, .unset] [])) _
    refine XS.lload X2.here hx rfl (hb hby at_95) rfl ?_
    show Steps p.tables e below (T2.setTop (mkF m 97 #[.val (.int p1), .val (.int (0 : Int32)), .val (.ref a1), .val (.long (1000 : Int64)), .second, .val (.long (9223372036854775 : Int64)), .second, .val (.long (9223372036854775 : Int64)), .second, .unset, .unset, .unset, .unset] [(.long (9223372036854775 : Int64))])) _
    refine XS.lloadN X2.here hx rfl (hb hby at_97) rfl ?_
    show Steps p.tables e below (T2.setTop (mkF m 98 #[.val (.int p1), .val (.int (0 : Int32)), .val (.ref a1), .val (.long (1000 : Int64)), .second, .val (.long (9223372036854775 : Int64)), .second, .val (.long (9223372036854775 : Int64)), .second, .unset, .unset, .unset, .unset] [(.long (1000 : Int64)), (.long (9223372036854775 : Int64))])) _
    refine XS.lmul X2.here hx rfl (hb hby at_98) rfl ?_
    show Steps p.tables e below (T2.setTop (mkF m 99 #[.val (.int p1), .val (.int (0 : Int32)), .val (.ref a1), .val (.long (1000 : Int64)), .second, .val (.long (9223372036854775 : Int64)), .second, .val (.long (9223372036854775 : Int64)), .second, .unset, .unset, .unset, .unset] [(.long ((9223372036854775 : Int64) * (1000 : Int64)))])) _
    refine XS.lstore X2.here hx rfl (hb hby at_99) rfl (l' := #[.val (.int p1), .val (.int (0 : Int32)), .val (.ref a1), .val (.long (1000 : Int64)), .second, .val (.long (9223372036854775 : Int64)), .second, .val (.long (9223372036854775 : Int64)), .second, .val (.long ((9223372036854775 : Int64) * (1000 : Int64))), .second, .unset, .unset]) rfl ?_
    show Steps p.tables e below (T2.setTop (mkF m 101 #[.val (.int p1), .val (.int (0 : Int32)), .val (.ref a1), .val (.long (1000 : Int64)), .second, .val (.long (9223372036854775 : Int64)), .second, .val (.long (9223372036854775 : Int64)), .second, .val (.long ((9223372036854775 : Int64) * (1000 : Int64))), .second, .unset, .unset] [])) _
    refine XS.lload X2.here hx rfl (hb hby at_101) rfl ?_
    show Steps p.tables e below (T2.setTop (mkF m 103 #[.val (.int p1), .val (.int (0 : Int32)), .val (.ref a1), .val (.long (1000 : Int64)), .second, .val (.long (9223372036854775 : Int64)), .second, .val (.long (9223372036854775 : Int64)), .second, .val (.long ((9223372036854775 : Int64) * (1000 : Int64))), .second, .unset, .unset] [(.long (9223372036854775 : Int64))])) _
    refine XS.lconst X2.here hx rfl (hb hby at_103) ?_
    show Steps p.tables e below (T2.setTop (mkF m 104 #[.val (.int p1), .val (.int (0 : Int32)), .val (.ref a1), .val (.long (1000 : Int64)), .second, .val (.long (9223372036854775 : Int64)), .second, .val (.long (9223372036854775 : Int64)), .second, .val (.long ((9223372036854775 : Int64) * (1000 : Int64))), .second, .unset, .unset] [(.long (1 : Int64)), (.long (9223372036854775 : Int64))])) _
    refine XS.lcmp X2.here hx rfl (hb hby at_104) rfl ?_
    show Steps p.tables e below (T2.setTop (mkF m 105 #[.val (.int p1), .val (.int (0 : Int32)), .val (.ref a1), .val (.long (1000 : Int64)), .second, .val (.long (9223372036854775 : Int64)), .second, .val (.long (9223372036854775 : Int64)), .second, .val (.long ((9223372036854775 : Int64) * (1000 : Int64))), .second, .unset, .unset] [(.int (lcmpW (9223372036854775 : Int64) (1 : Int64)))])) _
    refine XS.ifNo X2.here hx rfl (hb hby at_105) rfl ((if0 _ _).trans (flt (by decide +kernel)).1) ?_
    show Steps p.tables e below (T2.setTop (mkF m 108 #[.val (.int p1), .val (.int (0 : Int32)), .val (.ref a1), .val (.long (1000 : Int64)), .second, .val (.long (9223372036854775 : Int64)), .second, .val (.long (9223372036854775 : Int64)), .second, .val (.long ((9223372036854775 : Int64) * (1000 : Int64))), .second, .unset, .unset] [])) _
    refine XS.lload X2.here hx rfl (hb hby at_108) rfl ?_
    show Steps p.tables e below (T2.setTop (mkF m 110 #[.val (.int p1), .val (.int (0 : Int32)), .val (.ref a1), .val (.long (1000 : Int64)), .second, .val (.long (9223372036854775 : Int64)), .second, .val (.long (9223372036854775 : Int64)), .second, .val (.long ((9223372036854775 : Int64) * (1000 : Int64))), .second, .unset, .unset] [(.long ((9223372036854775 : Int64) * (1000 : Int64)))])) _
    refine XS.lconst X2.here hx rfl (hb hby at_110) ?_
    show Steps p.tables e below (T2.setTop (mkF m 111 #[.val (.int p1), .val (.int (0 : Int32)), .val (.ref a1), .val (.long (1000 : Int64)), .second, .val (.long (9223372036854775 : Int64)), .second, .val (.long (9223372036854775 : Int64)), .second, .val (.long ((9223372036854775 : Int64) * (1000 : Int64))), .second, .unset, .unset] [(.long (0 : Int64)), (.long ((9223372036854775 : Int64) * (1000 : Int64)))])) _
    refine XS.lcmp X2.here hx rfl (hb hby at_111) rfl ?_
    show Steps p.tables e below (T2.setTop (mkF m 112 #[.val (.int p1), .val (.int (0 : Int32)), .val (.ref a1), .val (.long (1000 : Int64)), .second, .val (.long (9223372036854775 : Int64)), .second, .val (.long (9223372036854775 : Int64)), .second, .val (.long ((9223372036854775 : Int64) * (1000 : Int64))), .second, .unset, .unset] [(.int (lcmpW ((9223372036854775 : Int64) * (1000 : Int64)) (0 : Int64)))])) _
    refine XS.ifNo X2.here hx rfl (hb hby at_112) rfl ((if0 _ _).trans (flt (by decide +kernel)).1) ?_
    show Steps p.tables e below (T2.setTop (mkF m 115 #[.val (.int p1), .val (.int (0 : Int32)), .val (.ref a1), .val (.long (1000 : Int64)), .second, .val (.long (9223372036854775 : Int64)), .second, .val (.long (9223372036854775 : Int64)), .second, .val (.long ((9223372036854775 : Int64) * (1000 : Int64))), .second, .unset, .unset] [])) _
    refine XS.lload X2.here hx rfl (hb hby at_115) rfl ?_
    show Steps p.tables e below (T2.setTop (mkF m 117 #[.val (.int p1), .val (.int (0 : Int32)), .val (.ref a1), .val (.long (1000 : Int64)), .second, .val (.long (9223372036854775 : Int64)), .second, .val (.long (9223372036854775 : Int64)), .second, .val (.long ((9223372036854775 : Int64) * (1000 : Int64))), .second, .unset, .unset] [(.long ((9223372036854775 : Int64) * (1000 : Int64)))])) _
    refine XS.lloadN X2.here hx rfl (hb hby at_117) rfl ?_
    show Steps p.tables e below (T2.setTop (mkF m 118 #[.val (.int p1), .val (.int (0 : Int32)), .val (.ref a1), .val (.long (1000 : Int64)), .second, .val (.long (9223372036854775 : Int64)), .second, .val (.long (9223372036854775 : Int64)), .second, .val (.long ((9223372036854775 : Int64) * (1000 : Int64))), .second, .unset, .unset] [(.long (1000 : Int64)), (.long ((9223372036854775 : Int64) * (1000 : Int64)))])) _
    refine XS.ldiv X2.here hx rfl (hb hby at_118) rfl (by decide +kernel) ?_
    show Steps p.tables e below (T2.setTop (mkF m 119 #[.val (.int p1), .val (.int (0 : Int32)), .val (.ref a1), .val (.long (1000 : Int64)), .second, .val (.long (9223372036854775 : Int64)), .second, .val (.long (9223372036854775 : Int64)), .second, .val (.long ((9223372036854775 : Int64) * (1000 : Int64))), .second, .unset, .unset] [(.long (((9223372036854775 : Int64) * (1000 : Int64)) / (1000 : Int64)))])) _
    refine XS.lload X2.here hx rfl (hb hby at_119) rfl ?_
    show Steps p.tables e below (T2.setTop (mkF m 121 #[.val (.int p1), .val (.int (0 : Int32)), .val (.ref a1), .val (.long (1000 : Int64)), .second, .val (.long (9223372036854775 : Int64)), .second, .val (.long (9223372036854775 : Int64)), .second, .val (.long ((9223372036854775 : Int64) * (1000 : Int64))), .second, .unset, .unset] [(.long (9223372036854775 : Int64)), (.long (((9223372036854775 : Int64) * (1000 : Int64)) / (1000 : Int64)))])) _
    refine XS.lcmp X2.here hx rfl (hb hby at_121) rfl ?_
    show Steps p.tables e below (T2.setTop (mkF m 122 #[.val (.int p1), .val (.int (0 : Int32)), .val (.ref a1), .val (.long (1000 : Int64)), .second, .val (.long (9223372036854775 : Int64)), .second, .val (.long (9223372036854775 : Int64)), .second, .val (.long ((9223372036854775 : Int64) * (1000 : Int64))), .second, .unset, .unset] [(.int (lcmpW (((9223372036854775 : Int64) * (1000 : Int64)) / (1000 : Int64)) (9223372036854775 : Int64)))])) _
    refine XS.ifNo X2.here hx rfl (hb hby at_122) rfl ((if0 _ _).trans (teq (by decide +kernel)).2) ?_
    show Steps p.tables e below (T2.setTop (mkF m 125 #[.val (.int p1), .val (.int (0 : Int32)), .val (.ref a1), .val (.long (1000 : Int64)), .second, .val (.long (9223372036854775 : Int64)), .second, .val (.long (9223372036854775 : Int64)), .second, .val (.long ((9223372036854775 : Int64) * (1000 : Int64))), .second, .unset, .unset] [])) _
    refine XS.iconst X2.here hx rfl (hb hby at_125) ?_
    show Steps p.tables e below (T2.setTop (mkF m 126 #[.val (.int p1), .val (.int (0 : Int32)), .val (.ref a1), .val (.long (1000 : Int64)), .second, .val (.long (9223372036854775 : Int64)), .second, .val (.long (9223372036854775 : Int64)), .second, .val (.long ((9223372036854775 : Int64) * (1000 : Int64))), .second, .unset, .unset] [(.int (1 : Int32))])) _
    refine XS.goto X2.here hx rfl (pc0 := 126) (pc' := 130) rfl (hb hby at_126) (by decide) (by decide) ?_
    show Steps p.tables e below (T2.setTop (mkF m 130 #[.val (.int p1), .val (.int (0 : Int32)), .val (.ref a1), .val (.long (1000 : Int64)), .second, .val (.long (9223372036854775 : Int64)), .second, .val (.long (9223372036854775 : Int64)), .second, .val (.long ((9223372036854775 : Int64) * (1000 : Int64))), .second, .unset, .unset] [(.int (1 : Int32))])) _
    refine XS.istore X2.here hx rfl (hb hby at_130) rfl (l' := #[.val (.int p1), .val (.int (0 : Int32)), .val (.ref a1), .val (.long (1000 : Int64)), .second, .val (.long (9223372036854775 : Int64)), .second, .val (.long (9223372036854775 : Int64)), .second, .val (.long ((9223372036854775 : Int64) * (1000 : Int64))), .second, .val (.int (1 : Int32)), .unset]) rfl ?_
    show Steps p.tables e below (T2.setTop (mkF m 132 #[.val (.int p1), .val (.int (0 : Int32)), .val (.ref a1), .val (.long (1000 : Int64)), .second, .val (.long (9223372036854775 : Int64)), .second, .val (.long (9223372036854775 : Int64)), .second, .val (.long ((9223372036854775 : Int64) * (1000 : Int64))), .second, .val (.int (1 : Int32)), .unset] [])) _
    refine X2.ldc2Long hx hown (mvT hZ (hw _ (List.mem_of_getElem? (i := 41) rfl))) (g := (mkF m 132 #[.val (.int p1), .val (.int (0 : Int32)), .val (.ref a1), .val (.long (1000 : Int64)), .second, .val (.long (9223372036854775 : Int64)), .second, .val (.long (9223372036854775 : Int64)), .second, .val (.long ((9223372036854775 : Int64) * (1000 : Int64))), .second, .val (.int (1 : Int32)), .unset] [])) rfl (hb hby at_132) _ ?_
    show Steps p.tables e below (T2.setTop (mkF m 135 #[.val (.int p1), .val (.int (0 : Int32)), .val (.ref a1), .val (.long (1000 : Int64)), .second, .val (.long (9223372036854775 : Int64)), .second, .val (.long (9223372036854775 : Int64)), .second, .val (.long ((9223372036854775 : Int64) * (1000 : Int64))), .second, .val (.int (1 : Int32)), .unset] [(.long (9223372036854775807 : Int64))])) _
    refine XS.lload X2.here hx rfl (hb hby at_135) rfl ?_
    show Steps p.tables e below (T2.setTop (mkF m 137 #[.val (.int p1), .val (.int (0 : Int32)), .val (.ref a1), .val (.long (1000 : Int64)), .second, .val (.long (9223372036854775 : Int64)), .second, .val (.long (9223372036854775 : Int64)), .second, .val (.long ((9223372036854775 : Int64) * (1000 : Int64))), .second, .val (.int (1 : Int32)), .unset] [(.long ((9223372036854775 : Int64) * (1000 : Int64))), (.long (9223372036854775807 : Int64))])) _
    refine XS.lsub X2.here hx rfl (hb hby at_137) rfl ?_
    show Steps p.tables e below (T2.setTop (mkF m 138 #[.val (.int p1), .val (.int (0 : Int32)), .val (.ref a1), .val (.long (1000 : Int64)), .second, .val (.long (9223372036854775 : Int64)), .second, .val (.long (9223372036854775 : Int64)), .second, .val (.long ((9223372036854775 : Int64) * (1000 : Int64))), .second, .val (.int (1 : Int32)), .unset] [(.long ((9223372036854775807 : Int64) - ((9223372036854775 : Int64) * (1000 : Int64))))])) _
    refine XS.lloadN X2.here hx rfl (hb hby at_138) rfl ?_
    show Steps p.tables e below (T2.setTop (mkF m 139 #[.val (.int p1), .val (.int (0 : Int32)), .val (.ref a1), .val (.long (1000 : Int64)), .second, .val (.long (9223372036854775 : Int64)), .second, .val (.long (9223372036854775 : Int64)), .second, .val (.long ((9223372036854775 : Int64) * (1000 : Int64))), .second, .val (.int (1 : Int32)), .unset] [(.long (1000 : Int64)), (.long ((9223372036854775807 : Int64) - ((9223372036854775 : Int64) * (1000 : Int64))))])) _
    refine XS.lcmp X2.here hx rfl (hb hby at_139) rfl ?_
    show Steps p.tables e below (T2.setTop (mkF m 140 #[.val (.int p1), .val (.int (0 : Int32)), .val (.ref a1), .val (.long (1000 : Int64)), .second, .val (.long (9223372036854775 : Int64)), .second, .val (.long (9223372036854775 : Int64)), .second, .val (.long ((9223372036854775 : Int64) * (1000 : Int64))), .second, .val (.int (1 : Int32)), .unset] [(.int (lcmpW ((9223372036854775807 : Int64) - ((9223372036854775 : Int64) * (1000 : Int64))) (1000 : Int64)))])) _
    refine XS.ifNo X2.here hx rfl (hb hby at_140) rfl ((if0 _ _).trans (tlt (by decide +kernel)).2.1) ?_
    show Steps p.tables e below (T2.setTop (mkF m 143 #[.val (.int p1), .val (.int (0 : Int32)), .val (.ref a1), .val (.long (1000 : Int64)), .second, .val (.long (9223372036854775 : Int64)), .second, .val (.long (9223372036854775 : Int64)), .second, .val (.long ((9223372036854775 : Int64) * (1000 : Int64))), .second, .val (.int (1 : Int32)), .unset] [])) _
    refine XS.iconst X2.here hx rfl (hb hby at_143) ?_
    show Steps p.tables e below (T2.setTop (mkF m 144 #[.val (.int p1), .val (.int (0 : Int32)), .val (.ref a1), .val (.long (1000 : Int64)), .second, .val (.long (9223372036854775 : Int64)), .second, .val (.long (9223372036854775 : Int64)), .second, .val (.long ((9223372036854775 : Int64) * (1000 : Int64))), .second, .val (.int (1 : Int32)), .unset] [(.int (1 : Int32))])) _
    refine XS.goto X2.here hx rfl (pc0 := 144) (pc' := 148) rfl (hb hby at_144) (by decide) (by decide) ?_
    show Steps p.tables e below (T2.setTop (mkF m 148 #[.val (.int p1), .val (.int (0 : Int32)), .val (.ref a1), .val (.long (1000 : Int64)), .second, .val (.long (9223372036854775 : Int64)), .second, .val (.long (9223372036854775 : Int64)), .second, .val (.long ((9223372036854775 : Int64) * (1000 : Int64))), .second, .val (.int (1 : Int32)), .unset] [(.int (1 : Int32))])) _
    refine XS.istore X2.here hx rfl (hb hby at_148) rfl (l' := #[.val (.int p1), .val (.int (0 : Int32)), .val (.ref a1), .val (.long (1000 : Int64)), .second, .val (.long (9223372036854775 : Int64)), .second, .val (.long (9223372036854775 : Int64)), .second, .val (.long ((9223372036854775 : Int64) * (1000 : Int64))), .second, .val (.int (1 : Int32)), .val (.int (1 : Int32))]) rfl ?_
    show Steps p.tables e below (T2.setTop (mkF m 150 #[.val (.int p1), .val (.int (0 : Int32)), .val (.ref a1), .val (.long (1000 : Int64)), .second, .val (.long (9223372036854775 : Int64)), .second, .val (.long (9223372036854775 : Int64)), .second, .val (.long ((9223372036854775 : Int64) * (1000 : Int64))), .second, .val (.int (1 : Int32)), .val (.int (1 : Int32))] [])) _
    refine XS.iload X2.here hx rfl (hb hby at_150) rfl ?_
    show Steps p.tables e below (T2.setTop (mkF m 152 #[.val (.int p1), .val (.int (0 : Int32)), .val (.ref a1), .val (.long (1000 : Int64)), .second, .val (.long (9223372036854775 : Int64)), .second, .val (.long (9223372036854775 : Int64)), .second, .val (.long ((9223372036854775 : Int64) * (1000 : Int64))), .second, .val (.int (1 : Int32)), .val (.int (1 : Int32))] [(.int (1 : Int32))])) _
    refine XS.ifNo X2.here hx rfl (hb hby at_152) rfl ((if0 _ _).trans (feq (by decide +kernel)).1) ?_
    show Steps p.tables e below (T2.setTop (mkF m 155 #[.val (.int p1), .val (.int (0 : Int32)), .val (.ref a1), .val (.long (1000 : Int64)), .second, .val (.long (9223372036854775 : Int64)), .second, .val (.long (9223372036854775 : Int64)), .second, .val (.long ((9223372036854775 : Int64) * (1000 : Int64))), .second, .val (.int (1 : Int32)), .val (.int (1 : Int32))] [])) _
    refine XS.iload X2.here hx rfl (hb hby at_155) rfl ?_
    show Steps p.tables e below (T2.setTop (mkF m 157 #[.val (.int p1), .val (.int (0 : Int32)), .val (.ref a1), .val (.long (1000 : Int64)), .second, .val (.long (9223372036854775 : Int64)), .second, .val (.long (9223372036854775 : Int64)), .second, .val (.long ((9223372036854775 : Int64) * (1000 : Int64))), .second, .val (.int (1 : Int32)), .val (.int (1 : Int32))] [(.int (1 : Int32))])) _
    refine XS.ifNo X2.here hx rfl (hb hby at_157) rfl ((if0 _ _).trans (feq (by decide +kernel)).1) ?_
    show Steps p.tables e below (T2.setTop (mkF m 160 #[.val (.int p1), .val (.int (0 : Int32)), .val (.ref a1), .val (.long (1000 : Int64)), .second, .val (.long (9223372036854775 : Int64)), .second, .val (.long (9223372036854775 : Int64)), .second, .val (.long ((9223372036854775 : Int64) * (1000 : Int64))), .second, .val (.int (1 : Int32)), .val (.int (1 : Int32))] [])) _
    refine XS.iconst X2.here hx rfl (hb hby at_160) ?_
    show Steps p.tables e below (T2.setTop (mkF m 161 #[.val (.int p1), .val (.int (0 : Int32)), .val (.ref a1), .val (.long (1000 : Int64)), .second, .val (.long (9223372036854775 : Int64)), .second, .val (.long (9223372036854775 : Int64)), .second, .val (.long ((9223372036854775 : Int64) * (1000 : Int64))), .second, .val (.int (1 : Int32)), .val (.int (1 : Int32))] [(.int (1 : Int32))])) _
    refine XS.goto X2.here hx rfl (pc0 := 161) (pc' := 165) rfl (hb hby at_161) (by decide) (by decide) ?_
    show Steps p.tables e below (T2.setTop (mkF m 165 #[.val (.int p1), .val (.int (0 : Int32)), .val (.ref a1), .val (.long (1000 : Int64)), .second, .val (.long (9223372036854775 : Int64)), .second, .val (.long (9223372036854775 : Int64)), .second, .val (.long ((9223372036854775 : Int64) * (1000 : Int64))), .second, .val (.int (1 : Int32)), .val (.int (1 : Int32))] [(.int (1 : Int32))])) _
    exact retN X2 hx (t := .boolean) Bd.returns (by simp) (hb hby at_165) hr
  · show Q0 Z p1 a1 d1 h0 n0 _ T2.heap _
    rw [eq2]
    exact ⟨rfl, N2⟩
def Q5_1 (Z : State)  (h0 : Heap) (n0 : Nat) (v : Option Value) (h : Heap) (L : List Loc) : Prop := v = some (.long (60000 : Int64)) ∧ Fr n0 L ∧ h = h0
set_option maxRecDepth 65536 in
set_option maxHeartbeats 40000000 in
theorem rm5_1 (l : Launch) (Z : State) (a0 : Array Value) (hw : ∀ d ∈ tables_1, d.before a0 Z = true) (ws : List Jvm.Cond)  (h0 : Heap) (n0 : Nat) (Z0 : n0 ≤ h0.size) :
    MetFree l (⟨"java/lang/Math", "multiplyExact", "(JJ)J"⟩ : MethodName) (head1 (Jvm.Cond.code (⟨"java/lang/Math", "multiplyExact", "(JJ)J"⟩ : MethodName) jdk_29_method_30_code 10 (some .long) :: ws) ({ frames := 1, cells := 0, slots := 0, locals := 13 } : Room)) (fun a U => a = #[(.long (60 : Int64)), (.long (1000 : Int64))] ∧ Z.Warmed39 U.vm ∧ U.heap = h0) (fun _ _ _ _ _ => True) (fun _ U o U' => ∃ v L, o = .returned v ∧ Q5_1 Z  h0 n0 v U'.heap L ∧ FrameEnd U o U' L ({ frames := 1, cells := 0, slots := 0, locals := 13 } : Room).cells ({ frames := 1, cells := 0, slots := 0, locals := 13 } : Room).slots) := by
  refine MetFree.of_bodySF (Jvm.Free.JP.mathPlain rfl (by decide +kernel)) hisR ?_
  intro p e s m args below meth c s₁ Bd hml0 hP hK
  obtain ⟨rfl, hZ, hh⟩ := hP
  have hx := Bd.exec
  have hby := Bd.bytes
  have hml : c.maxLocals = 10 := hml0
  have hown : s.vm.findClass "java/lang/Math" = some m.cls := findClass_of_methodNamed Bd.named
  have hnm := (name_of_methodNamed Bd.named Bd.method).1
  have X0 : Stand p l e ({ frames := 1, cells := 0, slots := 0, locals := 13 } : Room) s m #[(.long (60 : Int64)), (.long (1000 : Int64))] below meth c s₁ [] 0 0 := Stand.of_body Bd
  have e0 : s₁.heap = h0 := by rw [← hh, Bd.state]; rfl
  have N0 := Fr.nil n0
  have pre0 : ∀ t, Steps p.tables e below (s₁.setTop (mkF m 0 #[.val (.long (60 : Int64)), .second, .val (.long (1000 : Int64)), .second, .unset, .unset, .unset, .unset, .unset, .unset] [])) t → Steps p.tables e below (s₁.setTop (entryFrame m #[(.long (60 : Int64)), (.long (1000 : Int64))] 10)) t := fun t k => castTop (ef_5 m (60 : Int64) (1000 : Int64)) k
  obtain ⟨_, _, ⟨T1, L1, k1, n1⟩, -, X1, ⟨Lc1, hQ1, l1, y1, z1⟩, st1⟩ := Jvm.LawKit.callS X0 hx (y := (⟨"java/lang/Math", "abs", "(J)J"⟩ : MethodName)) hown (mvT hZ (hw _ (List.mem_of_getElem? (i := 34) rfl))) (mvT hZ (hw _ (List.mem_of_getElem? (i := 35) rfl))) (mvT hZ (hw _ (List.mem_of_getElem? (i := 29) rfl))) (mvT hZ (hw _ (List.mem_of_getElem? (i := 36) rfl))) (by decide) (backOf (W := 0) (rm6 l Z a0 hw [] (60 : Int64) h0 n0 Z0 (by decide +kernel)) hZ (hw _ (List.mem_of_getElem? (i := 36) rfl)) (hw _ (List.mem_of_getElem? (i := 29) rfl)) (by decide) (by decide)) (g := (mkF m 6 #[.val (.long (60 : Int64)), .second, .val (.long (1000 : Int64)), .second, .val (.long ((60 : Int64) * (1000 : Int64))), .second, .unset, .unset, .unset, .unset] [(.long (60 : Int64))])) rfl (by rw [hml]; rfl) (argsL := [(.long (60 : Int64))]) (rest := []) (lenOf pd_0 rfl) rfl (by show 2 * 0 + _ ≤ _; exact Nat.le_of_eq rfl) (hb hby d5_6) (fun _ _ => ⟨rfl, e0, (by decide : 0 + 0 ≤ _), (by decide : 0 + 0 ≤ _)⟩)
  dsimp only [Pt.U, Pt.locs, Pt.cells, Pt.slots] at X1 l1 y1 z1 st1 hQ1
  subst l1 y1 z1
  obtain ⟨rfl, N1q, eq1⟩ := hQ1
  have N1 := Fr.app N0 N1q
  obtain ⟨_, _, ⟨T2, L2, k2, n2⟩, -, X2, ⟨Lc2, hQ2, l2, y2, z2⟩, st2⟩ := Jvm.LawKit.callS X1 hx (y := (⟨"java/lang/Math", "abs", "(J)J"⟩ : MethodName)) hown (mvT hZ (hw _ (List.mem_of_getElem? (i := 34) rfl))) (mvT hZ (hw _ (List.mem_of_getElem? (i := 35) rfl))) (mvT hZ (hw _ (List.mem_of_getElem? (i := 29) rfl))) (mvT hZ (hw _ (List.mem_of_getElem? (i := 36) rfl))) (by decide) (backOf (W := 0) (rm6 l Z a0 hw [] (1000 : Int64) h0 n0 Z0 (by decide +kernel)) hZ (hw _ (List.mem_of_getElem? (i := 36) rfl)) (hw _ (List.mem_of_getElem? (i := 29) rfl)) (by decide) (by decide)) (g := (mkF m 12 #[.val (.long (60 : Int64)), .second, .val (.long (1000 : Int64)), .second, .val (.long ((60 : Int64) * (1000 : Int64))), .second, .val (.long (60 : Int64)), .second, .unset, .unset] [(.long (1000 : Int64))])) rfl (by rw [hml]; rfl) (argsL := [(.long (1000 : Int64))]) (rest := []) (lenOf pd_0 rfl) rfl (by show 2 * 0 + _ ≤ _; exact Nat.le_of_eq rfl) (hb hby d5_12) (fun _ _ => ⟨rfl, eq1, (by decide : 0 + 0 ≤ _), (by decide : 0 + 0 ≤ _)⟩)
  dsimp only [Pt.U, Pt.locs, Pt.cells, Pt.slots] at X2 l2 y2 z2 st2 hQ2
  subst l2 y2 z2
  obtain ⟨rfl, N2q, eq2⟩ := hQ2
  have N2 := Fr.app N1 N2q
  obtain ⟨fs, hr, hrun, hended, hW, hsame⟩ := X2.leave (v := some (.long ((60 : Int64) * (1000 : Int64)))) (fun h => by rw [Bd.returns] at h; cases h)
  refine ⟨_, _, pre0 _ ?_, hrun, hended, _, _, rfl, ?_, ⟨_, rfl⟩, hW, hsame.mono (by decide) (by decide)⟩
  · show Steps p.tables e below (s₁.setTop (mkF m 0 #[.val (.long (60 : Int64)), .second, .val (.long (1000 : Int64)), .second, .unset, .unset, .unset, .unset, .unset, .unset] [])) _
    refine XS.lloadN X0.here hx rfl (hb hby d5_0) rfl ?_
    show Steps p.tables e below (s₁.setTop (mkF m 1 #[.val (.long (60 : Int64)), .second, .val (.long (1000 : Int64)), .second, .unset, .unset, .unset, .unset, .unset, .unset] [(.long (60 : Int64))])) _
    refine XS.lloadN X0.here hx rfl (hb hby d5_1) rfl ?_
    show Steps p.tables e below (s₁.setTop (mkF m 2 #[.val (.long (60 : Int64)), .second, .val (.long (1000 : Int64)), .second, .unset, .unset, .unset, .unset, .unset, .unset] [(.long (1000 : Int64)), (.long (60 : Int64))])) _
    refine XS.lmul X0.here hx rfl (hb hby d5_2) rfl ?_
    show Steps p.tables e below (s₁.setTop (mkF m 3 #[.val (.long (60 : Int64)), .second, .val (.long (1000 : Int64)), .second, .unset, .unset, .unset, .unset, .unset, .unset] [(.long ((60 : Int64) * (1000 : Int64)))])) _
    refine XS.lstore X0.here hx rfl (hb hby d5_3) rfl (l' := #[.val (.long (60 : Int64)), .second, .val (.long (1000 : Int64)), .second, .val (.long ((60 : Int64) * (1000 : Int64))), .second, .unset, .unset, .unset, .unset]) rfl ?_
    show Steps p.tables e below (s₁.setTop (mkF m 5 #[.val (.long (60 : Int64)), .second, .val (.long (1000 : Int64)), .second, .val (.long ((60 : Int64) * (1000 : Int64))), .second, .unset, .unset, .unset, .unset] [])) _
    refine XS.lloadN X0.here hx rfl (hb hby d5_5) rfl ?_
    show Steps p.tables e below (s₁.setTop (mkF m 6 #[.val (.long (60 : Int64)), .second, .val (.long (1000 : Int64)), .second, .val (.long ((60 : Int64) * (1000 : Int64))), .second, .unset, .unset, .unset, .unset] [(.long (60 : Int64))])) _
    refine st1 _ ?_
    show Steps p.tables e below (T1.setTop (mkF m 9 #[.val (.long (60 : Int64)), .second, .val (.long (1000 : Int64)), .second, .val (.long ((60 : Int64) * (1000 : Int64))), .second, .unset, .unset, .unset, .unset] [(.long (60 : Int64))])) _
    refine XS.lstore X1.here hx rfl (hb hby d5_9) rfl (l' := #[.val (.long (60 : Int64)), .second, .val (.long (1000 : Int64)), .second, .val (.long ((60 : Int64) * (1000 : Int64))), .second, .val (.long (60 : Int64)), .second, .unset, .unset]) rfl ?_
    show Steps p.tables e below (T1.setTop (mkF m 11 #[.val (.long (60 : Int64)), .second, .val (.long (1000 : Int64)), .second, .val (.long ((60 : Int64) * (1000 : Int64))), .second, .val (.long (60 : Int64)), .second, .unset, .unset] [])) _
    refine XS.lloadN X1.here hx rfl (hb hby d5_11) rfl ?_
    show Steps p.tables e below (T1.setTop (mkF m 12 #[.val (.long (60 : Int64)), .second, .val (.long (1000 : Int64)), .second, .val (.long ((60 : Int64) * (1000 : Int64))), .second, .val (.long (60 : Int64)), .second, .unset, .unset] [(.long (1000 : Int64))])) _
    refine st2 _ ?_
    show Steps p.tables e below (T2.setTop (mkF m 15 #[.val (.long (60 : Int64)), .second, .val (.long (1000 : Int64)), .second, .val (.long ((60 : Int64) * (1000 : Int64))), .second, .val (.long (60 : Int64)), .second, .unset, .unset] [(.long (1000 : Int64))])) _
    refine XS.lstore X2.here hx rfl (hb hby d5_15) rfl (l' := #[.val (.long (60 : Int64)), .second, .val (.long (1000 : Int64)), .second, .val (.long ((60 : Int64) * (1000 : Int64))), .second, .val (.long (60 : Int64)), .second, .val (.long (1000 : Int64)), .second]) rfl ?_
    show Steps p.tables e below (T2.setTop (mkF m 17 #[.val (.long (60 : Int64)), .second, .val (.long (1000 : Int64)), .second, .val (.long ((60 : Int64) * (1000 : Int64))), .second, .val (.long (60 : Int64)), .second, .val (.long (1000 : Int64)), .second] [])) _
    refine XS.lload X2.here hx rfl (hb hby d5_17) rfl ?_
    show Steps p.tables e below (T2.setTop (mkF m 19 #[.val (.long (60 : Int64)), .second, .val (.long (1000 : Int64)), .second, .val (.long ((60 : Int64) * (1000 : Int64))), .second, .val (.long (60 : Int64)), .second, .val (.long (1000 : Int64)), .second] [(.long (60 : Int64))])) _
    refine XS.lload X2.here hx rfl (hb hby d5_19) rfl ?_
    show Steps p.tables e below (T2.setTop (mkF m 21 #[.val (.long (60 : Int64)), .second, .val (.long (1000 : Int64)), .second, .val (.long ((60 : Int64) * (1000 : Int64))), .second, .val (.long (60 : Int64)), .second, .val (.long (1000 : Int64)), .second] [(.long (1000 : Int64)), (.long (60 : Int64))])) _
    refine XS.lor X2.here hx rfl (hb hby d5_21) rfl ?_
    show Steps p.tables e below (T2.setTop (mkF m 22 #[.val (.long (60 : Int64)), .second, .val (.long (1000 : Int64)), .second, .val (.long ((60 : Int64) * (1000 : Int64))), .second, .val (.long (60 : Int64)), .second, .val (.long (1000 : Int64)), .second] [(.long ((60 : Int64) ||| (1000 : Int64)))])) _
    refine XS.bipush X2.here hx rfl (hb hby d5_22) ?_
    show Steps p.tables e below (T2.setTop (mkF m 24 #[.val (.long (60 : Int64)), .second, .val (.long (1000 : Int64)), .second, .val (.long ((60 : Int64) * (1000 : Int64))), .second, .val (.long (60 : Int64)), .second, .val (.long (1000 : Int64)), .second] [(.int (31 : Int32)), (.long ((60 : Int64) ||| (1000 : Int64)))])) _
    refine XS.lushr X2.here hx rfl (hb hby d5_24) rfl ?_
    show Steps p.tables e below (T2.setTop (mkF m 25 #[.val (.long (60 : Int64)), .second, .val (.long (1000 : Int64)), .second, .val (.long ((60 : Int64) * (1000 : Int64))), .second, .val (.long (60 : Int64)), .second, .val (.long (1000 : Int64)), .second] [(.long ((((60 : Int64) ||| (1000 : Int64)).toUInt64 >>> ((31 : Int32) &&& 0x3f).toInt64.toUInt64).toInt64))])) _
    refine XS.lconst X2.here hx rfl (hb hby d5_25) ?_
    show Steps p.tables e below (T2.setTop (mkF m 26 #[.val (.long (60 : Int64)), .second, .val (.long (1000 : Int64)), .second, .val (.long ((60 : Int64) * (1000 : Int64))), .second, .val (.long (60 : Int64)), .second, .val (.long (1000 : Int64)), .second] [(.long (0 : Int64)), (.long ((((60 : Int64) ||| (1000 : Int64)).toUInt64 >>> ((31 : Int32) &&& 0x3f).toInt64.toUInt64).toInt64))])) _
    refine XS.lcmp X2.here hx rfl (hb hby d5_26) rfl ?_
    show Steps p.tables e below (T2.setTop (mkF m 27 #[.val (.long (60 : Int64)), .second, .val (.long (1000 : Int64)), .second, .val (.long ((60 : Int64) * (1000 : Int64))), .second, .val (.long (60 : Int64)), .second, .val (.long (1000 : Int64)), .second] [(.int (lcmpW ((((60 : Int64) ||| (1000 : Int64)).toUInt64 >>> ((31 : Int32) &&& 0x3f).toInt64.toUInt64).toInt64) (0 : Int64)))])) _
    refine XS.ifYes X2.here hx rfl (pc0 := 27) (pc' := 71) rfl (hb hby d5_27) rfl ((if0 _ _).trans (teq (by decide +kernel)).1) (by decide) (by decide) ?_
    show Steps p.tables e below (T2.setTop (mkF m 71 #[.val (.long (60 : Int64)), .second, .val (.long (1000 : Int64)), .second, .val (.long ((60 : Int64) * (1000 : Int64))), .second, .val (.long (60 : Int64)), .second, .val (.long (1000 : Int64)), .second] [])) _
    refine XS.lload X2.here hx rfl (hb hby d5_71) rfl ?_
    show Steps p.tables e below (T2.setTop (mkF m 73 #[.val (.long (60 : Int64)), .second, .val (.long (1000 : Int64)), .second, .val (.long ((60 : Int64) * (1000 : Int64))), .second, .val (.long (60 : Int64)), .second, .val (.long (1000 : Int64)), .second] [(.long ((60 : Int64) * (1000 : Int64)))])) _
    exact X2.lreturnOut hx Bd.returns (hb hby d5_73) hr
  · show Q5_1 Z  h0 n0 _ T2.heap _
    rw [eq2]
    exact ⟨congrArg (fun z => some (Value.long z)) (by decide +kernel), N2, rfl⟩
def Q4_1 (Z : State)  (h0 : Heap) (n0 : Nat) (v : Option Value) (h : Heap) (L : List Loc) : Prop := v = some (.long (60000 : Int64)) ∧ Fr n0 L ∧ h = h0
set_option maxRecDepth 65536 in
set_option maxHeartbeats 40000000 in
theorem rm4_1 (l : Launch) (Z : State) (a0 : Array Value) (hw : ∀ d ∈ tables_1, d.before a0 Z = true) (ws : List Jvm.Cond)  (h0 : Heap) (n0 : Nat) (Z0 : n0 ≤ h0.size) :
    MetFree l (⟨"java/lang/Math", "multiplyExact", "(JI)J"⟩ : MethodName) (head1 (Jvm.Cond.code (⟨"java/lang/Math", "multiplyExact", "(JI)J"⟩ : MethodName) jdk_29_method_29_code 3 (some .long) :: ws) ({ frames := 2, cells := 0, slots := 0, locals := 34 } : Room)) (fun a U => a = #[(.long (60 : Int64)), (.int (1000 : Int32))] ∧ Z.Warmed39 U.vm ∧ U.heap = h0) (fun _ _ _ _ _ => True) (fun _ U o U' => ∃ v L, o = .returned v ∧ Q4_1 Z  h0 n0 v U'.heap L ∧ FrameEnd U o U' L ({ frames := 2, cells := 0, slots := 0, locals := 34 } : Room).cells ({ frames := 2, cells := 0, slots := 0, locals := 34 } : Room).slots) := by
  refine MetFree.of_bodySF (Jvm.Free.JP.mathPlain rfl (by decide +kernel)) hisR ?_
  intro p e s m args below meth c s₁ Bd hml0 hP hK
  obtain ⟨rfl, hZ, hh⟩ := hP
  have hx := Bd.exec
  have hby := Bd.bytes
  have hml : c.maxLocals = 3 := hml0
  have hown : s.vm.findClass "java/lang/Math" = some m.cls := findClass_of_methodNamed Bd.named
  have hnm := (name_of_methodNamed Bd.named Bd.method).1
  have X0 : Stand p l e ({ frames := 2, cells := 0, slots := 0, locals := 34 } : Room) s m #[(.long (60 : Int64)), (.int (1000 : Int32))] below meth c s₁ [] 0 0 := Stand.of_body Bd
  have e0 : s₁.heap = h0 := by rw [← hh, Bd.state]; rfl
  have N0 := Fr.nil n0
  have pre0 : ∀ t, Steps p.tables e below (s₁.setTop (mkF m 0 #[.val (.long (60 : Int64)), .second, .val (.int (1000 : Int32))] [])) t → Steps p.tables e below (s₁.setTop (entryFrame m #[(.long (60 : Int64)), (.int (1000 : Int32))] 3)) t := fun t k => castTop (ef_4 m (60 : Int64) (1000 : Int32)) k
  obtain ⟨_, _, ⟨T1, L1, k1, n1⟩, -, X1, ⟨Lc1, hQ1, l1, y1, z1⟩, st1⟩ := Jvm.LawKit.callS X0 hx (y := (⟨"java/lang/Math", "multiplyExact", "(JJ)J"⟩ : MethodName)) hown (mvT hZ (hw _ (List.mem_of_getElem? (i := 31) rfl))) (mvT hZ (hw _ (List.mem_of_getElem? (i := 32) rfl))) (mvT hZ (hw _ (List.mem_of_getElem? (i := 29) rfl))) (mvT hZ (hw _ (List.mem_of_getElem? (i := 33) rfl))) (by decide) (backOf (W := 0) (rm5_1 l Z a0 hw [] h0 n0 Z0) hZ (hw _ (List.mem_of_getElem? (i := 33) rfl)) (hw _ (List.mem_of_getElem? (i := 29) rfl)) (by decide) (by decide)) (g := (mkF m 3 #[.val (.long (60 : Int64)), .second, .val (.int (1000 : Int32))] [(.long (1000 : Int64)), (.long (60 : Int64))])) rfl (by rw [hml]; rfl) (argsL := [(.long (60 : Int64)), (.long (1000 : Int64))]) (rest := []) (lenOf pd_1 rfl) rfl (by show 2 * 0 + _ ≤ _; exact Nat.le_of_eq rfl) (hb hby d4_3) (fun _ _ => ⟨rfl, e0, (by decide : 0 + 0 ≤ _), (by decide : 0 + 0 ≤ _)⟩)
  dsimp only [Pt.U, Pt.locs, Pt.cells, Pt.slots] at X1 l1 y1 z1 st1 hQ1
  subst l1 y1 z1
  obtain ⟨rfl, N1q, eq1⟩ := hQ1
  have N1 := Fr.app N0 N1q
  obtain ⟨fs, hr, hrun, hended, hW, hsame⟩ := X1.leave (v := some (.long (60000 : Int64))) (fun h => by rw [Bd.returns] at h; cases h)
  refine ⟨_, _, pre0 _ ?_, hrun, hended, _, _, rfl, ?_, ⟨_, rfl⟩, hW, hsame.mono (by decide) (by decide)⟩
  · show Steps p.tables e below (s₁.setTop (mkF m 0 #[.val (.long (60 : Int64)), .second, .val (.int (1000 : Int32))] [])) _
    refine XS.lloadN X0.here hx rfl (hb hby d4_0) rfl ?_
    show Steps p.tables e below (s₁.setTop (mkF m 1 #[.val (.long (60 : Int64)), .second, .val (.int (1000 : Int32))] [(.long (60 : Int64))])) _
    refine XS.iloadN X0.here hx rfl (hb hby d4_1) rfl ?_
    show Steps p.tables e below (s₁.setTop (mkF m 2 #[.val (.long (60 : Int64)), .second, .val (.int (1000 : Int32))] [(.int (1000 : Int32)), (.long (60 : Int64))])) _
    refine XS.i2l X0.here hx rfl (hb hby d4_2) rfl ?_
    show Steps p.tables e below (s₁.setTop (mkF m 3 #[.val (.long (60 : Int64)), .second, .val (.int (1000 : Int32))] [(.long ((1000 : Int32).toInt64)), (.long (60 : Int64))])) _
    rw [show ((1000 : Int32).toInt64) = (1000 : Int64) from by decide +kernel]
    show Steps p.tables e below (s₁.setTop (mkF m 3 #[.val (.long (60 : Int64)), .second, .val (.int (1000 : Int32))] [(.long (1000 : Int64)), (.long (60 : Int64))])) _
    refine st1 _ ?_
    show Steps p.tables e below (T1.setTop (mkF m 6 #[.val (.long (60 : Int64)), .second, .val (.int (1000 : Int32))] [(.long (60000 : Int64))])) _
    exact X1.lreturnOut hx Bd.returns (hb hby d4_6) hr
  · show Q4_1 Z  h0 n0 _ T1.heap _
    rw [eq1]
    exact ⟨rfl, N1, rfl⟩
def Q7_1 (Z : State)  (h0 : Heap) (n0 : Nat) (v : Option Value) (h : Heap) (L : List Loc) : Prop := v = some (.long (60000 : Int64)) ∧ Fr n0 L ∧ h = h0
set_option maxRecDepth 65536 in
set_option maxHeartbeats 40000000 in
theorem rm7_1 (l : Launch) (Z : State) (a0 : Array Value) (hw : ∀ d ∈ tables_1, d.before a0 Z = true) (ws : List Jvm.Cond)  (h0 : Heap) (n0 : Nat) (Z0 : n0 ≤ h0.size) :
    MetFree l (⟨"java/lang/Math", "addExact", "(JJ)J"⟩ : MethodName) (head1 (Jvm.Cond.code (⟨"java/lang/Math", "addExact", "(JJ)J"⟩ : MethodName) jdk_29_method_25_code 6 (some .long) :: ws) ({ frames := 0, cells := 0, slots := 0, locals := 0 } : Room)) (fun a U => a = #[(.long (60000 : Int64)), (.long (0 : Int64))] ∧ Z.Warmed39 U.vm ∧ U.heap = h0) (fun _ _ _ _ _ => True) (fun _ U o U' => ∃ v L, o = .returned v ∧ Q7_1 Z  h0 n0 v U'.heap L ∧ FrameEnd U o U' L ({ frames := 0, cells := 0, slots := 0, locals := 0 } : Room).cells ({ frames := 0, cells := 0, slots := 0, locals := 0 } : Room).slots) := by
  refine MetFree.of_bodySF (Jvm.Free.JP.mathPlain rfl (by decide +kernel)) hisR ?_
  intro p e s m args below meth c s₁ Bd hml0 hP hK
  obtain ⟨rfl, hZ, hh⟩ := hP
  have hx := Bd.exec
  have hby := Bd.bytes
  have hml : c.maxLocals = 6 := hml0
  have hown : s.vm.findClass "java/lang/Math" = some m.cls := findClass_of_methodNamed Bd.named
  have hnm := (name_of_methodNamed Bd.named Bd.method).1
  have X0 : Stand p l e ({ frames := 0, cells := 0, slots := 0, locals := 0 } : Room) s m #[(.long (60000 : Int64)), (.long (0 : Int64))] below meth c s₁ [] 0 0 := Stand.of_body Bd
  have e0 : s₁.heap = h0 := by rw [← hh, Bd.state]; rfl
  have N0 := Fr.nil n0
  have pre0 : ∀ t, Steps p.tables e below (s₁.setTop (mkF m 0 #[.val (.long (60000 : Int64)), .second, .val (.long (0 : Int64)), .second, .unset, .unset] [])) t → Steps p.tables e below (s₁.setTop (entryFrame m #[(.long (60000 : Int64)), (.long (0 : Int64))] 6)) t := fun t k => castTop (ef_7 m (60000 : Int64) (0 : Int64)) k
  obtain ⟨fs, hr, hrun, hended, hW, hsame⟩ := X0.leave (v := some (.long ((60000 : Int64) + (0 : Int64)))) (fun h => by rw [Bd.returns] at h; cases h)
  refine ⟨_, _, pre0 _ ?_, hrun, hended, _, _, rfl, ?_, ⟨_, rfl⟩, hW, hsame.mono (by decide) (by decide)⟩
  · show Steps p.tables e below (s₁.setTop (mkF m 0 #[.val (.long (60000 : Int64)), .second, .val (.long (0 : Int64)), .second, .unset, .unset] [])) _
    refine XS.lloadN X0.here hx rfl (hb hby d7_0) rfl ?_
    show Steps p.tables e below (s₁.setTop (mkF m 1 #[.val (.long (60000 : Int64)), .second, .val (.long (0 : Int64)), .second, .unset, .unset] [(.long (60000 : Int64))])) _
    refine XS.lloadN X0.here hx rfl (hb hby d7_1) rfl ?_
    show Steps p.tables e below (s₁.setTop (mkF m 2 #[.val (.long (60000 : Int64)), .second, .val (.long (0 : Int64)), .second, .unset, .unset] [(.long (0 : Int64)), (.long (60000 : Int64))])) _
    refine XS.ladd X0.here hx rfl (hb hby d7_2) rfl ?_
    show Steps p.tables e below (s₁.setTop (mkF m 3 #[.val (.long (60000 : Int64)), .second, .val (.long (0 : Int64)), .second, .unset, .unset] [(.long ((60000 : Int64) + (0 : Int64)))])) _
    refine XS.lstore X0.here hx rfl (hb hby d7_3) rfl (l' := #[.val (.long (60000 : Int64)), .second, .val (.long (0 : Int64)), .second, .val (.long ((60000 : Int64) + (0 : Int64))), .second]) rfl ?_
    show Steps p.tables e below (s₁.setTop (mkF m 5 #[.val (.long (60000 : Int64)), .second, .val (.long (0 : Int64)), .second, .val (.long ((60000 : Int64) + (0 : Int64))), .second] [])) _
    refine XS.lloadN X0.here hx rfl (hb hby d7_5) rfl ?_
    show Steps p.tables e below (s₁.setTop (mkF m 6 #[.val (.long (60000 : Int64)), .second, .val (.long (0 : Int64)), .second, .val (.long ((60000 : Int64) + (0 : Int64))), .second] [(.long (60000 : Int64))])) _
    refine XS.lload X0.here hx rfl (hb hby d7_6) rfl ?_
    show Steps p.tables e below (s₁.setTop (mkF m 8 #[.val (.long (60000 : Int64)), .second, .val (.long (0 : Int64)), .second, .val (.long ((60000 : Int64) + (0 : Int64))), .second] [(.long ((60000 : Int64) + (0 : Int64))), (.long (60000 : Int64))])) _
    refine XS.lxor X0.here hx rfl (hb hby d7_8) rfl ?_
    show Steps p.tables e below (s₁.setTop (mkF m 9 #[.val (.long (60000 : Int64)), .second, .val (.long (0 : Int64)), .second, .val (.long ((60000 : Int64) + (0 : Int64))), .second] [(.long ((60000 : Int64) ^^^ ((60000 : Int64) + (0 : Int64))))])) _
    refine XS.lloadN X0.here hx rfl (hb hby d7_9) rfl ?_
    show Steps p.tables e below (s₁.setTop (mkF m 10 #[.val (.long (60000 : Int64)), .second, .val (.long (0 : Int64)), .second, .val (.long ((60000 : Int64) + (0 : Int64))), .second] [(.long (0 : Int64)), (.long ((60000 : Int64) ^^^ ((60000 : Int64) + (0 : Int64))))])) _
    refine XS.lload X0.here hx rfl (hb hby d7_10) rfl ?_
    show Steps p.tables e below (s₁.setTop (mkF m 12 #[.val (.long (60000 : Int64)), .second, .val (.long (0 : Int64)), .second, .val (.long ((60000 : Int64) + (0 : Int64))), .second] [(.long ((60000 : Int64) + (0 : Int64))), (.long (0 : Int64)), (.long ((60000 : Int64) ^^^ ((60000 : Int64) + (0 : Int64))))])) _
    refine XS.lxor X0.here hx rfl (hb hby d7_12) rfl ?_
    show Steps p.tables e below (s₁.setTop (mkF m 13 #[.val (.long (60000 : Int64)), .second, .val (.long (0 : Int64)), .second, .val (.long ((60000 : Int64) + (0 : Int64))), .second] [(.long ((0 : Int64) ^^^ ((60000 : Int64) + (0 : Int64)))), (.long ((60000 : Int64) ^^^ ((60000 : Int64) + (0 : Int64))))])) _
    refine XS.land X0.here hx rfl (hb hby d7_13) rfl ?_
    show Steps p.tables e below (s₁.setTop (mkF m 14 #[.val (.long (60000 : Int64)), .second, .val (.long (0 : Int64)), .second, .val (.long ((60000 : Int64) + (0 : Int64))), .second] [(.long (((60000 : Int64) ^^^ ((60000 : Int64) + (0 : Int64))) &&& ((0 : Int64) ^^^ ((60000 : Int64) + (0 : Int64)))))])) _
    refine XS.lconst X0.here hx rfl (hb hby d7_14) ?_
    show Steps p.tables e below (s₁.setTop (mkF m 15 #[.val (.long (60000 : Int64)), .second, .val (.long (0 : Int64)), .second, .val (.long ((60000 : Int64) + (0 : Int64))), .second] [(.long (0 : Int64)), (.long (((60000 : Int64) ^^^ ((60000 : Int64) + (0 : Int64))) &&& ((0 : Int64) ^^^ ((60000 : Int64) + (0 : Int64)))))])) _
    refine XS.lcmp X0.here hx rfl (hb hby d7_15) rfl ?_
    show Steps p.tables e below (s₁.setTop (mkF m 16 #[.val (.long (60000 : Int64)), .second, .val (.long (0 : Int64)), .second, .val (.long ((60000 : Int64) + (0 : Int64))), .second] [(.int (lcmpW (((60000 : Int64) ^^^ ((60000 : Int64) + (0 : Int64))) &&& ((0 : Int64) ^^^ ((60000 : Int64) + (0 : Int64)))) (0 : Int64)))])) _
    refine XS.ifYes X0.here hx rfl (pc0 := 16) (pc' := 29) rfl (hb hby d7_16) rfl ((if0 _ _).trans (flt (by decide +kernel)).2.1) (by decide) (by decide) ?_
    show Steps p.tables e below (s₁.setTop (mkF m 29 #[.val (.long (60000 : Int64)), .second, .val (.long (0 : Int64)), .second, .val (.long ((60000 : Int64) + (0 : Int64))), .second] [])) _
    refine XS.lload X0.here hx rfl (hb hby d7_29) rfl ?_
    show Steps p.tables e below (s₁.setTop (mkF m 31 #[.val (.long (60000 : Int64)), .second, .val (.long (0 : Int64)), .second, .val (.long ((60000 : Int64) + (0 : Int64))), .second] [(.long ((60000 : Int64) + (0 : Int64)))])) _
    exact X0.lreturnOut hx Bd.returns (hb hby d7_31) hr
  · show Q7_1 Z  h0 n0 _ s₁.heap _
    rw [e0]
    exact ⟨congrArg (fun z => some (Value.long z)) (by decide +kernel), N0, rfl⟩
def Q3_1 (Z : State) (d1 : Addr) (h0 : Heap) (n0 : Nat) (v : Option Value) (h : Heap) (L : List Loc) : Prop := v = some (.long (60000 : Int64)) ∧ Fr n0 L ∧ h = h0
set_option maxRecDepth 65536 in
set_option maxHeartbeats 40000000 in
theorem rm3_1 (l : Launch) (Z : State) (a0 : Array Value) (hw : ∀ d ∈ tables_1, d.before a0 Z = true) (ws : List Jvm.Cond) (d1 : Addr) (h0 : Heap) (n0 : Nat) (Z0 : n0 ≤ h0.size) (FS : Fld Z h0 d1 "java/time/Duration" "seconds" "J" (.long (60 : Int64))) (FN : Fld Z h0 d1 "java/time/Duration" "nanos" "I" (.int (0 : Int32))) :
    MetFree l (⟨"java/time/Duration", "toMillis", "()J"⟩ : MethodName) (head1 (Jvm.Cond.code (⟨"java/time/Duration", "toMillis", "()J"⟩ : MethodName) jdk_2316_method_57_code 7 (some .long) :: ws) ({ frames := 3, cells := 0, slots := 0, locals := 48 } : Room)) (fun a U => a = #[(.ref d1)] ∧ Z.Warmed39 U.vm ∧ U.heap = h0) (fun _ _ _ _ _ => True) (fun _ U o U' => ∃ v L, o = .returned v ∧ Q3_1 Z d1 h0 n0 v U'.heap L ∧ FrameEnd U o U' L ({ frames := 3, cells := 0, slots := 0, locals := 48 } : Room).cells ({ frames := 3, cells := 0, slots := 0, locals := 48 } : Room).slots) := by
  refine MetFree.of_bodySF (plainFor_of_name pn_Duration) hisR ?_
  intro p e s m args below meth c s₁ Bd hml0 hP hK
  obtain ⟨rfl, hZ, hh⟩ := hP
  have hx := Bd.exec
  have hby := Bd.bytes
  have hml : c.maxLocals = 7 := hml0
  have hown : s.vm.findClass "java/time/Duration" = some m.cls := findClass_of_methodNamed Bd.named
  have hnm := (name_of_methodNamed Bd.named Bd.method).1
  have X0 : Stand p l e ({ frames := 3, cells := 0, slots := 0, locals := 48 } : Room) s m #[(.ref d1)] below meth c s₁ [] 0 0 := Stand.of_body Bd
  have e0 : s₁.heap = h0 := by rw [← hh, Bd.state]; rfl
  have N0 := Fr.nil n0
  have pre0 : ∀ t, Steps p.tables e below (s₁.setTop (mkF m 0 #[.val (.ref d1), .unset, .unset, .unset, .unset, .unset, .unset] [])) t → Steps p.tables e below (s₁.setTop (entryFrame m #[(.ref d1)] 7)) t := fun t k => castTop (ef_3 m d1) k
  obtain ⟨T1, X1, e1, st1⟩ := getF X0 hx hZ hown (host := "") (Or.inl (hw _ (List.mem_of_getElem? (i := 23) rfl))) Via.refl e0 FS (g := (mkF m 1 #[.val (.ref d1), .unset, .unset, .unset, .unset, .unset, .unset] [(.ref d1)])) rfl rfl (hb hby d3_1)
  obtain ⟨T2, X2, e2, st2⟩ := getF X1 hx hZ hown (host := "") (Or.inl (hw _ (List.mem_of_getElem? (i := 25) rfl))) Via.refl e1 FN (g := (mkF m 6 #[.val (.ref d1), .val (.long (60 : Int64)), .second, .unset, .unset, .unset, .unset] [(.ref d1)])) rfl rfl (hb hby d3_6)
  obtain ⟨_, _, ⟨T3, L3, k3, n3⟩, -, X3, ⟨Lc3, hQ3, l3, y3, z3⟩, st3⟩ := Jvm.LawKit.callS X2 hx (y := (⟨"java/lang/Math", "multiplyExact", "(JI)J"⟩ : MethodName)) hown (mvT hZ (hw _ (List.mem_of_getElem? (i := 27) rfl))) (mvT hZ (hw _ (List.mem_of_getElem? (i := 28) rfl))) (mvT hZ (hw _ (List.mem_of_getElem? (i := 29) rfl))) (mvT hZ (hw _ (List.mem_of_getElem? (i := 30) rfl))) (by decide) (backOf (W := 0) (rm4_1 l Z a0 hw [] h0 n0 Z0) hZ (hw _ (List.mem_of_getElem? (i := 30) rfl)) (hw _ (List.mem_of_getElem? (i := 29) rfl)) (by decide) (by decide)) (g := (mkF m 31 #[.val (.ref d1), .val (.long (60 : Int64)), .second, .val (.long (0 : Int64)), .second, .unset, .unset] [(.int (1000 : Int32)), (.long (60 : Int64))])) rfl (by rw [hml]; rfl) (argsL := [(.long (60 : Int64)), (.int (1000 : Int32))]) (rest := []) (lenOf pd_2 rfl) rfl (by show 2 * 0 + _ ≤ _; exact Nat.le_of_eq rfl) (hb hby d3_31) (fun _ _ => ⟨rfl, e2, (by decide : 0 + 0 ≤ _), (by decide : 0 + 0 ≤ _)⟩)
  dsimp only [Pt.U, Pt.locs, Pt.cells, Pt.slots] at X3 l3 y3 z3 st3 hQ3
  subst l3 y3 z3
  obtain ⟨rfl, N3q, eq3⟩ := hQ3
  have N3 := Fr.app N0 N3q
  obtain ⟨_, _, ⟨T4, L4, k4, n4⟩, -, X4, ⟨Lc4, hQ4, l4, y4, z4⟩, st4⟩ := Jvm.LawKit.callS X3 hx (y := (⟨"java/lang/Math", "addExact", "(JJ)J"⟩ : MethodName)) hown (mvT hZ (hw _ (List.mem_of_getElem? (i := 38) rfl))) (mvT hZ (hw _ (List.mem_of_getElem? (i := 39) rfl))) (mvT hZ (hw _ (List.mem_of_getElem? (i := 29) rfl))) (mvT hZ (hw _ (List.mem_of_getElem? (i := 40) rfl))) (by decide) (backOf (W := 0) (rm7_1 l Z a0 hw [] h0 n0 Z0) hZ (hw _ (List.mem_of_getElem? (i := 40) rfl)) (hw _ (List.mem_of_getElem? (i := 29) rfl)) (by decide) (by decide)) (g := (mkF m 43 #[.val (.ref d1), .val (.long (60 : Int64)), .second, .val (.long (0 : Int64)), .second, .val (.long (60000 : Int64)), .second] [(.long (0 : Int64)), (.long (60000 : Int64))])) rfl (by rw [hml]; rfl) (argsL := [(.long (60000 : Int64)), (.long (0 : Int64))]) (rest := []) (lenOf pd_1 rfl) rfl (by show 2 * 0 + _ ≤ _; exact Nat.le_of_eq rfl) (hb hby d3_43) (fun _ _ => ⟨rfl, eq3, (by decide : 0 + 0 ≤ _), (by decide : 0 + 0 ≤ _)⟩)
  dsimp only [Pt.U, Pt.locs, Pt.cells, Pt.slots] at X4 l4 y4 z4 st4 hQ4
  subst l4 y4 z4
  obtain ⟨rfl, N4q, eq4⟩ := hQ4
  have N4 := Fr.app N3 N4q
  obtain ⟨fs, hr, hrun, hended, hW, hsame⟩ := X4.leave (v := some (.long (60000 : Int64))) (fun h => by rw [Bd.returns] at h; cases h)
  refine ⟨_, _, pre0 _ ?_, hrun, hended, _, _, rfl, ?_, ⟨_, rfl⟩, hW, hsame.mono (by decide) (by decide)⟩
  · show Steps p.tables e below (s₁.setTop (mkF m 0 #[.val (.ref d1), .unset, .unset, .unset, .unset, .unset, .unset] [])) _
    refine XS.aloadN X0.here hx rfl (hb hby d3_0) rfl rfl ?_
    show Steps p.tables e below (s₁.setTop (mkF m 1 #[.val (.ref d1), .unset, .unset, .unset, .unset, .unset, .unset] [(.ref d1)])) _
    refine st1 _ ?_
    show Steps p.tables e below (T1.setTop (mkF m 4 #[.val (.ref d1), .unset, .unset, .unset, .unset, .unset, .unset] [(.long (60 : Int64))])) _
    refine XS.lstoreN X1.here hx rfl (hb hby d3_4) rfl (l' := #[.val (.ref d1), .val (.long (60 : Int64)), .second, .unset, .unset, .unset, .unset]) rfl ?_
    show Steps p.tables e below (T1.setTop (mkF m 5 #[.val (.ref d1), .val (.long (60 : Int64)), .second, .unset, .unset, .unset, .unset] [])) _
    refine XS.aloadN X1.here hx rfl (hb hby d3_5) rfl rfl ?_
    show Steps p.tables e below (T1.setTop (mkF m 6 #[.val (.ref d1), .val (.long (60 : Int64)), .second, .unset, .unset, .unset, .unset] [(.ref d1)])) _
    refine st2 _ ?_
    show Steps p.tables e below (T2.setTop (mkF m 9 #[.val (.ref d1), .val (.long (60 : Int64)), .second, .unset, .unset, .unset, .unset] [(.int (0 : Int32))])) _
    refine XS.i2l X2.here hx rfl (hb hby d3_9) rfl ?_
    show Steps p.tables e below (T2.setTop (mkF m 10 #[.val (.ref d1), .val (.long (60 : Int64)), .second, .unset, .unset, .unset, .unset] [(.long ((0 : Int32).toInt64))])) _
    rw [show ((0 : Int32).toInt64) = (0 : Int64) from by decide +kernel]
    show Steps p.tables e below (T2.setTop (mkF m 10 #[.val (.ref d1), .val (.long (60 : Int64)), .second, .unset, .unset, .unset, .unset] [(.long (0 : Int64))])) _
    refine XS.lstoreN X2.here hx rfl (hb hby d3_10) rfl (l' := #[.val (.ref d1), .val (.long (60 : Int64)), .second, .val (.long (0 : Int64)), .second, .unset, .unset]) rfl ?_
    show Steps p.tables e below (T2.setTop (mkF m 11 #[.val (.ref d1), .val (.long (60 : Int64)), .second, .val (.long (0 : Int64)), .second, .unset, .unset] [])) _
    refine XS.lloadN X2.here hx rfl (hb hby d3_11) rfl ?_
    show Steps p.tables e below (T2.setTop (mkF m 12 #[.val (.ref d1), .val (.long (60 : Int64)), .second, .val (.long (0 : Int64)), .second, .unset, .unset] [(.long (60 : Int64))])) _
    refine XS.lconst X2.here hx rfl (hb hby d3_12) ?_
    show Steps p.tables e below (T2.setTop (mkF m 13 #[.val (.ref d1), .val (.long (60 : Int64)), .second, .val (.long (0 : Int64)), .second, .unset, .unset] [(.long (0 : Int64)), (.long (60 : Int64))])) _
    refine XS.lcmp X2.here hx rfl (hb hby d3_13) rfl ?_
    show Steps p.tables e below (T2.setTop (mkF m 14 #[.val (.ref d1), .val (.long (60 : Int64)), .second, .val (.long (0 : Int64)), .second, .unset, .unset] [(.int (lcmpW (60 : Int64) (0 : Int64)))])) _
    refine XS.ifYes X2.here hx rfl (pc0 := 14) (pc' := 27) rfl (hb hby d3_14) rfl ((if0 _ _).trans (flt (by decide +kernel)).2.1) (by decide) (by decide) ?_
    show Steps p.tables e below (T2.setTop (mkF m 27 #[.val (.ref d1), .val (.long (60 : Int64)), .second, .val (.long (0 : Int64)), .second, .unset, .unset] [])) _
    refine XS.lloadN X2.here hx rfl (hb hby d3_27) rfl ?_
    show Steps p.tables e below (T2.setTop (mkF m 28 #[.val (.ref d1), .val (.long (60 : Int64)), .second, .val (.long (0 : Int64)), .second, .unset, .unset] [(.long (60 : Int64))])) _
    refine XS.sipush X2.here hx rfl (hb hby d3_28) ?_
    show Steps p.tables e below (T2.setTop (mkF m 31 #[.val (.ref d1), .val (.long (60 : Int64)), .second, .val (.long (0 : Int64)), .second, .unset, .unset] [(.int (1000 : Int32)), (.long (60 : Int64))])) _
    refine st3 _ ?_
    show Steps p.tables e below (T3.setTop (mkF m 34 #[.val (.ref d1), .val (.long (60 : Int64)), .second, .val (.long (0 : Int64)), .second, .unset, .unset] [(.long (60000 : Int64))])) _
    refine XS.lstore X3.here hx rfl (hb hby d3_34) rfl (l' := #[.val (.ref d1), .val (.long (60 : Int64)), .second, .val (.long (0 : Int64)), .second, .val (.long (60000 : Int64)), .second]) rfl ?_
    show Steps p.tables e below (T3.setTop (mkF m 36 #[.val (.ref d1), .val (.long (60 : Int64)), .second, .val (.long (0 : Int64)), .second, .val (.long (60000 : Int64)), .second] [])) _
    refine XS.lload X3.here hx rfl (hb hby d3_36) rfl ?_
    show Steps p.tables e below (T3.setTop (mkF m 38 #[.val (.ref d1), .val (.long (60 : Int64)), .second, .val (.long (0 : Int64)), .second, .val (.long (60000 : Int64)), .second] [(.long (60000 : Int64))])) _
    refine XS.lloadN X3.here hx rfl (hb hby d3_38) rfl ?_
    show Steps p.tables e below (T3.setTop (mkF m 39 #[.val (.ref d1), .val (.long (60 : Int64)), .second, .val (.long (0 : Int64)), .second, .val (.long (60000 : Int64)), .second] [(.long (0 : Int64)), (.long (60000 : Int64))])) _
    refine X3.ldc2Long hx hown (mvT hZ (hw _ (List.mem_of_getElem? (i := 37) rfl))) (g := (mkF m 39 #[.val (.ref d1), .val (.long (60 : Int64)), .second, .val (.long (0 : Int64)), .second, .val (.long (60000 : Int64)), .second] [(.long (0 : Int64)), (.long (60000 : Int64))])) rfl (hb hby d3_39) _ ?_
    show Steps p.tables e below (T3.setTop (mkF m 42 #[.val (.ref d1), .val (.long (60 : Int64)), .second, .val (.long (0 : Int64)), .second, .val (.long (60000 : Int64)), .second] [(.long (1000000 : Int64)), (.long (0 : Int64)), (.long (60000 : Int64))])) _
    refine XS.ldiv X3.here hx rfl (hb hby d3_42) rfl (by decide +kernel) ?_
    show Steps p.tables e below (T3.setTop (mkF m 43 #[.val (.ref d1), .val (.long (60 : Int64)), .second, .val (.long (0 : Int64)), .second, .val (.long (60000 : Int64)), .second] [(.long ((0 : Int64) / (1000000 : Int64))), (.long (60000 : Int64))])) _
    rw [show ((0 : Int64) / (1000000 : Int64)) = (0 : Int64) from by decide +kernel]
    show Steps p.tables e below (T3.setTop (mkF m 43 #[.val (.ref d1), .val (.long (60 : Int64)), .second, .val (.long (0 : Int64)), .second, .val (.long (60000 : Int64)), .second] [(.long (0 : Int64)), (.long (60000 : Int64))])) _
    refine st4 _ ?_
    show Steps p.tables e below (T4.setTop (mkF m 46 #[.val (.ref d1), .val (.long (60 : Int64)), .second, .val (.long (0 : Int64)), .second, .val (.long (60000 : Int64)), .second] [(.long (60000 : Int64))])) _
    refine XS.lstore X4.here hx rfl (hb hby d3_46) rfl (l' := #[.val (.ref d1), .val (.long (60 : Int64)), .second, .val (.long (0 : Int64)), .second, .val (.long (60000 : Int64)), .second]) rfl ?_
    show Steps p.tables e below (T4.setTop (mkF m 48 #[.val (.ref d1), .val (.long (60 : Int64)), .second, .val (.long (0 : Int64)), .second, .val (.long (60000 : Int64)), .second] [])) _
    refine XS.lload X4.here hx rfl (hb hby d3_48) rfl ?_
    show Steps p.tables e below (T4.setTop (mkF m 50 #[.val (.ref d1), .val (.long (60 : Int64)), .second, .val (.long (0 : Int64)), .second, .val (.long (60000 : Int64)), .second] [(.long (60000 : Int64))])) _
    exact X4.lreturnOut hx Bd.returns (hb hby d3_50) hr
  · show Q3_1 Z d1 h0 n0 _ T4.heap _
    rw [eq4]
    exact ⟨rfl, N4, rfl⟩
def Q1_1 (Z : State) (a1 d1 : Addr) (h0 : Heap) (n0 : Nat) (v : Option Value) (h : Heap) (L : List Loc) : Prop := v = some (.long (153722867280912 : Int64)) ∧ Fr n0 L ∧ h = h0
set_option maxRecDepth 65536 in
set_option maxHeartbeats 40000000 in
theorem rm1_1 (l : Launch) (Z : State) (a0 : Array Value) (hw : ∀ d ∈ tables_1, d.before a0 Z = true) (ws : List Jvm.Cond) (a1 d1 : Addr) (h0 : Heap) (n0 : Nat) (Z0 : n0 ≤ h0.size) (EU : Exa Z h0 a1 "com/example/throttle/throttle/model/Unit") (FL : Fld Z h0 a1 "com/example/throttle/throttle/model/Unit" "length" "Ljava/time/Duration;" (.ref d1)) (ED : Exa Z h0 d1 "java/time/Duration") (FS : Fld Z h0 d1 "java/time/Duration" "seconds" "J" (.long (60 : Int64))) (FN : Fld Z h0 d1 "java/time/Duration" "nanos" "I" (.int (0 : Int32))) :
    MetFree l (⟨"com/example/throttle/throttle/model/Rule", "maxRpu", "(Lcom/example/throttle/throttle/model/Unit;)J"⟩ : MethodName) (head1 (Jvm.Cond.code (⟨"com/example/throttle/throttle/model/Rule", "maxRpu", "(Lcom/example/throttle/throttle/model/Unit;)J"⟩ : MethodName) prog_4_method_2_code 1 (some .long) :: ws) ({ frames := 4, cells := 0, slots := 0, locals := 68 } : Room)) (fun a U => a = #[(.ref a1)] ∧ Z.Warmed39 U.vm ∧ U.heap = h0) (fun _ _ _ _ _ => True) (fun _ U o U' => ∃ v L, o = .returned v ∧ Q1_1 Z a1 d1 h0 n0 v U'.heap L ∧ FrameEnd U o U' L ({ frames := 4, cells := 0, slots := 0, locals := 68 } : Room).cells ({ frames := 4, cells := 0, slots := 0, locals := 68 } : Room).slots) := by
  refine MetFree.of_bodySF (plainFor_of_name pn_Rule) hisR ?_
  intro p e s m args below meth c s₁ Bd hml0 hP hK
  obtain ⟨rfl, hZ, hh⟩ := hP
  have hx := Bd.exec
  have hby := Bd.bytes
  have hml : c.maxLocals = 1 := hml0
  have hown : s.vm.findClass "com/example/throttle/throttle/model/Rule" = some m.cls := findClass_of_methodNamed Bd.named
  have hnm := (name_of_methodNamed Bd.named Bd.method).1
  have X0 : Stand p l e ({ frames := 4, cells := 0, slots := 0, locals := 68 } : Room) s m #[(.ref a1)] below meth c s₁ [] 0 0 := Stand.of_body Bd
  have e0 : s₁.heap = h0 := by rw [← hh, Bd.state]; rfl
  have N0 := Fr.nil n0
  have pre0 : ∀ t, Steps p.tables e below (s₁.setTop (mkF m 0 #[.val (.ref a1)] [])) t → Steps p.tables e below (s₁.setTop (entryFrame m #[(.ref a1)] 1)) t := fun t k => castTop (ef_1 m a1) k
  obtain ⟨cq1, kq1, q1a, q1b, q1c⟩ := isOf hZ e0 EU
  obtain ⟨_, _, ⟨T1, L1, k1, n1⟩, -, X1, ⟨Lc1, hQ1, l1, y1, z1⟩, st1⟩ := X0.virtualBack hx (y := (⟨"com/example/throttle/throttle/model/Unit", "length", "()Ljava/time/Duration;"⟩ : MethodName)) (z := (⟨"com/example/throttle/throttle/model/Unit", "length", "()Ljava/time/Duration;"⟩ : MethodName)) hown (mvT hZ (hw _ (List.mem_of_getElem? (i := 10) rfl))) (mvT hZ (hw _ (List.mem_of_getElem? (i := 11) rfl))) (notFace_of_selects (args := #[]) (mvT hZ (hw _ (List.mem_of_getElem? (i := 13) rfl)))) (mvT hZ (hw _ (List.mem_of_getElem? (i := 13) rfl))) (mvT hZ (hw _ (List.mem_of_getElem? (i := 12) rfl))) (by decide) (backOf (W := 2) (rm2 l Z a0 hw [] a1 d1 h0 n0 Z0 FL) hZ (hw _ (List.mem_of_getElem? (i := 14) rfl)) (hw _ (List.mem_of_getElem? (i := 1) rfl)) (by decide) (by decide)) q1a q1c (g := (mkF m 4 #[.val (.ref a1)] [(.ref a1), (.long (9223372036854775807 : Int64))])) rfl (by rw [hml]; rfl) (Steps.refl _) (argsL := []) (rest := [(.long (9223372036854775807 : Int64))]) (lenOf pd_3 rfl) rfl (by show 2 * 0 + _ ≤ _; exact Nat.le_of_eq rfl) (hb hby d1_4) (fun _ _ => ⟨rfl, e0, (by decide : 0 + 0 ≤ _), (by decide : 0 + 0 ≤ _)⟩)
  dsimp only [Pt.U, Pt.locs, Pt.cells, Pt.slots] at X1 l1 y1 z1 st1 hQ1
  subst l1 y1 z1
  obtain ⟨rfl, N1q, eq1⟩ := hQ1
  have N1 := Fr.app N0 N1q
  obtain ⟨cq2, kq2, q2a, q2b, q2c⟩ := isOf hZ eq1 ED
  obtain ⟨_, _, ⟨T2, L2, k2, n2⟩, -, X2, ⟨Lc2, hQ2, l2, y2, z2⟩, st2⟩ := X1.virtualBack hx (y := (⟨"java/time/Duration", "toMillis", "()J"⟩ : MethodName)) (z := (⟨"java/time/Duration", "toMillis", "()J"⟩ : MethodName)) hown (mvT hZ (hw _ (List.mem_of_getElem? (i := 17) rfl))) (mvT hZ (hw _ (List.mem_of_getElem? (i := 18) rfl))) (notFace_of_selects (args := #[]) (mvT hZ (hw _ (List.mem_of_getElem? (i := 20) rfl)))) (mvT hZ (hw _ (List.mem_of_getElem? (i := 20) rfl))) (mvT hZ (hw _ (List.mem_of_getElem? (i := 19) rfl))) (by decide) (backOf (W := 2) (rm3_1 l Z a0 hw [] d1 h0 n0 Z0 FS FN) hZ (hw _ (List.mem_of_getElem? (i := 22) rfl)) (hw _ (List.mem_of_getElem? (i := 21) rfl)) (by decide) (by decide)) q2a q2c (g := (mkF m 7 #[.val (.ref a1)] [(.ref d1), (.long (9223372036854775807 : Int64))])) rfl (by rw [hml]; rfl) (Steps.refl _) (argsL := []) (rest := [(.long (9223372036854775807 : Int64))]) (lenOf pd_4 rfl) rfl (by show 2 * 0 + _ ≤ _; exact Nat.le_of_eq rfl) (hb hby d1_7) (fun _ _ => ⟨rfl, eq1, (by decide : 0 + 0 ≤ _), (by decide : 0 + 0 ≤ _)⟩)
  dsimp only [Pt.U, Pt.locs, Pt.cells, Pt.slots] at X2 l2 y2 z2 st2 hQ2
  subst l2 y2 z2
  obtain ⟨rfl, N2q, eq2⟩ := hQ2
  have N2 := Fr.app N1 N2q
  obtain ⟨fs, hr, hrun, hended, hW, hsame⟩ := X2.leave (v := some (.long ((9223372036854775807 : Int64) / (60000 : Int64)))) (fun h => by rw [Bd.returns] at h; cases h)
  refine ⟨_, _, pre0 _ ?_, hrun, hended, _, _, rfl, ?_, ⟨_, rfl⟩, hW, hsame.mono (by decide) (by decide)⟩
  · show Steps p.tables e below (s₁.setTop (mkF m 0 #[.val (.ref a1)] [])) _
    refine X0.ldc2Long hx hown (mvT hZ (hw _ (List.mem_of_getElem? (i := 9) rfl))) (g := (mkF m 0 #[.val (.ref a1)] [])) rfl (hb hby d1_0) _ ?_
    show Steps p.tables e below (s₁.setTop (mkF m 3 #[.val (.ref a1)] [(.long (9223372036854775807 : Int64))])) _
    refine XS.aloadN X0.here hx rfl (hb hby d1_3) rfl rfl ?_
    show Steps p.tables e below (s₁.setTop (mkF m 4 #[.val (.ref a1)] [(.ref a1), (.long (9223372036854775807 : Int64))])) _
    refine st1.trans ?_
    show Steps p.tables e below (T1.setTop (mkF m 7 #[.val (.ref a1)] [(.ref d1), (.long (9223372036854775807 : Int64))])) _
    refine st2.trans ?_
    show Steps p.tables e below (T2.setTop (mkF m 10 #[.val (.ref a1)] [(.long (60000 : Int64)), (.long (9223372036854775807 : Int64))])) _
    refine XS.ldiv X2.here hx rfl (hb hby d1_10) rfl (by decide +kernel) ?_
    show Steps p.tables e below (T2.setTop (mkF m 11 #[.val (.ref a1)] [(.long ((9223372036854775807 : Int64) / (60000 : Int64)))])) _
    exact X2.lreturnOut hx Bd.returns (hb hby d1_11) hr
  · show Q1_1 Z a1 d1 h0 n0 _ T2.heap _
    rw [eq2]
    exact ⟨congrArg (fun z => some (Value.long z)) (by decide +kernel), N2, rfl⟩
set_option maxRecDepth 65536 in
set_option maxHeartbeats 40000000 in
theorem rm0_1 (l : Launch) (Z : State) (a0 : Array Value) (hw : ∀ d ∈ tables_1, d.before a0 Z = true) (ws : List Jvm.Cond) (p1 : Int32) (a1 d1 : Addr) (h0 : Heap) (n0 : Nat) (Z0 : n0 ≤ h0.size) (SU : Sta Z h0 "com/example/throttle/throttle/model/Unit" "MINUTE" "Lcom/example/throttle/throttle/model/Unit;" (.ref a1)) (EU : Exa Z h0 a1 "com/example/throttle/throttle/model/Unit") (FL : Fld Z h0 a1 "com/example/throttle/throttle/model/Unit" "length" "Ljava/time/Duration;" (.ref d1)) (ED : Exa Z h0 d1 "java/time/Duration") (FS : Fld Z h0 d1 "java/time/Duration" "seconds" "J" (.long (60 : Int64))) (FN : Fld Z h0 d1 "java/time/Duration" "nanos" "I" (.int (0 : Int32))) (hk : (p1 &&& 3) = 1) :
    MetFree l x (head1 (Jvm.Cond.code x code maxLocals ret :: ws) room_1) (fun a U => a = #[(.int p1)] ∧ Z.Warmed39 U.vm ∧ U.heap = h0) (fun _ _ _ _ _ => True) (fun _ U o U' => ∃ v L, o = .returned v ∧ Q0 Z p1 a1 d1 h0 n0 v U'.heap L ∧ FrameEnd U o U' L room_1.cells room_1.slots) := by
  refine MetFree.of_bodySF (plainFor_of_name pn_RuleMaxRpuPinLaw) hisR ?_
  intro p e s m args below meth c s₁ Bd hml0 hP hK
  obtain ⟨rfl, hZ, hh⟩ := hP
  have hx := Bd.exec
  have hby := Bd.bytes
  have hml : c.maxLocals = 13 := hml0
  have hown : s.vm.findClass "com/example/throttle/throttle/model/RuleMaxRpuPinLaw" = some m.cls := findClass_of_methodNamed Bd.named
  have hnm := (name_of_methodNamed Bd.named Bd.method).1
  have X0 : Stand p l e room_1 s m #[(.int p1)] below meth c s₁ [] 0 0 := Stand.of_body Bd
  have e0 : s₁.heap = h0 := by rw [← hh, Bd.state]; rfl
  have N0 := Fr.nil n0
  have pre0 : ∀ t, Steps p.tables e below (s₁.setTop (mkF m 0 #[.val (.int p1), .unset, .unset, .unset, .unset, .unset, .unset, .unset, .unset, .unset, .unset, .unset, .unset] [])) t → Steps p.tables e below (s₁.setTop (entryFrame m #[(.int p1)] maxLocals)) t := fun t k => castTop (ef_0 m p1) k
  obtain ⟨T1, X1, e1, st1⟩ := getS2 X0 hx hZ hown (host := "") (Or.inl (hw _ (List.mem_of_getElem? (i := 50) rfl))) Via.refl e0 SU (g := (mkF m 29 #[.val (.int p1), .val (.int (1 : Int32)), .unset, .unset, .unset, .unset, .unset, .unset, .unset, .unset, .unset, .unset, .unset] [])) rfl (hb hby at_29)
  obtain ⟨_, _, ⟨T2, L2, k2, n2⟩, -, X2, ⟨Lc2, hQ2, l2, y2, z2⟩, st2⟩ := Jvm.LawKit.callS X1 hx (y := (⟨"com/example/throttle/throttle/model/Rule", "maxRpu", "(Lcom/example/throttle/throttle/model/Unit;)J"⟩ : MethodName)) hown (mvT hZ (hw _ (List.mem_of_getElem? (i := 5) rfl))) (mvT hZ (hw _ (List.mem_of_getElem? (i := 6) rfl))) (mvT hZ (hw _ (List.mem_of_getElem? (i := 7) rfl))) (mvT hZ (hw _ (List.mem_of_getElem? (i := 8) rfl))) (by decide) (backOf (W := 0) (rm1_1 l Z a0 hw [] a1 d1 h0 n0 Z0 EU FL ED FS FN) hZ (hw _ (List.mem_of_getElem? (i := 8) rfl)) (hw _ (List.mem_of_getElem? (i := 7) rfl)) (by decide) (by decide)) (g := (mkF m 80 #[.val (.int p1), .val (.int (1 : Int32)), .val (.ref a1), .val (.long (60000 : Int64)), .second, .val (.long (153722867280912 : Int64)), .second, .unset, .unset, .unset, .unset, .unset, .unset] [(.ref a1)])) rfl (by rw [hml]; rfl) (argsL := [(.ref a1)]) (rest := []) (lenOf pd_5 rfl) rfl (by show 2 * 0 + _ ≤ _; exact Nat.le_of_eq rfl) (hb hby at_80) (fun _ _ => ⟨rfl, e1, (by decide : 0 + 0 ≤ _), (by decide : 0 + 0 ≤ _)⟩)
  dsimp only [Pt.U, Pt.locs, Pt.cells, Pt.slots] at X2 l2 y2 z2 st2 hQ2
  subst l2 y2 z2
  obtain ⟨rfl, N2q, eq2⟩ := hQ2
  have N2 := Fr.app N0 N2q
  obtain ⟨fs, hr, hrun, hended, hW, hsame⟩ := X2.leave (v := some (.int (1 : Int32))) (fun h => by rw [Bd.returns] at h; cases h)
  refine ⟨_, _, pre0 _ ?_, hrun, hended, _, _, rfl, ?_, ⟨_, rfl⟩, hW, hsame.mono (by decide) (by decide)⟩
  · show Steps p.tables e below (s₁.setTop (mkF m 0 #[.val (.int p1), .unset, .unset, .unset, .unset, .unset, .unset, .unset, .unset, .unset, .unset, .unset, .unset] [])) _
    refine XS.iloadN X0.here hx rfl (hb hby at_0) rfl ?_
    show Steps p.tables e below (s₁.setTop (mkF m 1 #[.val (.int p1), .unset, .unset, .unset, .unset, .unset, .unset, .unset, .unset, .unset, .unset, .unset, .unset] [(.int p1)])) _
    refine XS.iconst X0.here hx rfl (hb hby at_1) ?_
    show Steps p.tables e below (s₁.setTop (mkF m 2 #[.val (.int p1), .unset, .unset, .unset, .unset, .unset, .unset, .unset, .unset, .unset, .unset, .unset, .unset] [(.int (3 : Int32)), (.int p1)])) _
    refine XS.iand X0.here hx rfl (hb hby at_2) rfl ?_
    show Steps p.tables e below (s₁.setTop (mkF m 3 #[.val (.int p1), .unset, .unset, .unset, .unset, .unset, .unset, .unset, .unset, .unset, .unset, .unset, .unset] [(.int (p1 &&& (3 : Int32)))])) _
    rw [hk]
    show Steps p.tables e below (s₁.setTop (mkF m 3 #[.val (.int p1), .unset, .unset, .unset, .unset, .unset, .unset, .unset, .unset, .unset, .unset, .unset, .unset] [(.int (1 : Int32))])) _
    refine XS.istoreN X0.here hx rfl (hb hby at_3) rfl (l' := #[.val (.int p1), .val (.int (1 : Int32)), .unset, .unset, .unset, .unset, .unset, .unset, .unset, .unset, .unset, .unset, .unset]) rfl ?_
    show Steps p.tables e below (s₁.setTop (mkF m 4 #[.val (.int p1), .val (.int (1 : Int32)), .unset, .unset, .unset, .unset, .unset, .unset, .unset, .unset, .unset, .unset, .unset] [])) _
    refine XS.iloadN X0.here hx rfl (hb hby at_4) rfl ?_
    show Steps p.tables e below (s₁.setTop (mkF m 5 #[.val (.int p1), .val (.int (1 : Int32)), .unset, .unset, .unset, .unset, .unset, .unset, .unset, .unset, .unset, .unset, .unset] [(.int (1 : Int32))])) _
    refine XS.ifYes X0.here hx rfl (pc0 := 5) (pc' := 24) rfl (hb hby at_5) rfl ((if0 _ _).trans (feq (by decide +kernel)).2) (by decide) (by decide) ?_
    show Steps p.tables e below (s₁.setTop (mkF m 24 #[.val (.int p1), .val (.int (1 : Int32)), .unset, .unset, .unset, .unset, .unset, .unset, .unset, .unset, .unset, .unset, .unset] [])) _
    refine XS.iloadN X0.here hx rfl (hb hby at_24) rfl ?_
    show Steps p.tables e below (s₁.setTop (mkF m 25 #[.val (.int p1), .val (.int (1 : Int32)), .unset, .unset, .unset, .unset, .unset, .unset, .unset, .unset, .unset, .unset, .unset] [(.int (1 : Int32))])) _
    refine XS.iconst X0.here hx rfl (hb hby at_25) ?_
    show Steps p.tables e below (s₁.setTop (mkF m 26 #[.val (.int p1), .val (.int (1 : Int32)), .unset, .unset, .unset, .unset, .unset, .unset, .unset, .unset, .unset, .unset, .unset] [(.int (1 : Int32)), (.int (1 : Int32))])) _
    refine XS.icmpNo X0.here hx rfl (hb hby at_26) rfl (teq (by decide +kernel)).2 ?_
    show Steps p.tables e below (s₁.setTop (mkF m 29 #[.val (.int p1), .val (.int (1 : Int32)), .unset, .unset, .unset, .unset, .unset, .unset, .unset, .unset, .unset, .unset, .unset] [])) _
    refine st1 _ ?_
    show Steps p.tables e below (T1.setTop (mkF m 32 #[.val (.int p1), .val (.int (1 : Int32)), .unset, .unset, .unset, .unset, .unset, .unset, .unset, .unset, .unset, .unset, .unset] [(.ref a1)])) _
    refine XS.astoreN X1.here hx rfl (hb hby at_32) rfl rfl (l' := #[.val (.int p1), .val (.int (1 : Int32)), .val (.ref a1), .unset, .unset, .unset, .unset, .unset, .unset, .unset, .unset, .unset, .unset]) rfl ?_
    show Steps p.tables e below (T1.setTop (mkF m 33 #[.val (.int p1), .val (.int (1 : Int32)), .val (.ref a1), .unset, .unset, .unset, .unset, .unset, .unset, .unset, .unset, .unset, .unset] [])) _
    refine X1.ldc2Long hx hown (mvT hZ (hw _ (List.mem_of_getElem? (i := 52) rfl))) (g := (mkF m 33 #[.val (.int p1), .val (.int (1 : Int32)), .val (.ref a1), .unset, .unset, .unset, .unset, .unset, .unset, .unset, .unset, .unset, .unset] [])) rfl (hb hby at_33) _ ?_
    show Steps p.tables e below (T1.setTop (mkF m 36 #[.val (.int p1), .val (.int (1 : Int32)), .val (.ref a1), .unset, .unset, .unset, .unset, .unset, .unset, .unset, .unset, .unset, .unset] [(.long (60000 : Int64))])) _
    refine XS.lstoreN X1.here hx rfl (hb hby at_36) rfl (l' := #[.val (.int p1), .val (.int (1 : Int32)), .val (.ref a1), .val (.long (60000 : Int64)), .second, .unset, .unset, .unset, .unset, .unset, .unset, .unset, .unset]) rfl ?_
    show Steps p.tables e below (T1.setTop (mkF m 37 #[.val (.int p1), .val (.int (1 : Int32)), .val (.ref a1), .val (.long (60000 : Int64)), .second, .unset, .unset, .unset, .unset, .unset, .unset, .unset, .unset] [])) _
    refine X1.ldc2Long hx hown (mvT hZ (hw _ (List.mem_of_getElem? (i := 53) rfl))) (g := (mkF m 37 #[.val (.int p1), .val (.int (1 : Int32)), .val (.ref a1), .val (.long (60000 : Int64)), .second, .unset, .unset, .unset, .unset, .unset, .unset, .unset, .unset] [])) rfl (hb hby at_37) _ ?_
    show Steps p.tables e below (T1.setTop (mkF m 40 #[.val (.int p1), .val (.int (1 : Int32)), .val (.ref a1), .val (.long (60000 : Int64)), .second, .unset, .unset, .unset, .unset, .unset, .unset, .unset, .unset] [(.long (153722867280912 : Int64))])) _
    refine XS.lstore X1.here hx rfl (hb hby at_40) rfl (l' := #[.val (.int p1), .val (.int (1 : Int32)), .val (.ref a1), .val (.long (60000 : Int64)), .second, .val (.long (153722867280912 : Int64)), .second, .unset, .unset, .unset, .unset, .unset, .unset]) rfl ?_
    show Steps p.tables e below (T1.setTop (mkF m 42 #[.val (.int p1), .val (.int (1 : Int32)), .val (.ref a1), .val (.long (60000 : Int64)), .second, .val (.long (153722867280912 : Int64)), .second, .unset, .unset, .unset, .unset, .unset, .unset] [])) _
    refine XS.goto X1.here hx rfl (pc0 := 42) (pc' := 79) rfl (hb hby at_42) (by decide) (by decide) ?_
    show Steps p.tables e below (T1.setTop (mkF m 79 #[.val (.int p1), .val (.int (1 : Int32)), .val (.ref a1), .val (.long (60000 : Int64)), .second, .val (.long (153722867280912 : Int64)), .second, .unset, .unset, .unset, .unset, .unset, .unset] [])) _
    refine XS.aloadN X1.here hx rfl (hb hby at_79) rfl rfl ?_
    show Steps p.tables e below (T1.setTop (mkF m 80 #[.val (.int p1), .val (.int (1 : Int32)), .val (.ref a1), .val (.long (60000 : Int64)), .second, .val (.long (153722867280912 : Int64)), .second, .unset, .unset, .unset, .unset, .unset, .unset] [(.ref a1)])) _
    refine st2 _ ?_
    show Steps p.tables e below (T2.setTop (mkF m 83 #[.val (.int p1), .val (.int (1 : Int32)), .val (.ref a1), .val (.long (60000 : Int64)), .second, .val (.long (153722867280912 : Int64)), .second, .unset, .unset, .unset, .unset, .unset, .unset] [(.long (153722867280912 : Int64))])) _
    refine XS.lstore X2.here hx rfl (hb hby at_83) rfl (l' := #[.val (.int p1), .val (.int (1 : Int32)), .val (.ref a1), .val (.long (60000 : Int64)), .second, .val (.long (153722867280912 : Int64)), .second, .val (.long (153722867280912 : Int64)), .second, .unset, .unset, .unset, .unset]) rfl ?_
    show Steps p.tables e below (T2.setTop (mkF m 85 #[.val (.int p1), .val (.int (1 : Int32)), .val (.ref a1), .val (.long (60000 : Int64)), .second, .val (.long (153722867280912 : Int64)), .second, .val (.long (153722867280912 : Int64)), .second, .unset, .unset, .unset, .unset] [])) _
    refine XS.lload X2.here hx rfl (hb hby at_85) rfl ?_
    show Steps p.tables e below (T2.setTop (mkF m 87 #[.val (.int p1), .val (.int (1 : Int32)), .val (.ref a1), .val (.long (60000 : Int64)), .second, .val (.long (153722867280912 : Int64)), .second, .val (.long (153722867280912 : Int64)), .second, .unset, .unset, .unset, .unset] [(.long (153722867280912 : Int64))])) _
    refine XS.lload X2.here hx rfl (hb hby at_87) rfl ?_
    show Steps p.tables e below (T2.setTop (mkF m 89 #[.val (.int p1), .val (.int (1 : Int32)), .val (.ref a1), .val (.long (60000 : Int64)), .second, .val (.long (153722867280912 : Int64)), .second, .val (.long (153722867280912 : Int64)), .second, .unset, .unset, .unset, .unset] [(.long (153722867280912 : Int64)), (.long (153722867280912 : Int64))])) _
    refine XS.lcmp X2.here hx rfl (hb hby at_89) rfl ?_
    show Steps p.tables e below (T2.setTop (mkF m 90 #[.val (.int p1), .val (.int (1 : Int32)), .val (.ref a1), .val (.long (60000 : Int64)), .second, .val (.long (153722867280912 : Int64)), .second, .val (.long (153722867280912 : Int64)), .second, .unset, .unset, .unset, .unset] [(.int (lcmpW (153722867280912 : Int64) (153722867280912 : Int64)))])) _
    refine XS.ifYes X2.here hx rfl (pc0 := 90) (pc' := 95) rfl (hb hby at_90) rfl ((if0 _ _).trans (teq (by decide +kernel)).1) (by decide) (by decide) ?_
    show Steps p.tables e below (T2.setTop (mkF m 95 #[.val (.int p1), .val (.int (1 : Int32)), .val (.ref a1), .val (.long (60000 : Int64)), .second, .val (.long (153722867280912 : Int64)), .second, .val (.long (153722867280912 : Int64)), .second, .unset, .unset, .unset, .unset] [])) _
    refine XS.lload X2.here hx rfl (hb hby at_95) rfl ?_
    show Steps p.tables e below (T2.setTop (mkF m 97 #[.val (.int p1), .val (.int (1 : Int32)), .val (.ref a1), .val (.long (60000 : Int64)), .second, .val (.long (153722867280912 : Int64)), .second, .val (.long (153722867280912 : Int64)), .second, .unset, .unset, .unset, .unset] [(.long (153722867280912 : Int64))])) _
    refine XS.lloadN X2.here hx rfl (hb hby at_97) rfl ?_
    show Steps p.tables e below (T2.setTop (mkF m 98 #[.val (.int p1), .val (.int (1 : Int32)), .val (.ref a1), .val (.long (60000 : Int64)), .second, .val (.long (153722867280912 : Int64)), .second, .val (.long (153722867280912 : Int64)), .second, .unset, .unset, .unset, .unset] [(.long (60000 : Int64)), (.long (153722867280912 : Int64))])) _
    refine XS.lmul X2.here hx rfl (hb hby at_98) rfl ?_
    show Steps p.tables e below (T2.setTop (mkF m 99 #[.val (.int p1), .val (.int (1 : Int32)), .val (.ref a1), .val (.long (60000 : Int64)), .second, .val (.long (153722867280912 : Int64)), .second, .val (.long (153722867280912 : Int64)), .second, .unset, .unset, .unset, .unset] [(.long ((153722867280912 : Int64) * (60000 : Int64)))])) _
    refine XS.lstore X2.here hx rfl (hb hby at_99) rfl (l' := #[.val (.int p1), .val (.int (1 : Int32)), .val (.ref a1), .val (.long (60000 : Int64)), .second, .val (.long (153722867280912 : Int64)), .second, .val (.long (153722867280912 : Int64)), .second, .val (.long ((153722867280912 : Int64) * (60000 : Int64))), .second, .unset, .unset]) rfl ?_
    show Steps p.tables e below (T2.setTop (mkF m 101 #[.val (.int p1), .val (.int (1 : Int32)), .val (.ref a1), .val (.long (60000 : Int64)), .second, .val (.long (153722867280912 : Int64)), .second, .val (.long (153722867280912 : Int64)), .second, .val (.long ((153722867280912 : Int64) * (60000 : Int64))), .second, .unset, .unset] [])) _
    refine XS.lload X2.here hx rfl (hb hby at_101) rfl ?_
    show Steps p.tables e below (T2.setTop (mkF m 103 #[.val (.int p1), .val (.int (1 : Int32)), .val (.ref a1), .val (.long (60000 : Int64)), .second, .val (.long (153722867280912 : Int64)), .second, .val (.long (153722867280912 : Int64)), .second, .val (.long ((153722867280912 : Int64) * (60000 : Int64))), .second, .unset, .unset] [(.long (153722867280912 : Int64))])) _
    refine XS.lconst X2.here hx rfl (hb hby at_103) ?_
    show Steps p.tables e below (T2.setTop (mkF m 104 #[.val (.int p1), .val (.int (1 : Int32)), .val (.ref a1), .val (.long (60000 : Int64)), .second, .val (.long (153722867280912 : Int64)), .second, .val (.long (153722867280912 : Int64)), .second, .val (.long ((153722867280912 : Int64) * (60000 : Int64))), .second, .unset, .unset] [(.long (1 : Int64)), (.long (153722867280912 : Int64))])) _
    refine XS.lcmp X2.here hx rfl (hb hby at_104) rfl ?_
    show Steps p.tables e below (T2.setTop (mkF m 105 #[.val (.int p1), .val (.int (1 : Int32)), .val (.ref a1), .val (.long (60000 : Int64)), .second, .val (.long (153722867280912 : Int64)), .second, .val (.long (153722867280912 : Int64)), .second, .val (.long ((153722867280912 : Int64) * (60000 : Int64))), .second, .unset, .unset] [(.int (lcmpW (153722867280912 : Int64) (1 : Int64)))])) _
    refine XS.ifNo X2.here hx rfl (hb hby at_105) rfl ((if0 _ _).trans (flt (by decide +kernel)).1) ?_
    show Steps p.tables e below (T2.setTop (mkF m 108 #[.val (.int p1), .val (.int (1 : Int32)), .val (.ref a1), .val (.long (60000 : Int64)), .second, .val (.long (153722867280912 : Int64)), .second, .val (.long (153722867280912 : Int64)), .second, .val (.long ((153722867280912 : Int64) * (60000 : Int64))), .second, .unset, .unset] [])) _
    refine XS.lload X2.here hx rfl (hb hby at_108) rfl ?_
    show Steps p.tables e below (T2.setTop (mkF m 110 #[.val (.int p1), .val (.int (1 : Int32)), .val (.ref a1), .val (.long (60000 : Int64)), .second, .val (.long (153722867280912 : Int64)), .second, .val (.long (153722867280912 : Int64)), .second, .val (.long ((153722867280912 : Int64) * (60000 : Int64))), .second, .unset, .unset] [(.long ((153722867280912 : Int64) * (60000 : Int64)))])) _
    refine XS.lconst X2.here hx rfl (hb hby at_110) ?_
    show Steps p.tables e below (T2.setTop (mkF m 111 #[.val (.int p1), .val (.int (1 : Int32)), .val (.ref a1), .val (.long (60000 : Int64)), .second, .val (.long (153722867280912 : Int64)), .second, .val (.long (153722867280912 : Int64)), .second, .val (.long ((153722867280912 : Int64) * (60000 : Int64))), .second, .unset, .unset] [(.long (0 : Int64)), (.long ((153722867280912 : Int64) * (60000 : Int64)))])) _
    refine XS.lcmp X2.here hx rfl (hb hby at_111) rfl ?_
    show Steps p.tables e below (T2.setTop (mkF m 112 #[.val (.int p1), .val (.int (1 : Int32)), .val (.ref a1), .val (.long (60000 : Int64)), .second, .val (.long (153722867280912 : Int64)), .second, .val (.long (153722867280912 : Int64)), .second, .val (.long ((153722867280912 : Int64) * (60000 : Int64))), .second, .unset, .unset] [(.int (lcmpW ((153722867280912 : Int64) * (60000 : Int64)) (0 : Int64)))])) _
    refine XS.ifNo X2.here hx rfl (hb hby at_112) rfl ((if0 _ _).trans (flt (by decide +kernel)).1) ?_
    show Steps p.tables e below (T2.setTop (mkF m 115 #[.val (.int p1), .val (.int (1 : Int32)), .val (.ref a1), .val (.long (60000 : Int64)), .second, .val (.long (153722867280912 : Int64)), .second, .val (.long (153722867280912 : Int64)), .second, .val (.long ((153722867280912 : Int64) * (60000 : Int64))), .second, .unset, .unset] [])) _
    refine XS.lload X2.here hx rfl (hb hby at_115) rfl ?_
    show Steps p.tables e below (T2.setTop (mkF m 117 #[.val (.int p1), .val (.int (1 : Int32)), .val (.ref a1), .val (.long (60000 : Int64)), .second, .val (.long (153722867280912 : Int64)), .second, .val (.long (153722867280912 : Int64)), .second, .val (.long ((153722867280912 : Int64) * (60000 : Int64))), .second, .unset, .unset] [(.long ((153722867280912 : Int64) * (60000 : Int64)))])) _
    refine XS.lloadN X2.here hx rfl (hb hby at_117) rfl ?_
    show Steps p.tables e below (T2.setTop (mkF m 118 #[.val (.int p1), .val (.int (1 : Int32)), .val (.ref a1), .val (.long (60000 : Int64)), .second, .val (.long (153722867280912 : Int64)), .second, .val (.long (153722867280912 : Int64)), .second, .val (.long ((153722867280912 : Int64) * (60000 : Int64))), .second, .unset, .unset] [(.long (60000 : Int64)), (.long ((153722867280912 : Int64) * (60000 : Int64)))])) _
    refine XS.ldiv X2.here hx rfl (hb hby at_118) rfl (by decide +kernel) ?_
    show Steps p.tables e below (T2.setTop (mkF m 119 #[.val (.int p1), .val (.int (1 : Int32)), .val (.ref a1), .val (.long (60000 : Int64)), .second, .val (.long (153722867280912 : Int64)), .second, .val (.long (153722867280912 : Int64)), .second, .val (.long ((153722867280912 : Int64) * (60000 : Int64))), .second, .unset, .unset] [(.long (((153722867280912 : Int64) * (60000 : Int64)) / (60000 : Int64)))])) _
    refine XS.lload X2.here hx rfl (hb hby at_119) rfl ?_
    show Steps p.tables e below (T2.setTop (mkF m 121 #[.val (.int p1), .val (.int (1 : Int32)), .val (.ref a1), .val (.long (60000 : Int64)), .second, .val (.long (153722867280912 : Int64)), .second, .val (.long (153722867280912 : Int64)), .second, .val (.long ((153722867280912 : Int64) * (60000 : Int64))), .second, .unset, .unset] [(.long (153722867280912 : Int64)), (.long (((153722867280912 : Int64) * (60000 : Int64)) / (60000 : Int64)))])) _
    refine XS.lcmp X2.here hx rfl (hb hby at_121) rfl ?_
    show Steps p.tables e below (T2.setTop (mkF m 122 #[.val (.int p1), .val (.int (1 : Int32)), .val (.ref a1), .val (.long (60000 : Int64)), .second, .val (.long (153722867280912 : Int64)), .second, .val (.long (153722867280912 : Int64)), .second, .val (.long ((153722867280912 : Int64) * (60000 : Int64))), .second, .unset, .unset] [(.int (lcmpW (((153722867280912 : Int64) * (60000 : Int64)) / (60000 : Int64)) (153722867280912 : Int64)))])) _
    refine XS.ifNo X2.here hx rfl (hb hby at_122) rfl ((if0 _ _).trans (teq (by decide +kernel)).2) ?_
    show Steps p.tables e below (T2.setTop (mkF m 125 #[.val (.int p1), .val (.int (1 : Int32)), .val (.ref a1), .val (.long (60000 : Int64)), .second, .val (.long (153722867280912 : Int64)), .second, .val (.long (153722867280912 : Int64)), .second, .val (.long ((153722867280912 : Int64) * (60000 : Int64))), .second, .unset, .unset] [])) _
    refine XS.iconst X2.here hx rfl (hb hby at_125) ?_
    show Steps p.tables e below (T2.setTop (mkF m 126 #[.val (.int p1), .val (.int (1 : Int32)), .val (.ref a1), .val (.long (60000 : Int64)), .second, .val (.long (153722867280912 : Int64)), .second, .val (.long (153722867280912 : Int64)), .second, .val (.long ((153722867280912 : Int64) * (60000 : Int64))), .second, .unset, .unset] [(.int (1 : Int32))])) _
    refine XS.goto X2.here hx rfl (pc0 := 126) (pc' := 130) rfl (hb hby at_126) (by decide) (by decide) ?_
    show Steps p.tables e below (T2.setTop (mkF m 130 #[.val (.int p1), .val (.int (1 : Int32)), .val (.ref a1), .val (.long (60000 : Int64)), .second, .val (.long (153722867280912 : Int64)), .second, .val (.long (153722867280912 : Int64)), .second, .val (.long ((153722867280912 : Int64) * (60000 : Int64))), .second, .unset, .unset] [(.int (1 : Int32))])) _
    refine XS.istore X2.here hx rfl (hb hby at_130) rfl (l' := #[.val (.int p1), .val (.int (1 : Int32)), .val (.ref a1), .val (.long (60000 : Int64)), .second, .val (.long (153722867280912 : Int64)), .second, .val (.long (153722867280912 : Int64)), .second, .val (.long ((153722867280912 : Int64) * (60000 : Int64))), .second, .val (.int (1 : Int32)), .unset]) rfl ?_
    show Steps p.tables e below (T2.setTop (mkF m 132 #[.val (.int p1), .val (.int (1 : Int32)), .val (.ref a1), .val (.long (60000 : Int64)), .second, .val (.long (153722867280912 : Int64)), .second, .val (.long (153722867280912 : Int64)), .second, .val (.long ((153722867280912 : Int64) * (60000 : Int64))), .second, .val (.int (1 : Int32)), .unset] [])) _
    refine X2.ldc2Long hx hown (mvT hZ (hw _ (List.mem_of_getElem? (i := 41) rfl))) (g := (mkF m 132 #[.val (.int p1), .val (.int (1 : Int32)), .val (.ref a1), .val (.long (60000 : Int64)), .second, .val (.long (153722867280912 : Int64)), .second, .val (.long (153722867280912 : Int64)), .second, .val (.long ((153722867280912 : Int64) * (60000 : Int64))), .second, .val (.int (1 : Int32)), .unset] [])) rfl (hb hby at_132) _ ?_
    show Steps p.tables e below (T2.setTop (mkF m 135 #[.val (.int p1), .val (.int (1 : Int32)), .val (.ref a1), .val (.long (60000 : Int64)), .second, .val (.long (153722867280912 : Int64)), .second, .val (.long (153722867280912 : Int64)), .second, .val (.long ((153722867280912 : Int64) * (60000 : Int64))), .second, .val (.int (1 : Int32)), .unset] [(.long (9223372036854775807 : Int64))])) _
    refine XS.lload X2.here hx rfl (hb hby at_135) rfl ?_
    show Steps p.tables e below (T2.setTop (mkF m 137 #[.val (.int p1), .val (.int (1 : Int32)), .val (.ref a1), .val (.long (60000 : Int64)), .second, .val (.long (153722867280912 : Int64)), .second, .val (.long (153722867280912 : Int64)), .second, .val (.long ((153722867280912 : Int64) * (60000 : Int64))), .second, .val (.int (1 : Int32)), .unset] [(.long ((153722867280912 : Int64) * (60000 : Int64))), (.long (9223372036854775807 : Int64))])) _
    refine XS.lsub X2.here hx rfl (hb hby at_137) rfl ?_
    show Steps p.tables e below (T2.setTop (mkF m 138 #[.val (.int p1), .val (.int (1 : Int32)), .val (.ref a1), .val (.long (60000 : Int64)), .second, .val (.long (153722867280912 : Int64)), .second, .val (.long (153722867280912 : Int64)), .second, .val (.long ((153722867280912 : Int64) * (60000 : Int64))), .second, .val (.int (1 : Int32)), .unset] [(.long ((9223372036854775807 : Int64) - ((153722867280912 : Int64) * (60000 : Int64))))])) _
    refine XS.lloadN X2.here hx rfl (hb hby at_138) rfl ?_
    show Steps p.tables e below (T2.setTop (mkF m 139 #[.val (.int p1), .val (.int (1 : Int32)), .val (.ref a1), .val (.long (60000 : Int64)), .second, .val (.long (153722867280912 : Int64)), .second, .val (.long (153722867280912 : Int64)), .second, .val (.long ((153722867280912 : Int64) * (60000 : Int64))), .second, .val (.int (1 : Int32)), .unset] [(.long (60000 : Int64)), (.long ((9223372036854775807 : Int64) - ((153722867280912 : Int64) * (60000 : Int64))))])) _
    refine XS.lcmp X2.here hx rfl (hb hby at_139) rfl ?_
    show Steps p.tables e below (T2.setTop (mkF m 140 #[.val (.int p1), .val (.int (1 : Int32)), .val (.ref a1), .val (.long (60000 : Int64)), .second, .val (.long (153722867280912 : Int64)), .second, .val (.long (153722867280912 : Int64)), .second, .val (.long ((153722867280912 : Int64) * (60000 : Int64))), .second, .val (.int (1 : Int32)), .unset] [(.int (lcmpW ((9223372036854775807 : Int64) - ((153722867280912 : Int64) * (60000 : Int64))) (60000 : Int64)))])) _
    refine XS.ifNo X2.here hx rfl (hb hby at_140) rfl ((if0 _ _).trans (tlt (by decide +kernel)).2.1) ?_
    show Steps p.tables e below (T2.setTop (mkF m 143 #[.val (.int p1), .val (.int (1 : Int32)), .val (.ref a1), .val (.long (60000 : Int64)), .second, .val (.long (153722867280912 : Int64)), .second, .val (.long (153722867280912 : Int64)), .second, .val (.long ((153722867280912 : Int64) * (60000 : Int64))), .second, .val (.int (1 : Int32)), .unset] [])) _
    refine XS.iconst X2.here hx rfl (hb hby at_143) ?_
    show Steps p.tables e below (T2.setTop (mkF m 144 #[.val (.int p1), .val (.int (1 : Int32)), .val (.ref a1), .val (.long (60000 : Int64)), .second, .val (.long (153722867280912 : Int64)), .second, .val (.long (153722867280912 : Int64)), .second, .val (.long ((153722867280912 : Int64) * (60000 : Int64))), .second, .val (.int (1 : Int32)), .unset] [(.int (1 : Int32))])) _
    refine XS.goto X2.here hx rfl (pc0 := 144) (pc' := 148) rfl (hb hby at_144) (by decide) (by decide) ?_
    show Steps p.tables e below (T2.setTop (mkF m 148 #[.val (.int p1), .val (.int (1 : Int32)), .val (.ref a1), .val (.long (60000 : Int64)), .second, .val (.long (153722867280912 : Int64)), .second, .val (.long (153722867280912 : Int64)), .second, .val (.long ((153722867280912 : Int64) * (60000 : Int64))), .second, .val (.int (1 : Int32)), .unset] [(.int (1 : Int32))])) _
    refine XS.istore X2.here hx rfl (hb hby at_148) rfl (l' := #[.val (.int p1), .val (.int (1 : Int32)), .val (.ref a1), .val (.long (60000 : Int64)), .second, .val (.long (153722867280912 : Int64)), .second, .val (.long (153722867280912 : Int64)), .second, .val (.long ((153722867280912 : Int64) * (60000 : Int64))), .second, .val (.int (1 : Int32)), .val (.int (1 : Int32))]) rfl ?_
    show Steps p.tables e below (T2.setTop (mkF m 150 #[.val (.int p1), .val (.int (1 : Int32)), .val (.ref a1), .val (.long (60000 : Int64)), .second, .val (.long (153722867280912 : Int64)), .second, .val (.long (153722867280912 : Int64)), .second, .val (.long ((153722867280912 : Int64) * (60000 : Int64))), .second, .val (.int (1 : Int32)), .val (.int (1 : Int32))] [])) _
    refine XS.iload X2.here hx rfl (hb hby at_150) rfl ?_
    show Steps p.tables e below (T2.setTop (mkF m 152 #[.val (.int p1), .val (.int (1 : Int32)), .val (.ref a1), .val (.long (60000 : Int64)), .second, .val (.long (153722867280912 : Int64)), .second, .val (.long (153722867280912 : Int64)), .second, .val (.long ((153722867280912 : Int64) * (60000 : Int64))), .second, .val (.int (1 : Int32)), .val (.int (1 : Int32))] [(.int (1 : Int32))])) _
    refine XS.ifNo X2.here hx rfl (hb hby at_152) rfl ((if0 _ _).trans (feq (by decide +kernel)).1) ?_
    show Steps p.tables e below (T2.setTop (mkF m 155 #[.val (.int p1), .val (.int (1 : Int32)), .val (.ref a1), .val (.long (60000 : Int64)), .second, .val (.long (153722867280912 : Int64)), .second, .val (.long (153722867280912 : Int64)), .second, .val (.long ((153722867280912 : Int64) * (60000 : Int64))), .second, .val (.int (1 : Int32)), .val (.int (1 : Int32))] [])) _
    refine XS.iload X2.here hx rfl (hb hby at_155) rfl ?_
    show Steps p.tables e below (T2.setTop (mkF m 157 #[.val (.int p1), .val (.int (1 : Int32)), .val (.ref a1), .val (.long (60000 : Int64)), .second, .val (.long (153722867280912 : Int64)), .second, .val (.long (153722867280912 : Int64)), .second, .val (.long ((153722867280912 : Int64) * (60000 : Int64))), .second, .val (.int (1 : Int32)), .val (.int (1 : Int32))] [(.int (1 : Int32))])) _
    refine XS.ifNo X2.here hx rfl (hb hby at_157) rfl ((if0 _ _).trans (feq (by decide +kernel)).1) ?_
    show Steps p.tables e below (T2.setTop (mkF m 160 #[.val (.int p1), .val (.int (1 : Int32)), .val (.ref a1), .val (.long (60000 : Int64)), .second, .val (.long (153722867280912 : Int64)), .second, .val (.long (153722867280912 : Int64)), .second, .val (.long ((153722867280912 : Int64) * (60000 : Int64))), .second, .val (.int (1 : Int32)), .val (.int (1 : Int32))] [])) _
    refine XS.iconst X2.here hx rfl (hb hby at_160) ?_
    show Steps p.tables e below (T2.setTop (mkF m 161 #[.val (.int p1), .val (.int (1 : Int32)), .val (.ref a1), .val (.long (60000 : Int64)), .second, .val (.long (153722867280912 : Int64)), .second, .val (.long (153722867280912 : Int64)), .second, .val (.long ((153722867280912 : Int64) * (60000 : Int64))), .second, .val (.int (1 : Int32)), .val (.int (1 : Int32))] [(.int (1 : Int32))])) _
    refine XS.goto X2.here hx rfl (pc0 := 161) (pc' := 165) rfl (hb hby at_161) (by decide) (by decide) ?_
    show Steps p.tables e below (T2.setTop (mkF m 165 #[.val (.int p1), .val (.int (1 : Int32)), .val (.ref a1), .val (.long (60000 : Int64)), .second, .val (.long (153722867280912 : Int64)), .second, .val (.long (153722867280912 : Int64)), .second, .val (.long ((153722867280912 : Int64) * (60000 : Int64))), .second, .val (.int (1 : Int32)), .val (.int (1 : Int32))] [(.int (1 : Int32))])) _
    exact retN X2 hx (t := .boolean) Bd.returns (by simp) (hb hby at_165) hr
  · show Q0 Z p1 a1 d1 h0 n0 _ T2.heap _
    rw [eq2]
    exact ⟨rfl, N2⟩
def Q5_2 (Z : State)  (h0 : Heap) (n0 : Nat) (v : Option Value) (h : Heap) (L : List Loc) : Prop := v = some (.long (3600000 : Int64)) ∧ Fr n0 L ∧ h = h0
set_option maxRecDepth 65536 in
set_option maxHeartbeats 40000000 in
theorem rm5_2 (l : Launch) (Z : State) (a0 : Array Value) (hw : ∀ d ∈ tables_1, d.before a0 Z = true) (ws : List Jvm.Cond)  (h0 : Heap) (n0 : Nat) (Z0 : n0 ≤ h0.size) :
    MetFree l (⟨"java/lang/Math", "multiplyExact", "(JJ)J"⟩ : MethodName) (head1 (Jvm.Cond.code (⟨"java/lang/Math", "multiplyExact", "(JJ)J"⟩ : MethodName) jdk_29_method_30_code 10 (some .long) :: ws) ({ frames := 1, cells := 0, slots := 0, locals := 13 } : Room)) (fun a U => a = #[(.long (3600 : Int64)), (.long (1000 : Int64))] ∧ Z.Warmed39 U.vm ∧ U.heap = h0) (fun _ _ _ _ _ => True) (fun _ U o U' => ∃ v L, o = .returned v ∧ Q5_2 Z  h0 n0 v U'.heap L ∧ FrameEnd U o U' L ({ frames := 1, cells := 0, slots := 0, locals := 13 } : Room).cells ({ frames := 1, cells := 0, slots := 0, locals := 13 } : Room).slots) := by
  refine MetFree.of_bodySF (Jvm.Free.JP.mathPlain rfl (by decide +kernel)) hisR ?_
  intro p e s m args below meth c s₁ Bd hml0 hP hK
  obtain ⟨rfl, hZ, hh⟩ := hP
  have hx := Bd.exec
  have hby := Bd.bytes
  have hml : c.maxLocals = 10 := hml0
  have hown : s.vm.findClass "java/lang/Math" = some m.cls := findClass_of_methodNamed Bd.named
  have hnm := (name_of_methodNamed Bd.named Bd.method).1
  have X0 : Stand p l e ({ frames := 1, cells := 0, slots := 0, locals := 13 } : Room) s m #[(.long (3600 : Int64)), (.long (1000 : Int64))] below meth c s₁ [] 0 0 := Stand.of_body Bd
  have e0 : s₁.heap = h0 := by rw [← hh, Bd.state]; rfl
  have N0 := Fr.nil n0
  have pre0 : ∀ t, Steps p.tables e below (s₁.setTop (mkF m 0 #[.val (.long (3600 : Int64)), .second, .val (.long (1000 : Int64)), .second, .unset, .unset, .unset, .unset, .unset, .unset] [])) t → Steps p.tables e below (s₁.setTop (entryFrame m #[(.long (3600 : Int64)), (.long (1000 : Int64))] 10)) t := fun t k => castTop (ef_5 m (3600 : Int64) (1000 : Int64)) k
  obtain ⟨_, _, ⟨T1, L1, k1, n1⟩, -, X1, ⟨Lc1, hQ1, l1, y1, z1⟩, st1⟩ := Jvm.LawKit.callS X0 hx (y := (⟨"java/lang/Math", "abs", "(J)J"⟩ : MethodName)) hown (mvT hZ (hw _ (List.mem_of_getElem? (i := 34) rfl))) (mvT hZ (hw _ (List.mem_of_getElem? (i := 35) rfl))) (mvT hZ (hw _ (List.mem_of_getElem? (i := 29) rfl))) (mvT hZ (hw _ (List.mem_of_getElem? (i := 36) rfl))) (by decide) (backOf (W := 0) (rm6 l Z a0 hw [] (3600 : Int64) h0 n0 Z0 (by decide +kernel)) hZ (hw _ (List.mem_of_getElem? (i := 36) rfl)) (hw _ (List.mem_of_getElem? (i := 29) rfl)) (by decide) (by decide)) (g := (mkF m 6 #[.val (.long (3600 : Int64)), .second, .val (.long (1000 : Int64)), .second, .val (.long ((3600 : Int64) * (1000 : Int64))), .second, .unset, .unset, .unset, .unset] [(.long (3600 : Int64))])) rfl (by rw [hml]; rfl) (argsL := [(.long (3600 : Int64))]) (rest := []) (lenOf pd_0 rfl) rfl (by show 2 * 0 + _ ≤ _; exact Nat.le_of_eq rfl) (hb hby d5_6) (fun _ _ => ⟨rfl, e0, (by decide : 0 + 0 ≤ _), (by decide : 0 + 0 ≤ _)⟩)
  dsimp only [Pt.U, Pt.locs, Pt.cells, Pt.slots] at X1 l1 y1 z1 st1 hQ1
  subst l1 y1 z1
  obtain ⟨rfl, N1q, eq1⟩ := hQ1
  have N1 := Fr.app N0 N1q
  obtain ⟨_, _, ⟨T2, L2, k2, n2⟩, -, X2, ⟨Lc2, hQ2, l2, y2, z2⟩, st2⟩ := Jvm.LawKit.callS X1 hx (y := (⟨"java/lang/Math", "abs", "(J)J"⟩ : MethodName)) hown (mvT hZ (hw _ (List.mem_of_getElem? (i := 34) rfl))) (mvT hZ (hw _ (List.mem_of_getElem? (i := 35) rfl))) (mvT hZ (hw _ (List.mem_of_getElem? (i := 29) rfl))) (mvT hZ (hw _ (List.mem_of_getElem? (i := 36) rfl))) (by decide) (backOf (W := 0) (rm6 l Z a0 hw [] (1000 : Int64) h0 n0 Z0 (by decide +kernel)) hZ (hw _ (List.mem_of_getElem? (i := 36) rfl)) (hw _ (List.mem_of_getElem? (i := 29) rfl)) (by decide) (by decide)) (g := (mkF m 12 #[.val (.long (3600 : Int64)), .second, .val (.long (1000 : Int64)), .second, .val (.long ((3600 : Int64) * (1000 : Int64))), .second, .val (.long (3600 : Int64)), .second, .unset, .unset] [(.long (1000 : Int64))])) rfl (by rw [hml]; rfl) (argsL := [(.long (1000 : Int64))]) (rest := []) (lenOf pd_0 rfl) rfl (by show 2 * 0 + _ ≤ _; exact Nat.le_of_eq rfl) (hb hby d5_12) (fun _ _ => ⟨rfl, eq1, (by decide : 0 + 0 ≤ _), (by decide : 0 + 0 ≤ _)⟩)
  dsimp only [Pt.U, Pt.locs, Pt.cells, Pt.slots] at X2 l2 y2 z2 st2 hQ2
  subst l2 y2 z2
  obtain ⟨rfl, N2q, eq2⟩ := hQ2
  have N2 := Fr.app N1 N2q
  obtain ⟨fs, hr, hrun, hended, hW, hsame⟩ := X2.leave (v := some (.long ((3600 : Int64) * (1000 : Int64)))) (fun h => by rw [Bd.returns] at h; cases h)
  refine ⟨_, _, pre0 _ ?_, hrun, hended, _, _, rfl, ?_, ⟨_, rfl⟩, hW, hsame.mono (by decide) (by decide)⟩
  · show Steps p.tables e below (s₁.setTop (mkF m 0 #[.val (.long (3600 : Int64)), .second, .val (.long (1000 : Int64)), .second, .unset, .unset, .unset, .unset, .unset, .unset] [])) _
    refine XS.lloadN X0.here hx rfl (hb hby d5_0) rfl ?_
    show Steps p.tables e below (s₁.setTop (mkF m 1 #[.val (.long (3600 : Int64)), .second, .val (.long (1000 : Int64)), .second, .unset, .unset, .unset, .unset, .unset, .unset] [(.long (3600 : Int64))])) _
    refine XS.lloadN X0.here hx rfl (hb hby d5_1) rfl ?_
    show Steps p.tables e below (s₁.setTop (mkF m 2 #[.val (.long (3600 : Int64)), .second, .val (.long (1000 : Int64)), .second, .unset, .unset, .unset, .unset, .unset, .unset] [(.long (1000 : Int64)), (.long (3600 : Int64))])) _
    refine XS.lmul X0.here hx rfl (hb hby d5_2) rfl ?_
    show Steps p.tables e below (s₁.setTop (mkF m 3 #[.val (.long (3600 : Int64)), .second, .val (.long (1000 : Int64)), .second, .unset, .unset, .unset, .unset, .unset, .unset] [(.long ((3600 : Int64) * (1000 : Int64)))])) _
    refine XS.lstore X0.here hx rfl (hb hby d5_3) rfl (l' := #[.val (.long (3600 : Int64)), .second, .val (.long (1000 : Int64)), .second, .val (.long ((3600 : Int64) * (1000 : Int64))), .second, .unset, .unset, .unset, .unset]) rfl ?_
    show Steps p.tables e below (s₁.setTop (mkF m 5 #[.val (.long (3600 : Int64)), .second, .val (.long (1000 : Int64)), .second, .val (.long ((3600 : Int64) * (1000 : Int64))), .second, .unset, .unset, .unset, .unset] [])) _
    refine XS.lloadN X0.here hx rfl (hb hby d5_5) rfl ?_
    show Steps p.tables e below (s₁.setTop (mkF m 6 #[.val (.long (3600 : Int64)), .second, .val (.long (1000 : Int64)), .second, .val (.long ((3600 : Int64) * (1000 : Int64))), .second, .unset, .unset, .unset, .unset] [(.long (3600 : Int64))])) _
    refine st1 _ ?_
    show Steps p.tables e below (T1.setTop (mkF m 9 #[.val (.long (3600 : Int64)), .second, .val (.long (1000 : Int64)), .second, .val (.long ((3600 : Int64) * (1000 : Int64))), .second, .unset, .unset, .unset, .unset] [(.long (3600 : Int64))])) _
    refine XS.lstore X1.here hx rfl (hb hby d5_9) rfl (l' := #[.val (.long (3600 : Int64)), .second, .val (.long (1000 : Int64)), .second, .val (.long ((3600 : Int64) * (1000 : Int64))), .second, .val (.long (3600 : Int64)), .second, .unset, .unset]) rfl ?_
    show Steps p.tables e below (T1.setTop (mkF m 11 #[.val (.long (3600 : Int64)), .second, .val (.long (1000 : Int64)), .second, .val (.long ((3600 : Int64) * (1000 : Int64))), .second, .val (.long (3600 : Int64)), .second, .unset, .unset] [])) _
    refine XS.lloadN X1.here hx rfl (hb hby d5_11) rfl ?_
    show Steps p.tables e below (T1.setTop (mkF m 12 #[.val (.long (3600 : Int64)), .second, .val (.long (1000 : Int64)), .second, .val (.long ((3600 : Int64) * (1000 : Int64))), .second, .val (.long (3600 : Int64)), .second, .unset, .unset] [(.long (1000 : Int64))])) _
    refine st2 _ ?_
    show Steps p.tables e below (T2.setTop (mkF m 15 #[.val (.long (3600 : Int64)), .second, .val (.long (1000 : Int64)), .second, .val (.long ((3600 : Int64) * (1000 : Int64))), .second, .val (.long (3600 : Int64)), .second, .unset, .unset] [(.long (1000 : Int64))])) _
    refine XS.lstore X2.here hx rfl (hb hby d5_15) rfl (l' := #[.val (.long (3600 : Int64)), .second, .val (.long (1000 : Int64)), .second, .val (.long ((3600 : Int64) * (1000 : Int64))), .second, .val (.long (3600 : Int64)), .second, .val (.long (1000 : Int64)), .second]) rfl ?_
    show Steps p.tables e below (T2.setTop (mkF m 17 #[.val (.long (3600 : Int64)), .second, .val (.long (1000 : Int64)), .second, .val (.long ((3600 : Int64) * (1000 : Int64))), .second, .val (.long (3600 : Int64)), .second, .val (.long (1000 : Int64)), .second] [])) _
    refine XS.lload X2.here hx rfl (hb hby d5_17) rfl ?_
    show Steps p.tables e below (T2.setTop (mkF m 19 #[.val (.long (3600 : Int64)), .second, .val (.long (1000 : Int64)), .second, .val (.long ((3600 : Int64) * (1000 : Int64))), .second, .val (.long (3600 : Int64)), .second, .val (.long (1000 : Int64)), .second] [(.long (3600 : Int64))])) _
    refine XS.lload X2.here hx rfl (hb hby d5_19) rfl ?_
    show Steps p.tables e below (T2.setTop (mkF m 21 #[.val (.long (3600 : Int64)), .second, .val (.long (1000 : Int64)), .second, .val (.long ((3600 : Int64) * (1000 : Int64))), .second, .val (.long (3600 : Int64)), .second, .val (.long (1000 : Int64)), .second] [(.long (1000 : Int64)), (.long (3600 : Int64))])) _
    refine XS.lor X2.here hx rfl (hb hby d5_21) rfl ?_
    show Steps p.tables e below (T2.setTop (mkF m 22 #[.val (.long (3600 : Int64)), .second, .val (.long (1000 : Int64)), .second, .val (.long ((3600 : Int64) * (1000 : Int64))), .second, .val (.long (3600 : Int64)), .second, .val (.long (1000 : Int64)), .second] [(.long ((3600 : Int64) ||| (1000 : Int64)))])) _
    refine XS.bipush X2.here hx rfl (hb hby d5_22) ?_
    show Steps p.tables e below (T2.setTop (mkF m 24 #[.val (.long (3600 : Int64)), .second, .val (.long (1000 : Int64)), .second, .val (.long ((3600 : Int64) * (1000 : Int64))), .second, .val (.long (3600 : Int64)), .second, .val (.long (1000 : Int64)), .second] [(.int (31 : Int32)), (.long ((3600 : Int64) ||| (1000 : Int64)))])) _
    refine XS.lushr X2.here hx rfl (hb hby d5_24) rfl ?_
    show Steps p.tables e below (T2.setTop (mkF m 25 #[.val (.long (3600 : Int64)), .second, .val (.long (1000 : Int64)), .second, .val (.long ((3600 : Int64) * (1000 : Int64))), .second, .val (.long (3600 : Int64)), .second, .val (.long (1000 : Int64)), .second] [(.long ((((3600 : Int64) ||| (1000 : Int64)).toUInt64 >>> ((31 : Int32) &&& 0x3f).toInt64.toUInt64).toInt64))])) _
    refine XS.lconst X2.here hx rfl (hb hby d5_25) ?_
    show Steps p.tables e below (T2.setTop (mkF m 26 #[.val (.long (3600 : Int64)), .second, .val (.long (1000 : Int64)), .second, .val (.long ((3600 : Int64) * (1000 : Int64))), .second, .val (.long (3600 : Int64)), .second, .val (.long (1000 : Int64)), .second] [(.long (0 : Int64)), (.long ((((3600 : Int64) ||| (1000 : Int64)).toUInt64 >>> ((31 : Int32) &&& 0x3f).toInt64.toUInt64).toInt64))])) _
    refine XS.lcmp X2.here hx rfl (hb hby d5_26) rfl ?_
    show Steps p.tables e below (T2.setTop (mkF m 27 #[.val (.long (3600 : Int64)), .second, .val (.long (1000 : Int64)), .second, .val (.long ((3600 : Int64) * (1000 : Int64))), .second, .val (.long (3600 : Int64)), .second, .val (.long (1000 : Int64)), .second] [(.int (lcmpW ((((3600 : Int64) ||| (1000 : Int64)).toUInt64 >>> ((31 : Int32) &&& 0x3f).toInt64.toUInt64).toInt64) (0 : Int64)))])) _
    refine XS.ifYes X2.here hx rfl (pc0 := 27) (pc' := 71) rfl (hb hby d5_27) rfl ((if0 _ _).trans (teq (by decide +kernel)).1) (by decide) (by decide) ?_
    show Steps p.tables e below (T2.setTop (mkF m 71 #[.val (.long (3600 : Int64)), .second, .val (.long (1000 : Int64)), .second, .val (.long ((3600 : Int64) * (1000 : Int64))), .second, .val (.long (3600 : Int64)), .second, .val (.long (1000 : Int64)), .second] [])) _
    refine XS.lload X2.here hx rfl (hb hby d5_71) rfl ?_
    show Steps p.tables e below (T2.setTop (mkF m 73 #[.val (.long (3600 : Int64)), .second, .val (.long (1000 : Int64)), .second, .val (.long ((3600 : Int64) * (1000 : Int64))), .second, .val (.long (3600 : Int64)), .second, .val (.long (1000 : Int64)), .second] [(.long ((3600 : Int64) * (1000 : Int64)))])) _
    exact X2.lreturnOut hx Bd.returns (hb hby d5_73) hr
  · show Q5_2 Z  h0 n0 _ T2.heap _
    rw [eq2]
    exact ⟨congrArg (fun z => some (Value.long z)) (by decide +kernel), N2, rfl⟩
def Q4_2 (Z : State)  (h0 : Heap) (n0 : Nat) (v : Option Value) (h : Heap) (L : List Loc) : Prop := v = some (.long (3600000 : Int64)) ∧ Fr n0 L ∧ h = h0
set_option maxRecDepth 65536 in
set_option maxHeartbeats 40000000 in
theorem rm4_2 (l : Launch) (Z : State) (a0 : Array Value) (hw : ∀ d ∈ tables_1, d.before a0 Z = true) (ws : List Jvm.Cond)  (h0 : Heap) (n0 : Nat) (Z0 : n0 ≤ h0.size) :
    MetFree l (⟨"java/lang/Math", "multiplyExact", "(JI)J"⟩ : MethodName) (head1 (Jvm.Cond.code (⟨"java/lang/Math", "multiplyExact", "(JI)J"⟩ : MethodName) jdk_29_method_29_code 3 (some .long) :: ws) ({ frames := 2, cells := 0, slots := 0, locals := 34 } : Room)) (fun a U => a = #[(.long (3600 : Int64)), (.int (1000 : Int32))] ∧ Z.Warmed39 U.vm ∧ U.heap = h0) (fun _ _ _ _ _ => True) (fun _ U o U' => ∃ v L, o = .returned v ∧ Q4_2 Z  h0 n0 v U'.heap L ∧ FrameEnd U o U' L ({ frames := 2, cells := 0, slots := 0, locals := 34 } : Room).cells ({ frames := 2, cells := 0, slots := 0, locals := 34 } : Room).slots) := by
  refine MetFree.of_bodySF (Jvm.Free.JP.mathPlain rfl (by decide +kernel)) hisR ?_
  intro p e s m args below meth c s₁ Bd hml0 hP hK
  obtain ⟨rfl, hZ, hh⟩ := hP
  have hx := Bd.exec
  have hby := Bd.bytes
  have hml : c.maxLocals = 3 := hml0
  have hown : s.vm.findClass "java/lang/Math" = some m.cls := findClass_of_methodNamed Bd.named
  have hnm := (name_of_methodNamed Bd.named Bd.method).1
  have X0 : Stand p l e ({ frames := 2, cells := 0, slots := 0, locals := 34 } : Room) s m #[(.long (3600 : Int64)), (.int (1000 : Int32))] below meth c s₁ [] 0 0 := Stand.of_body Bd
  have e0 : s₁.heap = h0 := by rw [← hh, Bd.state]; rfl
  have N0 := Fr.nil n0
  have pre0 : ∀ t, Steps p.tables e below (s₁.setTop (mkF m 0 #[.val (.long (3600 : Int64)), .second, .val (.int (1000 : Int32))] [])) t → Steps p.tables e below (s₁.setTop (entryFrame m #[(.long (3600 : Int64)), (.int (1000 : Int32))] 3)) t := fun t k => castTop (ef_4 m (3600 : Int64) (1000 : Int32)) k
  obtain ⟨_, _, ⟨T1, L1, k1, n1⟩, -, X1, ⟨Lc1, hQ1, l1, y1, z1⟩, st1⟩ := Jvm.LawKit.callS X0 hx (y := (⟨"java/lang/Math", "multiplyExact", "(JJ)J"⟩ : MethodName)) hown (mvT hZ (hw _ (List.mem_of_getElem? (i := 31) rfl))) (mvT hZ (hw _ (List.mem_of_getElem? (i := 32) rfl))) (mvT hZ (hw _ (List.mem_of_getElem? (i := 29) rfl))) (mvT hZ (hw _ (List.mem_of_getElem? (i := 33) rfl))) (by decide) (backOf (W := 0) (rm5_2 l Z a0 hw [] h0 n0 Z0) hZ (hw _ (List.mem_of_getElem? (i := 33) rfl)) (hw _ (List.mem_of_getElem? (i := 29) rfl)) (by decide) (by decide)) (g := (mkF m 3 #[.val (.long (3600 : Int64)), .second, .val (.int (1000 : Int32))] [(.long (1000 : Int64)), (.long (3600 : Int64))])) rfl (by rw [hml]; rfl) (argsL := [(.long (3600 : Int64)), (.long (1000 : Int64))]) (rest := []) (lenOf pd_1 rfl) rfl (by show 2 * 0 + _ ≤ _; exact Nat.le_of_eq rfl) (hb hby d4_3) (fun _ _ => ⟨rfl, e0, (by decide : 0 + 0 ≤ _), (by decide : 0 + 0 ≤ _)⟩)
  dsimp only [Pt.U, Pt.locs, Pt.cells, Pt.slots] at X1 l1 y1 z1 st1 hQ1
  subst l1 y1 z1
  obtain ⟨rfl, N1q, eq1⟩ := hQ1
  have N1 := Fr.app N0 N1q
  obtain ⟨fs, hr, hrun, hended, hW, hsame⟩ := X1.leave (v := some (.long (3600000 : Int64))) (fun h => by rw [Bd.returns] at h; cases h)
  refine ⟨_, _, pre0 _ ?_, hrun, hended, _, _, rfl, ?_, ⟨_, rfl⟩, hW, hsame.mono (by decide) (by decide)⟩
  · show Steps p.tables e below (s₁.setTop (mkF m 0 #[.val (.long (3600 : Int64)), .second, .val (.int (1000 : Int32))] [])) _
    refine XS.lloadN X0.here hx rfl (hb hby d4_0) rfl ?_
    show Steps p.tables e below (s₁.setTop (mkF m 1 #[.val (.long (3600 : Int64)), .second, .val (.int (1000 : Int32))] [(.long (3600 : Int64))])) _
    refine XS.iloadN X0.here hx rfl (hb hby d4_1) rfl ?_
    show Steps p.tables e below (s₁.setTop (mkF m 2 #[.val (.long (3600 : Int64)), .second, .val (.int (1000 : Int32))] [(.int (1000 : Int32)), (.long (3600 : Int64))])) _
    refine XS.i2l X0.here hx rfl (hb hby d4_2) rfl ?_
    show Steps p.tables e below (s₁.setTop (mkF m 3 #[.val (.long (3600 : Int64)), .second, .val (.int (1000 : Int32))] [(.long ((1000 : Int32).toInt64)), (.long (3600 : Int64))])) _
    rw [show ((1000 : Int32).toInt64) = (1000 : Int64) from by decide +kernel]
    show Steps p.tables e below (s₁.setTop (mkF m 3 #[.val (.long (3600 : Int64)), .second, .val (.int (1000 : Int32))] [(.long (1000 : Int64)), (.long (3600 : Int64))])) _
    refine st1 _ ?_
    show Steps p.tables e below (T1.setTop (mkF m 6 #[.val (.long (3600 : Int64)), .second, .val (.int (1000 : Int32))] [(.long (3600000 : Int64))])) _
    exact X1.lreturnOut hx Bd.returns (hb hby d4_6) hr
  · show Q4_2 Z  h0 n0 _ T1.heap _
    rw [eq1]
    exact ⟨rfl, N1, rfl⟩
def Q7_2 (Z : State)  (h0 : Heap) (n0 : Nat) (v : Option Value) (h : Heap) (L : List Loc) : Prop := v = some (.long (3600000 : Int64)) ∧ Fr n0 L ∧ h = h0
set_option maxRecDepth 65536 in
set_option maxHeartbeats 40000000 in
theorem rm7_2 (l : Launch) (Z : State) (a0 : Array Value) (hw : ∀ d ∈ tables_1, d.before a0 Z = true) (ws : List Jvm.Cond)  (h0 : Heap) (n0 : Nat) (Z0 : n0 ≤ h0.size) :
    MetFree l (⟨"java/lang/Math", "addExact", "(JJ)J"⟩ : MethodName) (head1 (Jvm.Cond.code (⟨"java/lang/Math", "addExact", "(JJ)J"⟩ : MethodName) jdk_29_method_25_code 6 (some .long) :: ws) ({ frames := 0, cells := 0, slots := 0, locals := 0 } : Room)) (fun a U => a = #[(.long (3600000 : Int64)), (.long (0 : Int64))] ∧ Z.Warmed39 U.vm ∧ U.heap = h0) (fun _ _ _ _ _ => True) (fun _ U o U' => ∃ v L, o = .returned v ∧ Q7_2 Z  h0 n0 v U'.heap L ∧ FrameEnd U o U' L ({ frames := 0, cells := 0, slots := 0, locals := 0 } : Room).cells ({ frames := 0, cells := 0, slots := 0, locals := 0 } : Room).slots) := by
  refine MetFree.of_bodySF (Jvm.Free.JP.mathPlain rfl (by decide +kernel)) hisR ?_
  intro p e s m args below meth c s₁ Bd hml0 hP hK
  obtain ⟨rfl, hZ, hh⟩ := hP
  have hx := Bd.exec
  have hby := Bd.bytes
  have hml : c.maxLocals = 6 := hml0
  have hown : s.vm.findClass "java/lang/Math" = some m.cls := findClass_of_methodNamed Bd.named
  have hnm := (name_of_methodNamed Bd.named Bd.method).1
  have X0 : Stand p l e ({ frames := 0, cells := 0, slots := 0, locals := 0 } : Room) s m #[(.long (3600000 : Int64)), (.long (0 : Int64))] below meth c s₁ [] 0 0 := Stand.of_body Bd
  have e0 : s₁.heap = h0 := by rw [← hh, Bd.state]; rfl
  have N0 := Fr.nil n0
  have pre0 : ∀ t, Steps p.tables e below (s₁.setTop (mkF m 0 #[.val (.long (3600000 : Int64)), .second, .val (.long (0 : Int64)), .second, .unset, .unset] [])) t → Steps p.tables e below (s₁.setTop (entryFrame m #[(.long (3600000 : Int64)), (.long (0 : Int64))] 6)) t := fun t k => castTop (ef_7 m (3600000 : Int64) (0 : Int64)) k
  obtain ⟨fs, hr, hrun, hended, hW, hsame⟩ := X0.leave (v := some (.long ((3600000 : Int64) + (0 : Int64)))) (fun h => by rw [Bd.returns] at h; cases h)
  refine ⟨_, _, pre0 _ ?_, hrun, hended, _, _, rfl, ?_, ⟨_, rfl⟩, hW, hsame.mono (by decide) (by decide)⟩
  · show Steps p.tables e below (s₁.setTop (mkF m 0 #[.val (.long (3600000 : Int64)), .second, .val (.long (0 : Int64)), .second, .unset, .unset] [])) _
    refine XS.lloadN X0.here hx rfl (hb hby d7_0) rfl ?_
    show Steps p.tables e below (s₁.setTop (mkF m 1 #[.val (.long (3600000 : Int64)), .second, .val (.long (0 : Int64)), .second, .unset, .unset] [(.long (3600000 : Int64))])) _
    refine XS.lloadN X0.here hx rfl (hb hby d7_1) rfl ?_
    show Steps p.tables e below (s₁.setTop (mkF m 2 #[.val (.long (3600000 : Int64)), .second, .val (.long (0 : Int64)), .second, .unset, .unset] [(.long (0 : Int64)), (.long (3600000 : Int64))])) _
    refine XS.ladd X0.here hx rfl (hb hby d7_2) rfl ?_
    show Steps p.tables e below (s₁.setTop (mkF m 3 #[.val (.long (3600000 : Int64)), .second, .val (.long (0 : Int64)), .second, .unset, .unset] [(.long ((3600000 : Int64) + (0 : Int64)))])) _
    refine XS.lstore X0.here hx rfl (hb hby d7_3) rfl (l' := #[.val (.long (3600000 : Int64)), .second, .val (.long (0 : Int64)), .second, .val (.long ((3600000 : Int64) + (0 : Int64))), .second]) rfl ?_
    show Steps p.tables e below (s₁.setTop (mkF m 5 #[.val (.long (3600000 : Int64)), .second, .val (.long (0 : Int64)), .second, .val (.long ((3600000 : Int64) + (0 : Int64))), .second] [])) _
    refine XS.lloadN X0.here hx rfl (hb hby d7_5) rfl ?_
    show Steps p.tables e below (s₁.setTop (mkF m 6 #[.val (.long (3600000 : Int64)), .second, .val (.long (0 : Int64)), .second, .val (.long ((3600000 : Int64) + (0 : Int64))), .second] [(.long (3600000 : Int64))])) _
    refine XS.lload X0.here hx rfl (hb hby d7_6) rfl ?_
    show Steps p.tables e below (s₁.setTop (mkF m 8 #[.val (.long (3600000 : Int64)), .second, .val (.long (0 : Int64)), .second, .val (.long ((3600000 : Int64) + (0 : Int64))), .second] [(.long ((3600000 : Int64) + (0 : Int64))), (.long (3600000 : Int64))])) _
    refine XS.lxor X0.here hx rfl (hb hby d7_8) rfl ?_
    show Steps p.tables e below (s₁.setTop (mkF m 9 #[.val (.long (3600000 : Int64)), .second, .val (.long (0 : Int64)), .second, .val (.long ((3600000 : Int64) + (0 : Int64))), .second] [(.long ((3600000 : Int64) ^^^ ((3600000 : Int64) + (0 : Int64))))])) _
    refine XS.lloadN X0.here hx rfl (hb hby d7_9) rfl ?_
    show Steps p.tables e below (s₁.setTop (mkF m 10 #[.val (.long (3600000 : Int64)), .second, .val (.long (0 : Int64)), .second, .val (.long ((3600000 : Int64) + (0 : Int64))), .second] [(.long (0 : Int64)), (.long ((3600000 : Int64) ^^^ ((3600000 : Int64) + (0 : Int64))))])) _
    refine XS.lload X0.here hx rfl (hb hby d7_10) rfl ?_
    show Steps p.tables e below (s₁.setTop (mkF m 12 #[.val (.long (3600000 : Int64)), .second, .val (.long (0 : Int64)), .second, .val (.long ((3600000 : Int64) + (0 : Int64))), .second] [(.long ((3600000 : Int64) + (0 : Int64))), (.long (0 : Int64)), (.long ((3600000 : Int64) ^^^ ((3600000 : Int64) + (0 : Int64))))])) _
    refine XS.lxor X0.here hx rfl (hb hby d7_12) rfl ?_
    show Steps p.tables e below (s₁.setTop (mkF m 13 #[.val (.long (3600000 : Int64)), .second, .val (.long (0 : Int64)), .second, .val (.long ((3600000 : Int64) + (0 : Int64))), .second] [(.long ((0 : Int64) ^^^ ((3600000 : Int64) + (0 : Int64)))), (.long ((3600000 : Int64) ^^^ ((3600000 : Int64) + (0 : Int64))))])) _
    refine XS.land X0.here hx rfl (hb hby d7_13) rfl ?_
    show Steps p.tables e below (s₁.setTop (mkF m 14 #[.val (.long (3600000 : Int64)), .second, .val (.long (0 : Int64)), .second, .val (.long ((3600000 : Int64) + (0 : Int64))), .second] [(.long (((3600000 : Int64) ^^^ ((3600000 : Int64) + (0 : Int64))) &&& ((0 : Int64) ^^^ ((3600000 : Int64) + (0 : Int64)))))])) _
    refine XS.lconst X0.here hx rfl (hb hby d7_14) ?_
    show Steps p.tables e below (s₁.setTop (mkF m 15 #[.val (.long (3600000 : Int64)), .second, .val (.long (0 : Int64)), .second, .val (.long ((3600000 : Int64) + (0 : Int64))), .second] [(.long (0 : Int64)), (.long (((3600000 : Int64) ^^^ ((3600000 : Int64) + (0 : Int64))) &&& ((0 : Int64) ^^^ ((3600000 : Int64) + (0 : Int64)))))])) _
    refine XS.lcmp X0.here hx rfl (hb hby d7_15) rfl ?_
    show Steps p.tables e below (s₁.setTop (mkF m 16 #[.val (.long (3600000 : Int64)), .second, .val (.long (0 : Int64)), .second, .val (.long ((3600000 : Int64) + (0 : Int64))), .second] [(.int (lcmpW (((3600000 : Int64) ^^^ ((3600000 : Int64) + (0 : Int64))) &&& ((0 : Int64) ^^^ ((3600000 : Int64) + (0 : Int64)))) (0 : Int64)))])) _
    refine XS.ifYes X0.here hx rfl (pc0 := 16) (pc' := 29) rfl (hb hby d7_16) rfl ((if0 _ _).trans (flt (by decide +kernel)).2.1) (by decide) (by decide) ?_
    show Steps p.tables e below (s₁.setTop (mkF m 29 #[.val (.long (3600000 : Int64)), .second, .val (.long (0 : Int64)), .second, .val (.long ((3600000 : Int64) + (0 : Int64))), .second] [])) _
    refine XS.lload X0.here hx rfl (hb hby d7_29) rfl ?_
    show Steps p.tables e below (s₁.setTop (mkF m 31 #[.val (.long (3600000 : Int64)), .second, .val (.long (0 : Int64)), .second, .val (.long ((3600000 : Int64) + (0 : Int64))), .second] [(.long ((3600000 : Int64) + (0 : Int64)))])) _
    exact X0.lreturnOut hx Bd.returns (hb hby d7_31) hr
  · show Q7_2 Z  h0 n0 _ s₁.heap _
    rw [e0]
    exact ⟨congrArg (fun z => some (Value.long z)) (by decide +kernel), N0, rfl⟩
def Q3_2 (Z : State) (d1 : Addr) (h0 : Heap) (n0 : Nat) (v : Option Value) (h : Heap) (L : List Loc) : Prop := v = some (.long (3600000 : Int64)) ∧ Fr n0 L ∧ h = h0
set_option maxRecDepth 65536 in
set_option maxHeartbeats 40000000 in
theorem rm3_2 (l : Launch) (Z : State) (a0 : Array Value) (hw : ∀ d ∈ tables_1, d.before a0 Z = true) (ws : List Jvm.Cond) (d1 : Addr) (h0 : Heap) (n0 : Nat) (Z0 : n0 ≤ h0.size) (FS : Fld Z h0 d1 "java/time/Duration" "seconds" "J" (.long (3600 : Int64))) (FN : Fld Z h0 d1 "java/time/Duration" "nanos" "I" (.int (0 : Int32))) :
    MetFree l (⟨"java/time/Duration", "toMillis", "()J"⟩ : MethodName) (head1 (Jvm.Cond.code (⟨"java/time/Duration", "toMillis", "()J"⟩ : MethodName) jdk_2316_method_57_code 7 (some .long) :: ws) ({ frames := 3, cells := 0, slots := 0, locals := 48 } : Room)) (fun a U => a = #[(.ref d1)] ∧ Z.Warmed39 U.vm ∧ U.heap = h0) (fun _ _ _ _ _ => True) (fun _ U o U' => ∃ v L, o = .returned v ∧ Q3_2 Z d1 h0 n0 v U'.heap L ∧ FrameEnd U o U' L ({ frames := 3, cells := 0, slots := 0, locals := 48 } : Room).cells ({ frames := 3, cells := 0, slots := 0, locals := 48 } : Room).slots) := by
  refine MetFree.of_bodySF (plainFor_of_name pn_Duration) hisR ?_
  intro p e s m args below meth c s₁ Bd hml0 hP hK
  obtain ⟨rfl, hZ, hh⟩ := hP
  have hx := Bd.exec
  have hby := Bd.bytes
  have hml : c.maxLocals = 7 := hml0
  have hown : s.vm.findClass "java/time/Duration" = some m.cls := findClass_of_methodNamed Bd.named
  have hnm := (name_of_methodNamed Bd.named Bd.method).1
  have X0 : Stand p l e ({ frames := 3, cells := 0, slots := 0, locals := 48 } : Room) s m #[(.ref d1)] below meth c s₁ [] 0 0 := Stand.of_body Bd
  have e0 : s₁.heap = h0 := by rw [← hh, Bd.state]; rfl
  have N0 := Fr.nil n0
  have pre0 : ∀ t, Steps p.tables e below (s₁.setTop (mkF m 0 #[.val (.ref d1), .unset, .unset, .unset, .unset, .unset, .unset] [])) t → Steps p.tables e below (s₁.setTop (entryFrame m #[(.ref d1)] 7)) t := fun t k => castTop (ef_3 m d1) k
  obtain ⟨T1, X1, e1, st1⟩ := getF X0 hx hZ hown (host := "") (Or.inl (hw _ (List.mem_of_getElem? (i := 23) rfl))) Via.refl e0 FS (g := (mkF m 1 #[.val (.ref d1), .unset, .unset, .unset, .unset, .unset, .unset] [(.ref d1)])) rfl rfl (hb hby d3_1)
  obtain ⟨T2, X2, e2, st2⟩ := getF X1 hx hZ hown (host := "") (Or.inl (hw _ (List.mem_of_getElem? (i := 25) rfl))) Via.refl e1 FN (g := (mkF m 6 #[.val (.ref d1), .val (.long (3600 : Int64)), .second, .unset, .unset, .unset, .unset] [(.ref d1)])) rfl rfl (hb hby d3_6)
  obtain ⟨_, _, ⟨T3, L3, k3, n3⟩, -, X3, ⟨Lc3, hQ3, l3, y3, z3⟩, st3⟩ := Jvm.LawKit.callS X2 hx (y := (⟨"java/lang/Math", "multiplyExact", "(JI)J"⟩ : MethodName)) hown (mvT hZ (hw _ (List.mem_of_getElem? (i := 27) rfl))) (mvT hZ (hw _ (List.mem_of_getElem? (i := 28) rfl))) (mvT hZ (hw _ (List.mem_of_getElem? (i := 29) rfl))) (mvT hZ (hw _ (List.mem_of_getElem? (i := 30) rfl))) (by decide) (backOf (W := 0) (rm4_2 l Z a0 hw [] h0 n0 Z0) hZ (hw _ (List.mem_of_getElem? (i := 30) rfl)) (hw _ (List.mem_of_getElem? (i := 29) rfl)) (by decide) (by decide)) (g := (mkF m 31 #[.val (.ref d1), .val (.long (3600 : Int64)), .second, .val (.long (0 : Int64)), .second, .unset, .unset] [(.int (1000 : Int32)), (.long (3600 : Int64))])) rfl (by rw [hml]; rfl) (argsL := [(.long (3600 : Int64)), (.int (1000 : Int32))]) (rest := []) (lenOf pd_2 rfl) rfl (by show 2 * 0 + _ ≤ _; exact Nat.le_of_eq rfl) (hb hby d3_31) (fun _ _ => ⟨rfl, e2, (by decide : 0 + 0 ≤ _), (by decide : 0 + 0 ≤ _)⟩)
  dsimp only [Pt.U, Pt.locs, Pt.cells, Pt.slots] at X3 l3 y3 z3 st3 hQ3
  subst l3 y3 z3
  obtain ⟨rfl, N3q, eq3⟩ := hQ3
  have N3 := Fr.app N0 N3q
  obtain ⟨_, _, ⟨T4, L4, k4, n4⟩, -, X4, ⟨Lc4, hQ4, l4, y4, z4⟩, st4⟩ := Jvm.LawKit.callS X3 hx (y := (⟨"java/lang/Math", "addExact", "(JJ)J"⟩ : MethodName)) hown (mvT hZ (hw _ (List.mem_of_getElem? (i := 38) rfl))) (mvT hZ (hw _ (List.mem_of_getElem? (i := 39) rfl))) (mvT hZ (hw _ (List.mem_of_getElem? (i := 29) rfl))) (mvT hZ (hw _ (List.mem_of_getElem? (i := 40) rfl))) (by decide) (backOf (W := 0) (rm7_2 l Z a0 hw [] h0 n0 Z0) hZ (hw _ (List.mem_of_getElem? (i := 40) rfl)) (hw _ (List.mem_of_getElem? (i := 29) rfl)) (by decide) (by decide)) (g := (mkF m 43 #[.val (.ref d1), .val (.long (3600 : Int64)), .second, .val (.long (0 : Int64)), .second, .val (.long (3600000 : Int64)), .second] [(.long (0 : Int64)), (.long (3600000 : Int64))])) rfl (by rw [hml]; rfl) (argsL := [(.long (3600000 : Int64)), (.long (0 : Int64))]) (rest := []) (lenOf pd_1 rfl) rfl (by show 2 * 0 + _ ≤ _; exact Nat.le_of_eq rfl) (hb hby d3_43) (fun _ _ => ⟨rfl, eq3, (by decide : 0 + 0 ≤ _), (by decide : 0 + 0 ≤ _)⟩)
  dsimp only [Pt.U, Pt.locs, Pt.cells, Pt.slots] at X4 l4 y4 z4 st4 hQ4
  subst l4 y4 z4
  obtain ⟨rfl, N4q, eq4⟩ := hQ4
  have N4 := Fr.app N3 N4q
  obtain ⟨fs, hr, hrun, hended, hW, hsame⟩ := X4.leave (v := some (.long (3600000 : Int64))) (fun h => by rw [Bd.returns] at h; cases h)
  refine ⟨_, _, pre0 _ ?_, hrun, hended, _, _, rfl, ?_, ⟨_, rfl⟩, hW, hsame.mono (by decide) (by decide)⟩
  · show Steps p.tables e below (s₁.setTop (mkF m 0 #[.val (.ref d1), .unset, .unset, .unset, .unset, .unset, .unset] [])) _
    refine XS.aloadN X0.here hx rfl (hb hby d3_0) rfl rfl ?_
    show Steps p.tables e below (s₁.setTop (mkF m 1 #[.val (.ref d1), .unset, .unset, .unset, .unset, .unset, .unset] [(.ref d1)])) _
    refine st1 _ ?_
    show Steps p.tables e below (T1.setTop (mkF m 4 #[.val (.ref d1), .unset, .unset, .unset, .unset, .unset, .unset] [(.long (3600 : Int64))])) _
    refine XS.lstoreN X1.here hx rfl (hb hby d3_4) rfl (l' := #[.val (.ref d1), .val (.long (3600 : Int64)), .second, .unset, .unset, .unset, .unset]) rfl ?_
    show Steps p.tables e below (T1.setTop (mkF m 5 #[.val (.ref d1), .val (.long (3600 : Int64)), .second, .unset, .unset, .unset, .unset] [])) _
    refine XS.aloadN X1.here hx rfl (hb hby d3_5) rfl rfl ?_
    show Steps p.tables e below (T1.setTop (mkF m 6 #[.val (.ref d1), .val (.long (3600 : Int64)), .second, .unset, .unset, .unset, .unset] [(.ref d1)])) _
    refine st2 _ ?_
    show Steps p.tables e below (T2.setTop (mkF m 9 #[.val (.ref d1), .val (.long (3600 : Int64)), .second, .unset, .unset, .unset, .unset] [(.int (0 : Int32))])) _
    refine XS.i2l X2.here hx rfl (hb hby d3_9) rfl ?_
    show Steps p.tables e below (T2.setTop (mkF m 10 #[.val (.ref d1), .val (.long (3600 : Int64)), .second, .unset, .unset, .unset, .unset] [(.long ((0 : Int32).toInt64))])) _
    rw [show ((0 : Int32).toInt64) = (0 : Int64) from by decide +kernel]
    show Steps p.tables e below (T2.setTop (mkF m 10 #[.val (.ref d1), .val (.long (3600 : Int64)), .second, .unset, .unset, .unset, .unset] [(.long (0 : Int64))])) _
    refine XS.lstoreN X2.here hx rfl (hb hby d3_10) rfl (l' := #[.val (.ref d1), .val (.long (3600 : Int64)), .second, .val (.long (0 : Int64)), .second, .unset, .unset]) rfl ?_
    show Steps p.tables e below (T2.setTop (mkF m 11 #[.val (.ref d1), .val (.long (3600 : Int64)), .second, .val (.long (0 : Int64)), .second, .unset, .unset] [])) _
    refine XS.lloadN X2.here hx rfl (hb hby d3_11) rfl ?_
    show Steps p.tables e below (T2.setTop (mkF m 12 #[.val (.ref d1), .val (.long (3600 : Int64)), .second, .val (.long (0 : Int64)), .second, .unset, .unset] [(.long (3600 : Int64))])) _
    refine XS.lconst X2.here hx rfl (hb hby d3_12) ?_
    show Steps p.tables e below (T2.setTop (mkF m 13 #[.val (.ref d1), .val (.long (3600 : Int64)), .second, .val (.long (0 : Int64)), .second, .unset, .unset] [(.long (0 : Int64)), (.long (3600 : Int64))])) _
    refine XS.lcmp X2.here hx rfl (hb hby d3_13) rfl ?_
    show Steps p.tables e below (T2.setTop (mkF m 14 #[.val (.ref d1), .val (.long (3600 : Int64)), .second, .val (.long (0 : Int64)), .second, .unset, .unset] [(.int (lcmpW (3600 : Int64) (0 : Int64)))])) _
    refine XS.ifYes X2.here hx rfl (pc0 := 14) (pc' := 27) rfl (hb hby d3_14) rfl ((if0 _ _).trans (flt (by decide +kernel)).2.1) (by decide) (by decide) ?_
    show Steps p.tables e below (T2.setTop (mkF m 27 #[.val (.ref d1), .val (.long (3600 : Int64)), .second, .val (.long (0 : Int64)), .second, .unset, .unset] [])) _
    refine XS.lloadN X2.here hx rfl (hb hby d3_27) rfl ?_
    show Steps p.tables e below (T2.setTop (mkF m 28 #[.val (.ref d1), .val (.long (3600 : Int64)), .second, .val (.long (0 : Int64)), .second, .unset, .unset] [(.long (3600 : Int64))])) _
    refine XS.sipush X2.here hx rfl (hb hby d3_28) ?_
    show Steps p.tables e below (T2.setTop (mkF m 31 #[.val (.ref d1), .val (.long (3600 : Int64)), .second, .val (.long (0 : Int64)), .second, .unset, .unset] [(.int (1000 : Int32)), (.long (3600 : Int64))])) _
    refine st3 _ ?_
    show Steps p.tables e below (T3.setTop (mkF m 34 #[.val (.ref d1), .val (.long (3600 : Int64)), .second, .val (.long (0 : Int64)), .second, .unset, .unset] [(.long (3600000 : Int64))])) _
    refine XS.lstore X3.here hx rfl (hb hby d3_34) rfl (l' := #[.val (.ref d1), .val (.long (3600 : Int64)), .second, .val (.long (0 : Int64)), .second, .val (.long (3600000 : Int64)), .second]) rfl ?_
    show Steps p.tables e below (T3.setTop (mkF m 36 #[.val (.ref d1), .val (.long (3600 : Int64)), .second, .val (.long (0 : Int64)), .second, .val (.long (3600000 : Int64)), .second] [])) _
    refine XS.lload X3.here hx rfl (hb hby d3_36) rfl ?_
    show Steps p.tables e below (T3.setTop (mkF m 38 #[.val (.ref d1), .val (.long (3600 : Int64)), .second, .val (.long (0 : Int64)), .second, .val (.long (3600000 : Int64)), .second] [(.long (3600000 : Int64))])) _
    refine XS.lloadN X3.here hx rfl (hb hby d3_38) rfl ?_
    show Steps p.tables e below (T3.setTop (mkF m 39 #[.val (.ref d1), .val (.long (3600 : Int64)), .second, .val (.long (0 : Int64)), .second, .val (.long (3600000 : Int64)), .second] [(.long (0 : Int64)), (.long (3600000 : Int64))])) _
    refine X3.ldc2Long hx hown (mvT hZ (hw _ (List.mem_of_getElem? (i := 37) rfl))) (g := (mkF m 39 #[.val (.ref d1), .val (.long (3600 : Int64)), .second, .val (.long (0 : Int64)), .second, .val (.long (3600000 : Int64)), .second] [(.long (0 : Int64)), (.long (3600000 : Int64))])) rfl (hb hby d3_39) _ ?_
    show Steps p.tables e below (T3.setTop (mkF m 42 #[.val (.ref d1), .val (.long (3600 : Int64)), .second, .val (.long (0 : Int64)), .second, .val (.long (3600000 : Int64)), .second] [(.long (1000000 : Int64)), (.long (0 : Int64)), (.long (3600000 : Int64))])) _
    refine XS.ldiv X3.here hx rfl (hb hby d3_42) rfl (by decide +kernel) ?_
    show Steps p.tables e below (T3.setTop (mkF m 43 #[.val (.ref d1), .val (.long (3600 : Int64)), .second, .val (.long (0 : Int64)), .second, .val (.long (3600000 : Int64)), .second] [(.long ((0 : Int64) / (1000000 : Int64))), (.long (3600000 : Int64))])) _
    rw [show ((0 : Int64) / (1000000 : Int64)) = (0 : Int64) from by decide +kernel]
    show Steps p.tables e below (T3.setTop (mkF m 43 #[.val (.ref d1), .val (.long (3600 : Int64)), .second, .val (.long (0 : Int64)), .second, .val (.long (3600000 : Int64)), .second] [(.long (0 : Int64)), (.long (3600000 : Int64))])) _
    refine st4 _ ?_
    show Steps p.tables e below (T4.setTop (mkF m 46 #[.val (.ref d1), .val (.long (3600 : Int64)), .second, .val (.long (0 : Int64)), .second, .val (.long (3600000 : Int64)), .second] [(.long (3600000 : Int64))])) _
    refine XS.lstore X4.here hx rfl (hb hby d3_46) rfl (l' := #[.val (.ref d1), .val (.long (3600 : Int64)), .second, .val (.long (0 : Int64)), .second, .val (.long (3600000 : Int64)), .second]) rfl ?_
    show Steps p.tables e below (T4.setTop (mkF m 48 #[.val (.ref d1), .val (.long (3600 : Int64)), .second, .val (.long (0 : Int64)), .second, .val (.long (3600000 : Int64)), .second] [])) _
    refine XS.lload X4.here hx rfl (hb hby d3_48) rfl ?_
    show Steps p.tables e below (T4.setTop (mkF m 50 #[.val (.ref d1), .val (.long (3600 : Int64)), .second, .val (.long (0 : Int64)), .second, .val (.long (3600000 : Int64)), .second] [(.long (3600000 : Int64))])) _
    exact X4.lreturnOut hx Bd.returns (hb hby d3_50) hr
  · show Q3_2 Z d1 h0 n0 _ T4.heap _
    rw [eq4]
    exact ⟨rfl, N4, rfl⟩
def Q1_2 (Z : State) (a1 d1 : Addr) (h0 : Heap) (n0 : Nat) (v : Option Value) (h : Heap) (L : List Loc) : Prop := v = some (.long (2562047788015 : Int64)) ∧ Fr n0 L ∧ h = h0
set_option maxRecDepth 65536 in
set_option maxHeartbeats 40000000 in
theorem rm1_2 (l : Launch) (Z : State) (a0 : Array Value) (hw : ∀ d ∈ tables_1, d.before a0 Z = true) (ws : List Jvm.Cond) (a1 d1 : Addr) (h0 : Heap) (n0 : Nat) (Z0 : n0 ≤ h0.size) (EU : Exa Z h0 a1 "com/example/throttle/throttle/model/Unit") (FL : Fld Z h0 a1 "com/example/throttle/throttle/model/Unit" "length" "Ljava/time/Duration;" (.ref d1)) (ED : Exa Z h0 d1 "java/time/Duration") (FS : Fld Z h0 d1 "java/time/Duration" "seconds" "J" (.long (3600 : Int64))) (FN : Fld Z h0 d1 "java/time/Duration" "nanos" "I" (.int (0 : Int32))) :
    MetFree l (⟨"com/example/throttle/throttle/model/Rule", "maxRpu", "(Lcom/example/throttle/throttle/model/Unit;)J"⟩ : MethodName) (head1 (Jvm.Cond.code (⟨"com/example/throttle/throttle/model/Rule", "maxRpu", "(Lcom/example/throttle/throttle/model/Unit;)J"⟩ : MethodName) prog_4_method_2_code 1 (some .long) :: ws) ({ frames := 4, cells := 0, slots := 0, locals := 68 } : Room)) (fun a U => a = #[(.ref a1)] ∧ Z.Warmed39 U.vm ∧ U.heap = h0) (fun _ _ _ _ _ => True) (fun _ U o U' => ∃ v L, o = .returned v ∧ Q1_2 Z a1 d1 h0 n0 v U'.heap L ∧ FrameEnd U o U' L ({ frames := 4, cells := 0, slots := 0, locals := 68 } : Room).cells ({ frames := 4, cells := 0, slots := 0, locals := 68 } : Room).slots) := by
  refine MetFree.of_bodySF (plainFor_of_name pn_Rule) hisR ?_
  intro p e s m args below meth c s₁ Bd hml0 hP hK
  obtain ⟨rfl, hZ, hh⟩ := hP
  have hx := Bd.exec
  have hby := Bd.bytes
  have hml : c.maxLocals = 1 := hml0
  have hown : s.vm.findClass "com/example/throttle/throttle/model/Rule" = some m.cls := findClass_of_methodNamed Bd.named
  have hnm := (name_of_methodNamed Bd.named Bd.method).1
  have X0 : Stand p l e ({ frames := 4, cells := 0, slots := 0, locals := 68 } : Room) s m #[(.ref a1)] below meth c s₁ [] 0 0 := Stand.of_body Bd
  have e0 : s₁.heap = h0 := by rw [← hh, Bd.state]; rfl
  have N0 := Fr.nil n0
  have pre0 : ∀ t, Steps p.tables e below (s₁.setTop (mkF m 0 #[.val (.ref a1)] [])) t → Steps p.tables e below (s₁.setTop (entryFrame m #[(.ref a1)] 1)) t := fun t k => castTop (ef_1 m a1) k
  obtain ⟨cq1, kq1, q1a, q1b, q1c⟩ := isOf hZ e0 EU
  obtain ⟨_, _, ⟨T1, L1, k1, n1⟩, -, X1, ⟨Lc1, hQ1, l1, y1, z1⟩, st1⟩ := X0.virtualBack hx (y := (⟨"com/example/throttle/throttle/model/Unit", "length", "()Ljava/time/Duration;"⟩ : MethodName)) (z := (⟨"com/example/throttle/throttle/model/Unit", "length", "()Ljava/time/Duration;"⟩ : MethodName)) hown (mvT hZ (hw _ (List.mem_of_getElem? (i := 10) rfl))) (mvT hZ (hw _ (List.mem_of_getElem? (i := 11) rfl))) (notFace_of_selects (args := #[]) (mvT hZ (hw _ (List.mem_of_getElem? (i := 13) rfl)))) (mvT hZ (hw _ (List.mem_of_getElem? (i := 13) rfl))) (mvT hZ (hw _ (List.mem_of_getElem? (i := 12) rfl))) (by decide) (backOf (W := 2) (rm2 l Z a0 hw [] a1 d1 h0 n0 Z0 FL) hZ (hw _ (List.mem_of_getElem? (i := 14) rfl)) (hw _ (List.mem_of_getElem? (i := 1) rfl)) (by decide) (by decide)) q1a q1c (g := (mkF m 4 #[.val (.ref a1)] [(.ref a1), (.long (9223372036854775807 : Int64))])) rfl (by rw [hml]; rfl) (Steps.refl _) (argsL := []) (rest := [(.long (9223372036854775807 : Int64))]) (lenOf pd_3 rfl) rfl (by show 2 * 0 + _ ≤ _; exact Nat.le_of_eq rfl) (hb hby d1_4) (fun _ _ => ⟨rfl, e0, (by decide : 0 + 0 ≤ _), (by decide : 0 + 0 ≤ _)⟩)
  dsimp only [Pt.U, Pt.locs, Pt.cells, Pt.slots] at X1 l1 y1 z1 st1 hQ1
  subst l1 y1 z1
  obtain ⟨rfl, N1q, eq1⟩ := hQ1
  have N1 := Fr.app N0 N1q
  obtain ⟨cq2, kq2, q2a, q2b, q2c⟩ := isOf hZ eq1 ED
  obtain ⟨_, _, ⟨T2, L2, k2, n2⟩, -, X2, ⟨Lc2, hQ2, l2, y2, z2⟩, st2⟩ := X1.virtualBack hx (y := (⟨"java/time/Duration", "toMillis", "()J"⟩ : MethodName)) (z := (⟨"java/time/Duration", "toMillis", "()J"⟩ : MethodName)) hown (mvT hZ (hw _ (List.mem_of_getElem? (i := 17) rfl))) (mvT hZ (hw _ (List.mem_of_getElem? (i := 18) rfl))) (notFace_of_selects (args := #[]) (mvT hZ (hw _ (List.mem_of_getElem? (i := 20) rfl)))) (mvT hZ (hw _ (List.mem_of_getElem? (i := 20) rfl))) (mvT hZ (hw _ (List.mem_of_getElem? (i := 19) rfl))) (by decide) (backOf (W := 2) (rm3_2 l Z a0 hw [] d1 h0 n0 Z0 FS FN) hZ (hw _ (List.mem_of_getElem? (i := 22) rfl)) (hw _ (List.mem_of_getElem? (i := 21) rfl)) (by decide) (by decide)) q2a q2c (g := (mkF m 7 #[.val (.ref a1)] [(.ref d1), (.long (9223372036854775807 : Int64))])) rfl (by rw [hml]; rfl) (Steps.refl _) (argsL := []) (rest := [(.long (9223372036854775807 : Int64))]) (lenOf pd_4 rfl) rfl (by show 2 * 0 + _ ≤ _; exact Nat.le_of_eq rfl) (hb hby d1_7) (fun _ _ => ⟨rfl, eq1, (by decide : 0 + 0 ≤ _), (by decide : 0 + 0 ≤ _)⟩)
  dsimp only [Pt.U, Pt.locs, Pt.cells, Pt.slots] at X2 l2 y2 z2 st2 hQ2
  subst l2 y2 z2
  obtain ⟨rfl, N2q, eq2⟩ := hQ2
  have N2 := Fr.app N1 N2q
  obtain ⟨fs, hr, hrun, hended, hW, hsame⟩ := X2.leave (v := some (.long ((9223372036854775807 : Int64) / (3600000 : Int64)))) (fun h => by rw [Bd.returns] at h; cases h)
  refine ⟨_, _, pre0 _ ?_, hrun, hended, _, _, rfl, ?_, ⟨_, rfl⟩, hW, hsame.mono (by decide) (by decide)⟩
  · show Steps p.tables e below (s₁.setTop (mkF m 0 #[.val (.ref a1)] [])) _
    refine X0.ldc2Long hx hown (mvT hZ (hw _ (List.mem_of_getElem? (i := 9) rfl))) (g := (mkF m 0 #[.val (.ref a1)] [])) rfl (hb hby d1_0) _ ?_
    show Steps p.tables e below (s₁.setTop (mkF m 3 #[.val (.ref a1)] [(.long (9223372036854775807 : Int64))])) _
    refine XS.aloadN X0.here hx rfl (hb hby d1_3) rfl rfl ?_
    show Steps p.tables e below (s₁.setTop (mkF m 4 #[.val (.ref a1)] [(.ref a1), (.long (9223372036854775807 : Int64))])) _
    refine st1.trans ?_
    show Steps p.tables e below (T1.setTop (mkF m 7 #[.val (.ref a1)] [(.ref d1), (.long (9223372036854775807 : Int64))])) _
    refine st2.trans ?_
    show Steps p.tables e below (T2.setTop (mkF m 10 #[.val (.ref a1)] [(.long (3600000 : Int64)), (.long (9223372036854775807 : Int64))])) _
    refine XS.ldiv X2.here hx rfl (hb hby d1_10) rfl (by decide +kernel) ?_
    show Steps p.tables e below (T2.setTop (mkF m 11 #[.val (.ref a1)] [(.long ((9223372036854775807 : Int64) / (3600000 : Int64)))])) _
    exact X2.lreturnOut hx Bd.returns (hb hby d1_11) hr
  · show Q1_2 Z a1 d1 h0 n0 _ T2.heap _
    rw [eq2]
    exact ⟨congrArg (fun z => some (Value.long z)) (by decide +kernel), N2, rfl⟩
set_option maxRecDepth 65536 in
set_option maxHeartbeats 40000000 in
theorem rm0_2 (l : Launch) (Z : State) (a0 : Array Value) (hw : ∀ d ∈ tables_1, d.before a0 Z = true) (ws : List Jvm.Cond) (p1 : Int32) (a1 d1 : Addr) (h0 : Heap) (n0 : Nat) (Z0 : n0 ≤ h0.size) (SU : Sta Z h0 "com/example/throttle/throttle/model/Unit" "HOUR" "Lcom/example/throttle/throttle/model/Unit;" (.ref a1)) (EU : Exa Z h0 a1 "com/example/throttle/throttle/model/Unit") (FL : Fld Z h0 a1 "com/example/throttle/throttle/model/Unit" "length" "Ljava/time/Duration;" (.ref d1)) (ED : Exa Z h0 d1 "java/time/Duration") (FS : Fld Z h0 d1 "java/time/Duration" "seconds" "J" (.long (3600 : Int64))) (FN : Fld Z h0 d1 "java/time/Duration" "nanos" "I" (.int (0 : Int32))) (hk : (p1 &&& 3) = 2) :
    MetFree l x (head1 (Jvm.Cond.code x code maxLocals ret :: ws) room_1) (fun a U => a = #[(.int p1)] ∧ Z.Warmed39 U.vm ∧ U.heap = h0) (fun _ _ _ _ _ => True) (fun _ U o U' => ∃ v L, o = .returned v ∧ Q0 Z p1 a1 d1 h0 n0 v U'.heap L ∧ FrameEnd U o U' L room_1.cells room_1.slots) := by
  refine MetFree.of_bodySF (plainFor_of_name pn_RuleMaxRpuPinLaw) hisR ?_
  intro p e s m args below meth c s₁ Bd hml0 hP hK
  obtain ⟨rfl, hZ, hh⟩ := hP
  have hx := Bd.exec
  have hby := Bd.bytes
  have hml : c.maxLocals = 13 := hml0
  have hown : s.vm.findClass "com/example/throttle/throttle/model/RuleMaxRpuPinLaw" = some m.cls := findClass_of_methodNamed Bd.named
  have hnm := (name_of_methodNamed Bd.named Bd.method).1
  have X0 : Stand p l e room_1 s m #[(.int p1)] below meth c s₁ [] 0 0 := Stand.of_body Bd
  have e0 : s₁.heap = h0 := by rw [← hh, Bd.state]; rfl
  have N0 := Fr.nil n0
  have pre0 : ∀ t, Steps p.tables e below (s₁.setTop (mkF m 0 #[.val (.int p1), .unset, .unset, .unset, .unset, .unset, .unset, .unset, .unset, .unset, .unset, .unset, .unset] [])) t → Steps p.tables e below (s₁.setTop (entryFrame m #[(.int p1)] maxLocals)) t := fun t k => castTop (ef_0 m p1) k
  obtain ⟨T1, X1, e1, st1⟩ := getS2 X0 hx hZ hown (host := "") (Or.inl (hw _ (List.mem_of_getElem? (i := 46) rfl))) Via.refl e0 SU (g := (mkF m 50 #[.val (.int p1), .val (.int (2 : Int32)), .unset, .unset, .unset, .unset, .unset, .unset, .unset, .unset, .unset, .unset, .unset] [])) rfl (hb hby at_50)
  obtain ⟨_, _, ⟨T2, L2, k2, n2⟩, -, X2, ⟨Lc2, hQ2, l2, y2, z2⟩, st2⟩ := Jvm.LawKit.callS X1 hx (y := (⟨"com/example/throttle/throttle/model/Rule", "maxRpu", "(Lcom/example/throttle/throttle/model/Unit;)J"⟩ : MethodName)) hown (mvT hZ (hw _ (List.mem_of_getElem? (i := 5) rfl))) (mvT hZ (hw _ (List.mem_of_getElem? (i := 6) rfl))) (mvT hZ (hw _ (List.mem_of_getElem? (i := 7) rfl))) (mvT hZ (hw _ (List.mem_of_getElem? (i := 8) rfl))) (by decide) (backOf (W := 0) (rm1_2 l Z a0 hw [] a1 d1 h0 n0 Z0 EU FL ED FS FN) hZ (hw _ (List.mem_of_getElem? (i := 8) rfl)) (hw _ (List.mem_of_getElem? (i := 7) rfl)) (by decide) (by decide)) (g := (mkF m 80 #[.val (.int p1), .val (.int (2 : Int32)), .val (.ref a1), .val (.long (3600000 : Int64)), .second, .val (.long (2562047788015 : Int64)), .second, .unset, .unset, .unset, .unset, .unset, .unset] [(.ref a1)])) rfl (by rw [hml]; rfl) (argsL := [(.ref a1)]) (rest := []) (lenOf pd_5 rfl) rfl (by show 2 * 0 + _ ≤ _; exact Nat.le_of_eq rfl) (hb hby at_80) (fun _ _ => ⟨rfl, e1, (by decide : 0 + 0 ≤ _), (by decide : 0 + 0 ≤ _)⟩)
  dsimp only [Pt.U, Pt.locs, Pt.cells, Pt.slots] at X2 l2 y2 z2 st2 hQ2
  subst l2 y2 z2
  obtain ⟨rfl, N2q, eq2⟩ := hQ2
  have N2 := Fr.app N0 N2q
  obtain ⟨fs, hr, hrun, hended, hW, hsame⟩ := X2.leave (v := some (.int (1 : Int32))) (fun h => by rw [Bd.returns] at h; cases h)
  refine ⟨_, _, pre0 _ ?_, hrun, hended, _, _, rfl, ?_, ⟨_, rfl⟩, hW, hsame.mono (by decide) (by decide)⟩
  · show Steps p.tables e below (s₁.setTop (mkF m 0 #[.val (.int p1), .unset, .unset, .unset, .unset, .unset, .unset, .unset, .unset, .unset, .unset, .unset, .unset] [])) _
    refine XS.iloadN X0.here hx rfl (hb hby at_0) rfl ?_
    show Steps p.tables e below (s₁.setTop (mkF m 1 #[.val (.int p1), .unset, .unset, .unset, .unset, .unset, .unset, .unset, .unset, .unset, .unset, .unset, .unset] [(.int p1)])) _
    refine XS.iconst X0.here hx rfl (hb hby at_1) ?_
    show Steps p.tables e below (s₁.setTop (mkF m 2 #[.val (.int p1), .unset, .unset, .unset, .unset, .unset, .unset, .unset, .unset, .unset, .unset, .unset, .unset] [(.int (3 : Int32)), (.int p1)])) _
    refine XS.iand X0.here hx rfl (hb hby at_2) rfl ?_
    show Steps p.tables e below (s₁.setTop (mkF m 3 #[.val (.int p1), .unset, .unset, .unset, .unset, .unset, .unset, .unset, .unset, .unset, .unset, .unset, .unset] [(.int (p1 &&& (3 : Int32)))])) _
    rw [hk]
    show Steps p.tables e below (s₁.setTop (mkF m 3 #[.val (.int p1), .unset, .unset, .unset, .unset, .unset, .unset, .unset, .unset, .unset, .unset, .unset, .unset] [(.int (2 : Int32))])) _
    refine XS.istoreN X0.here hx rfl (hb hby at_3) rfl (l' := #[.val (.int p1), .val (.int (2 : Int32)), .unset, .unset, .unset, .unset, .unset, .unset, .unset, .unset, .unset, .unset, .unset]) rfl ?_
    show Steps p.tables e below (s₁.setTop (mkF m 4 #[.val (.int p1), .val (.int (2 : Int32)), .unset, .unset, .unset, .unset, .unset, .unset, .unset, .unset, .unset, .unset, .unset] [])) _
    refine XS.iloadN X0.here hx rfl (hb hby at_4) rfl ?_
    show Steps p.tables e below (s₁.setTop (mkF m 5 #[.val (.int p1), .val (.int (2 : Int32)), .unset, .unset, .unset, .unset, .unset, .unset, .unset, .unset, .unset, .unset, .unset] [(.int (2 : Int32))])) _
    refine XS.ifYes X0.here hx rfl (pc0 := 5) (pc' := 24) rfl (hb hby at_5) rfl ((if0 _ _).trans (feq (by decide +kernel)).2) (by decide) (by decide) ?_
    show Steps p.tables e below (s₁.setTop (mkF m 24 #[.val (.int p1), .val (.int (2 : Int32)), .unset, .unset, .unset, .unset, .unset, .unset, .unset, .unset, .unset, .unset, .unset] [])) _
    refine XS.iloadN X0.here hx rfl (hb hby at_24) rfl ?_
    show Steps p.tables e below (s₁.setTop (mkF m 25 #[.val (.int p1), .val (.int (2 : Int32)), .unset, .unset, .unset, .unset, .unset, .unset, .unset, .unset, .unset, .unset, .unset] [(.int (2 : Int32))])) _
    refine XS.iconst X0.here hx rfl (hb hby at_25) ?_
    show Steps p.tables e below (s₁.setTop (mkF m 26 #[.val (.int p1), .val (.int (2 : Int32)), .unset, .unset, .unset, .unset, .unset, .unset, .unset, .unset, .unset, .unset, .unset] [(.int (1 : Int32)), (.int (2 : Int32))])) _
    refine XS.icmpYes X0.here hx rfl (pc0 := 26) (pc' := 45) rfl (hb hby at_26) rfl (feq (by decide +kernel)).2 (by decide) (by decide) ?_
    show Steps p.tables e below (s₁.setTop (mkF m 45 #[.val (.int p1), .val (.int (2 : Int32)), .unset, .unset, .unset, .unset, .unset, .unset, .unset, .unset, .unset, .unset, .unset] [])) _
    refine XS.iloadN X0.here hx rfl (hb hby at_45) rfl ?_
    show Steps p.tables e below (s₁.setTop (mkF m 46 #[.val (.int p1), .val (.int (2 : Int32)), .unset, .unset, .unset, .unset, .unset, .unset, .unset, .unset, .unset, .unset, .unset] [(.int (2 : Int32))])) _
    refine XS.iconst X0.here hx rfl (hb hby at_46) ?_
    show Steps p.tables e below (s₁.setTop (mkF m 47 #[.val (.int p1), .val (.int (2 : Int32)), .unset, .unset, .unset, .unset, .unset, .unset, .unset, .unset, .unset, .unset, .unset] [(.int (2 : Int32)), (.int (2 : Int32))])) _
    refine XS.icmpNo X0.here hx rfl (hb hby at_47) rfl (teq (by decide +kernel)).2 ?_
    show Steps p.tables e below (s₁.setTop (mkF m 50 #[.val (.int p1), .val (.int (2 : Int32)), .unset, .unset, .unset, .unset, .unset, .unset, .unset, .unset, .unset, .unset, .unset] [])) _
    refine st1 _ ?_
    show Steps p.tables e below (T1.setTop (mkF m 53 #[.val (.int p1), .val (.int (2 : Int32)), .unset, .unset, .unset, .unset, .unset, .unset, .unset, .unset, .unset, .unset, .unset] [(.ref a1)])) _
    refine XS.astoreN X1.here hx rfl (hb hby at_53) rfl rfl (l' := #[.val (.int p1), .val (.int (2 : Int32)), .val (.ref a1), .unset, .unset, .unset, .unset, .unset, .unset, .unset, .unset, .unset, .unset]) rfl ?_
    show Steps p.tables e below (T1.setTop (mkF m 54 #[.val (.int p1), .val (.int (2 : Int32)), .val (.ref a1), .unset, .unset, .unset, .unset, .unset, .unset, .unset, .unset, .unset, .unset] [])) _
    refine X1.ldc2Long hx hown (mvT hZ (hw _ (List.mem_of_getElem? (i := 48) rfl))) (g := (mkF m 54 #[.val (.int p1), .val (.int (2 : Int32)), .val (.ref a1), .unset, .unset, .unset, .unset, .unset, .unset, .unset, .unset, .unset, .unset] [])) rfl (hb hby at_54) _ ?_
    show Steps p.tables e below (T1.setTop (mkF m 57 #[.val (.int p1), .val (.int (2 : Int32)), .val (.ref a1), .unset, .unset, .unset, .unset, .unset, .unset, .unset, .unset, .unset, .unset] [(.long (3600000 : Int64))])) _
    refine XS.lstoreN X1.here hx rfl (hb hby at_57) rfl (l' := #[.val (.int p1), .val (.int (2 : Int32)), .val (.ref a1), .val (.long (3600000 : Int64)), .second, .unset, .unset, .unset, .unset, .unset, .unset, .unset, .unset]) rfl ?_
    show Steps p.tables e below (T1.setTop (mkF m 58 #[.val (.int p1), .val (.int (2 : Int32)), .val (.ref a1), .val (.long (3600000 : Int64)), .second, .unset, .unset, .unset, .unset, .unset, .unset, .unset, .unset] [])) _
    refine X1.ldc2Long hx hown (mvT hZ (hw _ (List.mem_of_getElem? (i := 49) rfl))) (g := (mkF m 58 #[.val (.int p1), .val (.int (2 : Int32)), .val (.ref a1), .val (.long (3600000 : Int64)), .second, .unset, .unset, .unset, .unset, .unset, .unset, .unset, .unset] [])) rfl (hb hby at_58) _ ?_
    show Steps p.tables e below (T1.setTop (mkF m 61 #[.val (.int p1), .val (.int (2 : Int32)), .val (.ref a1), .val (.long (3600000 : Int64)), .second, .unset, .unset, .unset, .unset, .unset, .unset, .unset, .unset] [(.long (2562047788015 : Int64))])) _
    refine XS.lstore X1.here hx rfl (hb hby at_61) rfl (l' := #[.val (.int p1), .val (.int (2 : Int32)), .val (.ref a1), .val (.long (3600000 : Int64)), .second, .val (.long (2562047788015 : Int64)), .second, .unset, .unset, .unset, .unset, .unset, .unset]) rfl ?_
    show Steps p.tables e below (T1.setTop (mkF m 63 #[.val (.int p1), .val (.int (2 : Int32)), .val (.ref a1), .val (.long (3600000 : Int64)), .second, .val (.long (2562047788015 : Int64)), .second, .unset, .unset, .unset, .unset, .unset, .unset] [])) _
    refine XS.goto X1.here hx rfl (pc0 := 63) (pc' := 79) rfl (hb hby at_63) (by decide) (by decide) ?_
    show Steps p.tables e below (T1.setTop (mkF m 79 #[.val (.int p1), .val (.int (2 : Int32)), .val (.ref a1), .val (.long (3600000 : Int64)), .second, .val (.long (2562047788015 : Int64)), .second, .unset, .unset, .unset, .unset, .unset, .unset] [])) _
    refine XS.aloadN X1.here hx rfl (hb hby at_79) rfl rfl ?_
    show Steps p.tables e below (T1.setTop (mkF m 80 #[.val (.int p1), .val (.int (2 : Int32)), .val (.ref a1), .val (.long (3600000 : Int64)), .second, .val (.long (2562047788015 : Int64)), .second, .unset, .unset, .unset, .unset, .unset, .unset] [(.ref a1)])) _
    refine st2 _ ?_
    show Steps p.tables e below (T2.setTop (mkF m 83 #[.val (.int p1), .val (.int (2 : Int32)), .val (.ref a1), .val (.long (3600000 : Int64)), .second, .val (.long (2562047788015 : Int64)), .second, .unset, .unset, .unset, .unset, .unset, .unset] [(.long (2562047788015 : Int64))])) _
    refine XS.lstore X2.here hx rfl (hb hby at_83) rfl (l' := #[.val (.int p1), .val (.int (2 : Int32)), .val (.ref a1), .val (.long (3600000 : Int64)), .second, .val (.long (2562047788015 : Int64)), .second, .val (.long (2562047788015 : Int64)), .second, .unset, .unset, .unset, .unset]) rfl ?_
    show Steps p.tables e below (T2.setTop (mkF m 85 #[.val (.int p1), .val (.int (2 : Int32)), .val (.ref a1), .val (.long (3600000 : Int64)), .second, .val (.long (2562047788015 : Int64)), .second, .val (.long (2562047788015 : Int64)), .second, .unset, .unset, .unset, .unset] [])) _
    refine XS.lload X2.here hx rfl (hb hby at_85) rfl ?_
    show Steps p.tables e below (T2.setTop (mkF m 87 #[.val (.int p1), .val (.int (2 : Int32)), .val (.ref a1), .val (.long (3600000 : Int64)), .second, .val (.long (2562047788015 : Int64)), .second, .val (.long (2562047788015 : Int64)), .second, .unset, .unset, .unset, .unset] [(.long (2562047788015 : Int64))])) _
    refine XS.lload X2.here hx rfl (hb hby at_87) rfl ?_
    show Steps p.tables e below (T2.setTop (mkF m 89 #[.val (.int p1), .val (.int (2 : Int32)), .val (.ref a1), .val (.long (3600000 : Int64)), .second, .val (.long (2562047788015 : Int64)), .second, .val (.long (2562047788015 : Int64)), .second, .unset, .unset, .unset, .unset] [(.long (2562047788015 : Int64)), (.long (2562047788015 : Int64))])) _
    refine XS.lcmp X2.here hx rfl (hb hby at_89) rfl ?_
    show Steps p.tables e below (T2.setTop (mkF m 90 #[.val (.int p1), .val (.int (2 : Int32)), .val (.ref a1), .val (.long (3600000 : Int64)), .second, .val (.long (2562047788015 : Int64)), .second, .val (.long (2562047788015 : Int64)), .second, .unset, .unset, .unset, .unset] [(.int (lcmpW (2562047788015 : Int64) (2562047788015 : Int64)))])) _
    refine XS.ifYes X2.here hx rfl (pc0 := 90) (pc' := 95) rfl (hb hby at_90) rfl ((if0 _ _).trans (teq (by decide +kernel)).1) (by decide) (by decide) ?_
    show Steps p.tables e below (T2.setTop (mkF m 95 #[.val (.int p1), .val (.int (2 : Int32)), .val (.ref a1), .val (.long (3600000 : Int64)), .second, .val (.long (2562047788015 : Int64)), .second, .val (.long (2562047788015 : Int64)), .second, .unset, .unset, .unset, .unset] [])) _
    refine XS.lload X2.here hx rfl (hb hby at_95) rfl ?_
    show Steps p.tables e below (T2.setTop (mkF m 97 #[.val (.int p1), .val (.int (2 : Int32)), .val (.ref a1), .val (.long (3600000 : Int64)), .second, .val (.long (2562047788015 : Int64)), .second, .val (.long (2562047788015 : Int64)), .second, .unset, .unset, .unset, .unset] [(.long (2562047788015 : Int64))])) _
    refine XS.lloadN X2.here hx rfl (hb hby at_97) rfl ?_
    show Steps p.tables e below (T2.setTop (mkF m 98 #[.val (.int p1), .val (.int (2 : Int32)), .val (.ref a1), .val (.long (3600000 : Int64)), .second, .val (.long (2562047788015 : Int64)), .second, .val (.long (2562047788015 : Int64)), .second, .unset, .unset, .unset, .unset] [(.long (3600000 : Int64)), (.long (2562047788015 : Int64))])) _
    refine XS.lmul X2.here hx rfl (hb hby at_98) rfl ?_
    show Steps p.tables e below (T2.setTop (mkF m 99 #[.val (.int p1), .val (.int (2 : Int32)), .val (.ref a1), .val (.long (3600000 : Int64)), .second, .val (.long (2562047788015 : Int64)), .second, .val (.long (2562047788015 : Int64)), .second, .unset, .unset, .unset, .unset] [(.long ((2562047788015 : Int64) * (3600000 : Int64)))])) _
    refine XS.lstore X2.here hx rfl (hb hby at_99) rfl (l' := #[.val (.int p1), .val (.int (2 : Int32)), .val (.ref a1), .val (.long (3600000 : Int64)), .second, .val (.long (2562047788015 : Int64)), .second, .val (.long (2562047788015 : Int64)), .second, .val (.long ((2562047788015 : Int64) * (3600000 : Int64))), .second, .unset, .unset]) rfl ?_
    show Steps p.tables e below (T2.setTop (mkF m 101 #[.val (.int p1), .val (.int (2 : Int32)), .val (.ref a1), .val (.long (3600000 : Int64)), .second, .val (.long (2562047788015 : Int64)), .second, .val (.long (2562047788015 : Int64)), .second, .val (.long ((2562047788015 : Int64) * (3600000 : Int64))), .second, .unset, .unset] [])) _
    refine XS.lload X2.here hx rfl (hb hby at_101) rfl ?_
    show Steps p.tables e below (T2.setTop (mkF m 103 #[.val (.int p1), .val (.int (2 : Int32)), .val (.ref a1), .val (.long (3600000 : Int64)), .second, .val (.long (2562047788015 : Int64)), .second, .val (.long (2562047788015 : Int64)), .second, .val (.long ((2562047788015 : Int64) * (3600000 : Int64))), .second, .unset, .unset] [(.long (2562047788015 : Int64))])) _
    refine XS.lconst X2.here hx rfl (hb hby at_103) ?_
    show Steps p.tables e below (T2.setTop (mkF m 104 #[.val (.int p1), .val (.int (2 : Int32)), .val (.ref a1), .val (.long (3600000 : Int64)), .second, .val (.long (2562047788015 : Int64)), .second, .val (.long (2562047788015 : Int64)), .second, .val (.long ((2562047788015 : Int64) * (3600000 : Int64))), .second, .unset, .unset] [(.long (1 : Int64)), (.long (2562047788015 : Int64))])) _
    refine XS.lcmp X2.here hx rfl (hb hby at_104) rfl ?_
    show Steps p.tables e below (T2.setTop (mkF m 105 #[.val (.int p1), .val (.int (2 : Int32)), .val (.ref a1), .val (.long (3600000 : Int64)), .second, .val (.long (2562047788015 : Int64)), .second, .val (.long (2562047788015 : Int64)), .second, .val (.long ((2562047788015 : Int64) * (3600000 : Int64))), .second, .unset, .unset] [(.int (lcmpW (2562047788015 : Int64) (1 : Int64)))])) _
    refine XS.ifNo X2.here hx rfl (hb hby at_105) rfl ((if0 _ _).trans (flt (by decide +kernel)).1) ?_
    show Steps p.tables e below (T2.setTop (mkF m 108 #[.val (.int p1), .val (.int (2 : Int32)), .val (.ref a1), .val (.long (3600000 : Int64)), .second, .val (.long (2562047788015 : Int64)), .second, .val (.long (2562047788015 : Int64)), .second, .val (.long ((2562047788015 : Int64) * (3600000 : Int64))), .second, .unset, .unset] [])) _
    refine XS.lload X2.here hx rfl (hb hby at_108) rfl ?_
    show Steps p.tables e below (T2.setTop (mkF m 110 #[.val (.int p1), .val (.int (2 : Int32)), .val (.ref a1), .val (.long (3600000 : Int64)), .second, .val (.long (2562047788015 : Int64)), .second, .val (.long (2562047788015 : Int64)), .second, .val (.long ((2562047788015 : Int64) * (3600000 : Int64))), .second, .unset, .unset] [(.long ((2562047788015 : Int64) * (3600000 : Int64)))])) _
    refine XS.lconst X2.here hx rfl (hb hby at_110) ?_
    show Steps p.tables e below (T2.setTop (mkF m 111 #[.val (.int p1), .val (.int (2 : Int32)), .val (.ref a1), .val (.long (3600000 : Int64)), .second, .val (.long (2562047788015 : Int64)), .second, .val (.long (2562047788015 : Int64)), .second, .val (.long ((2562047788015 : Int64) * (3600000 : Int64))), .second, .unset, .unset] [(.long (0 : Int64)), (.long ((2562047788015 : Int64) * (3600000 : Int64)))])) _
    refine XS.lcmp X2.here hx rfl (hb hby at_111) rfl ?_
    show Steps p.tables e below (T2.setTop (mkF m 112 #[.val (.int p1), .val (.int (2 : Int32)), .val (.ref a1), .val (.long (3600000 : Int64)), .second, .val (.long (2562047788015 : Int64)), .second, .val (.long (2562047788015 : Int64)), .second, .val (.long ((2562047788015 : Int64) * (3600000 : Int64))), .second, .unset, .unset] [(.int (lcmpW ((2562047788015 : Int64) * (3600000 : Int64)) (0 : Int64)))])) _
    refine XS.ifNo X2.here hx rfl (hb hby at_112) rfl ((if0 _ _).trans (flt (by decide +kernel)).1) ?_
    show Steps p.tables e below (T2.setTop (mkF m 115 #[.val (.int p1), .val (.int (2 : Int32)), .val (.ref a1), .val (.long (3600000 : Int64)), .second, .val (.long (2562047788015 : Int64)), .second, .val (.long (2562047788015 : Int64)), .second, .val (.long ((2562047788015 : Int64) * (3600000 : Int64))), .second, .unset, .unset] [])) _
    refine XS.lload X2.here hx rfl (hb hby at_115) rfl ?_
    show Steps p.tables e below (T2.setTop (mkF m 117 #[.val (.int p1), .val (.int (2 : Int32)), .val (.ref a1), .val (.long (3600000 : Int64)), .second, .val (.long (2562047788015 : Int64)), .second, .val (.long (2562047788015 : Int64)), .second, .val (.long ((2562047788015 : Int64) * (3600000 : Int64))), .second, .unset, .unset] [(.long ((2562047788015 : Int64) * (3600000 : Int64)))])) _
    refine XS.lloadN X2.here hx rfl (hb hby at_117) rfl ?_
    show Steps p.tables e below (T2.setTop (mkF m 118 #[.val (.int p1), .val (.int (2 : Int32)), .val (.ref a1), .val (.long (3600000 : Int64)), .second, .val (.long (2562047788015 : Int64)), .second, .val (.long (2562047788015 : Int64)), .second, .val (.long ((2562047788015 : Int64) * (3600000 : Int64))), .second, .unset, .unset] [(.long (3600000 : Int64)), (.long ((2562047788015 : Int64) * (3600000 : Int64)))])) _
    refine XS.ldiv X2.here hx rfl (hb hby at_118) rfl (by decide +kernel) ?_
    show Steps p.tables e below (T2.setTop (mkF m 119 #[.val (.int p1), .val (.int (2 : Int32)), .val (.ref a1), .val (.long (3600000 : Int64)), .second, .val (.long (2562047788015 : Int64)), .second, .val (.long (2562047788015 : Int64)), .second, .val (.long ((2562047788015 : Int64) * (3600000 : Int64))), .second, .unset, .unset] [(.long (((2562047788015 : Int64) * (3600000 : Int64)) / (3600000 : Int64)))])) _
    refine XS.lload X2.here hx rfl (hb hby at_119) rfl ?_
    show Steps p.tables e below (T2.setTop (mkF m 121 #[.val (.int p1), .val (.int (2 : Int32)), .val (.ref a1), .val (.long (3600000 : Int64)), .second, .val (.long (2562047788015 : Int64)), .second, .val (.long (2562047788015 : Int64)), .second, .val (.long ((2562047788015 : Int64) * (3600000 : Int64))), .second, .unset, .unset] [(.long (2562047788015 : Int64)), (.long (((2562047788015 : Int64) * (3600000 : Int64)) / (3600000 : Int64)))])) _
    refine XS.lcmp X2.here hx rfl (hb hby at_121) rfl ?_
    show Steps p.tables e below (T2.setTop (mkF m 122 #[.val (.int p1), .val (.int (2 : Int32)), .val (.ref a1), .val (.long (3600000 : Int64)), .second, .val (.long (2562047788015 : Int64)), .second, .val (.long (2562047788015 : Int64)), .second, .val (.long ((2562047788015 : Int64) * (3600000 : Int64))), .second, .unset, .unset] [(.int (lcmpW (((2562047788015 : Int64) * (3600000 : Int64)) / (3600000 : Int64)) (2562047788015 : Int64)))])) _
    refine XS.ifNo X2.here hx rfl (hb hby at_122) rfl ((if0 _ _).trans (teq (by decide +kernel)).2) ?_
    show Steps p.tables e below (T2.setTop (mkF m 125 #[.val (.int p1), .val (.int (2 : Int32)), .val (.ref a1), .val (.long (3600000 : Int64)), .second, .val (.long (2562047788015 : Int64)), .second, .val (.long (2562047788015 : Int64)), .second, .val (.long ((2562047788015 : Int64) * (3600000 : Int64))), .second, .unset, .unset] [])) _
    refine XS.iconst X2.here hx rfl (hb hby at_125) ?_
    show Steps p.tables e below (T2.setTop (mkF m 126 #[.val (.int p1), .val (.int (2 : Int32)), .val (.ref a1), .val (.long (3600000 : Int64)), .second, .val (.long (2562047788015 : Int64)), .second, .val (.long (2562047788015 : Int64)), .second, .val (.long ((2562047788015 : Int64) * (3600000 : Int64))), .second, .unset, .unset] [(.int (1 : Int32))])) _
    refine XS.goto X2.here hx rfl (pc0 := 126) (pc' := 130) rfl (hb hby at_126) (by decide) (by decide) ?_
    show Steps p.tables e below (T2.setTop (mkF m 130 #[.val (.int p1), .val (.int (2 : Int32)), .val (.ref a1), .val (.long (3600000 : Int64)), .second, .val (.long (2562047788015 : Int64)), .second, .val (.long (2562047788015 : Int64)), .second, .val (.long ((2562047788015 : Int64) * (3600000 : Int64))), .second, .unset, .unset] [(.int (1 : Int32))])) _
    refine XS.istore X2.here hx rfl (hb hby at_130) rfl (l' := #[.val (.int p1), .val (.int (2 : Int32)), .val (.ref a1), .val (.long (3600000 : Int64)), .second, .val (.long (2562047788015 : Int64)), .second, .val (.long (2562047788015 : Int64)), .second, .val (.long ((2562047788015 : Int64) * (3600000 : Int64))), .second, .val (.int (1 : Int32)), .unset]) rfl ?_
    show Steps p.tables e below (T2.setTop (mkF m 132 #[.val (.int p1), .val (.int (2 : Int32)), .val (.ref a1), .val (.long (3600000 : Int64)), .second, .val (.long (2562047788015 : Int64)), .second, .val (.long (2562047788015 : Int64)), .second, .val (.long ((2562047788015 : Int64) * (3600000 : Int64))), .second, .val (.int (1 : Int32)), .unset] [])) _
    refine X2.ldc2Long hx hown (mvT hZ (hw _ (List.mem_of_getElem? (i := 41) rfl))) (g := (mkF m 132 #[.val (.int p1), .val (.int (2 : Int32)), .val (.ref a1), .val (.long (3600000 : Int64)), .second, .val (.long (2562047788015 : Int64)), .second, .val (.long (2562047788015 : Int64)), .second, .val (.long ((2562047788015 : Int64) * (3600000 : Int64))), .second, .val (.int (1 : Int32)), .unset] [])) rfl (hb hby at_132) _ ?_
    show Steps p.tables e below (T2.setTop (mkF m 135 #[.val (.int p1), .val (.int (2 : Int32)), .val (.ref a1), .val (.long (3600000 : Int64)), .second, .val (.long (2562047788015 : Int64)), .second, .val (.long (2562047788015 : Int64)), .second, .val (.long ((2562047788015 : Int64) * (3600000 : Int64))), .second, .val (.int (1 : Int32)), .unset] [(.long (9223372036854775807 : Int64))])) _
    refine XS.lload X2.here hx rfl (hb hby at_135) rfl ?_
    show Steps p.tables e below (T2.setTop (mkF m 137 #[.val (.int p1), .val (.int (2 : Int32)), .val (.ref a1), .val (.long (3600000 : Int64)), .second, .val (.long (2562047788015 : Int64)), .second, .val (.long (2562047788015 : Int64)), .second, .val (.long ((2562047788015 : Int64) * (3600000 : Int64))), .second, .val (.int (1 : Int32)), .unset] [(.long ((2562047788015 : Int64) * (3600000 : Int64))), (.long (9223372036854775807 : Int64))])) _
    refine XS.lsub X2.here hx rfl (hb hby at_137) rfl ?_
    show Steps p.tables e below (T2.setTop (mkF m 138 #[.val (.int p1), .val (.int (2 : Int32)), .val (.ref a1), .val (.long (3600000 : Int64)), .second, .val (.long (2562047788015 : Int64)), .second, .val (.long (2562047788015 : Int64)), .second, .val (.long ((2562047788015 : Int64) * (3600000 : Int64))), .second, .val (.int (1 : Int32)), .unset] [(.long ((9223372036854775807 : Int64) - ((2562047788015 : Int64) * (3600000 : Int64))))])) _
    refine XS.lloadN X2.here hx rfl (hb hby at_138) rfl ?_
    show Steps p.tables e below (T2.setTop (mkF m 139 #[.val (.int p1), .val (.int (2 : Int32)), .val (.ref a1), .val (.long (3600000 : Int64)), .second, .val (.long (2562047788015 : Int64)), .second, .val (.long (2562047788015 : Int64)), .second, .val (.long ((2562047788015 : Int64) * (3600000 : Int64))), .second, .val (.int (1 : Int32)), .unset] [(.long (3600000 : Int64)), (.long ((9223372036854775807 : Int64) - ((2562047788015 : Int64) * (3600000 : Int64))))])) _
    refine XS.lcmp X2.here hx rfl (hb hby at_139) rfl ?_
    show Steps p.tables e below (T2.setTop (mkF m 140 #[.val (.int p1), .val (.int (2 : Int32)), .val (.ref a1), .val (.long (3600000 : Int64)), .second, .val (.long (2562047788015 : Int64)), .second, .val (.long (2562047788015 : Int64)), .second, .val (.long ((2562047788015 : Int64) * (3600000 : Int64))), .second, .val (.int (1 : Int32)), .unset] [(.int (lcmpW ((9223372036854775807 : Int64) - ((2562047788015 : Int64) * (3600000 : Int64))) (3600000 : Int64)))])) _
    refine XS.ifNo X2.here hx rfl (hb hby at_140) rfl ((if0 _ _).trans (tlt (by decide +kernel)).2.1) ?_
    show Steps p.tables e below (T2.setTop (mkF m 143 #[.val (.int p1), .val (.int (2 : Int32)), .val (.ref a1), .val (.long (3600000 : Int64)), .second, .val (.long (2562047788015 : Int64)), .second, .val (.long (2562047788015 : Int64)), .second, .val (.long ((2562047788015 : Int64) * (3600000 : Int64))), .second, .val (.int (1 : Int32)), .unset] [])) _
    refine XS.iconst X2.here hx rfl (hb hby at_143) ?_
    show Steps p.tables e below (T2.setTop (mkF m 144 #[.val (.int p1), .val (.int (2 : Int32)), .val (.ref a1), .val (.long (3600000 : Int64)), .second, .val (.long (2562047788015 : Int64)), .second, .val (.long (2562047788015 : Int64)), .second, .val (.long ((2562047788015 : Int64) * (3600000 : Int64))), .second, .val (.int (1 : Int32)), .unset] [(.int (1 : Int32))])) _
    refine XS.goto X2.here hx rfl (pc0 := 144) (pc' := 148) rfl (hb hby at_144) (by decide) (by decide) ?_
    show Steps p.tables e below (T2.setTop (mkF m 148 #[.val (.int p1), .val (.int (2 : Int32)), .val (.ref a1), .val (.long (3600000 : Int64)), .second, .val (.long (2562047788015 : Int64)), .second, .val (.long (2562047788015 : Int64)), .second, .val (.long ((2562047788015 : Int64) * (3600000 : Int64))), .second, .val (.int (1 : Int32)), .unset] [(.int (1 : Int32))])) _
    refine XS.istore X2.here hx rfl (hb hby at_148) rfl (l' := #[.val (.int p1), .val (.int (2 : Int32)), .val (.ref a1), .val (.long (3600000 : Int64)), .second, .val (.long (2562047788015 : Int64)), .second, .val (.long (2562047788015 : Int64)), .second, .val (.long ((2562047788015 : Int64) * (3600000 : Int64))), .second, .val (.int (1 : Int32)), .val (.int (1 : Int32))]) rfl ?_
    show Steps p.tables e below (T2.setTop (mkF m 150 #[.val (.int p1), .val (.int (2 : Int32)), .val (.ref a1), .val (.long (3600000 : Int64)), .second, .val (.long (2562047788015 : Int64)), .second, .val (.long (2562047788015 : Int64)), .second, .val (.long ((2562047788015 : Int64) * (3600000 : Int64))), .second, .val (.int (1 : Int32)), .val (.int (1 : Int32))] [])) _
    refine XS.iload X2.here hx rfl (hb hby at_150) rfl ?_
    show Steps p.tables e below (T2.setTop (mkF m 152 #[.val (.int p1), .val (.int (2 : Int32)), .val (.ref a1), .val (.long (3600000 : Int64)), .second, .val (.long (2562047788015 : Int64)), .second, .val (.long (2562047788015 : Int64)), .second, .val (.long ((2562047788015 : Int64) * (3600000 : Int64))), .second, .val (.int (1 : Int32)), .val (.int (1 : Int32))] [(.int (1 : Int32))])) _
    refine XS.ifNo X2.here hx rfl (hb hby at_152) rfl ((if0 _ _).trans (feq (by decide +kernel)).1) ?_
    show Steps p.tables e below (T2.setTop (mkF m 155 #[.val (.int p1), .val (.int (2 : Int32)), .val (.ref a1), .val (.long (3600000 : Int64)), .second, .val (.long (2562047788015 : Int64)), .second, .val (.long (2562047788015 : Int64)), .second, .val (.long ((2562047788015 : Int64) * (3600000 : Int64))), .second, .val (.int (1 : Int32)), .val (.int (1 : Int32))] [])) _
    refine XS.iload X2.here hx rfl (hb hby at_155) rfl ?_
    show Steps p.tables e below (T2.setTop (mkF m 157 #[.val (.int p1), .val (.int (2 : Int32)), .val (.ref a1), .val (.long (3600000 : Int64)), .second, .val (.long (2562047788015 : Int64)), .second, .val (.long (2562047788015 : Int64)), .second, .val (.long ((2562047788015 : Int64) * (3600000 : Int64))), .second, .val (.int (1 : Int32)), .val (.int (1 : Int32))] [(.int (1 : Int32))])) _
    refine XS.ifNo X2.here hx rfl (hb hby at_157) rfl ((if0 _ _).trans (feq (by decide +kernel)).1) ?_
    show Steps p.tables e below (T2.setTop (mkF m 160 #[.val (.int p1), .val (.int (2 : Int32)), .val (.ref a1), .val (.long (3600000 : Int64)), .second, .val (.long (2562047788015 : Int64)), .second, .val (.long (2562047788015 : Int64)), .second, .val (.long ((2562047788015 : Int64) * (3600000 : Int64))), .second, .val (.int (1 : Int32)), .val (.int (1 : Int32))] [])) _
    refine XS.iconst X2.here hx rfl (hb hby at_160) ?_
    show Steps p.tables e below (T2.setTop (mkF m 161 #[.val (.int p1), .val (.int (2 : Int32)), .val (.ref a1), .val (.long (3600000 : Int64)), .second, .val (.long (2562047788015 : Int64)), .second, .val (.long (2562047788015 : Int64)), .second, .val (.long ((2562047788015 : Int64) * (3600000 : Int64))), .second, .val (.int (1 : Int32)), .val (.int (1 : Int32))] [(.int (1 : Int32))])) _
    refine XS.goto X2.here hx rfl (pc0 := 161) (pc' := 165) rfl (hb hby at_161) (by decide) (by decide) ?_
    show Steps p.tables e below (T2.setTop (mkF m 165 #[.val (.int p1), .val (.int (2 : Int32)), .val (.ref a1), .val (.long (3600000 : Int64)), .second, .val (.long (2562047788015 : Int64)), .second, .val (.long (2562047788015 : Int64)), .second, .val (.long ((2562047788015 : Int64) * (3600000 : Int64))), .second, .val (.int (1 : Int32)), .val (.int (1 : Int32))] [(.int (1 : Int32))])) _
    exact retN X2 hx (t := .boolean) Bd.returns (by simp) (hb hby at_165) hr
  · show Q0 Z p1 a1 d1 h0 n0 _ T2.heap _
    rw [eq2]
    exact ⟨rfl, N2⟩
def Q5_3 (Z : State)  (h0 : Heap) (n0 : Nat) (v : Option Value) (h : Heap) (L : List Loc) : Prop := v = some (.long (86400000 : Int64)) ∧ Fr n0 L ∧ h = h0
set_option maxRecDepth 65536 in
set_option maxHeartbeats 40000000 in
theorem rm5_3 (l : Launch) (Z : State) (a0 : Array Value) (hw : ∀ d ∈ tables_1, d.before a0 Z = true) (ws : List Jvm.Cond)  (h0 : Heap) (n0 : Nat) (Z0 : n0 ≤ h0.size) :
    MetFree l (⟨"java/lang/Math", "multiplyExact", "(JJ)J"⟩ : MethodName) (head1 (Jvm.Cond.code (⟨"java/lang/Math", "multiplyExact", "(JJ)J"⟩ : MethodName) jdk_29_method_30_code 10 (some .long) :: ws) ({ frames := 1, cells := 0, slots := 0, locals := 13 } : Room)) (fun a U => a = #[(.long (86400 : Int64)), (.long (1000 : Int64))] ∧ Z.Warmed39 U.vm ∧ U.heap = h0) (fun _ _ _ _ _ => True) (fun _ U o U' => ∃ v L, o = .returned v ∧ Q5_3 Z  h0 n0 v U'.heap L ∧ FrameEnd U o U' L ({ frames := 1, cells := 0, slots := 0, locals := 13 } : Room).cells ({ frames := 1, cells := 0, slots := 0, locals := 13 } : Room).slots) := by
  refine MetFree.of_bodySF (Jvm.Free.JP.mathPlain rfl (by decide +kernel)) hisR ?_
  intro p e s m args below meth c s₁ Bd hml0 hP hK
  obtain ⟨rfl, hZ, hh⟩ := hP
  have hx := Bd.exec
  have hby := Bd.bytes
  have hml : c.maxLocals = 10 := hml0
  have hown : s.vm.findClass "java/lang/Math" = some m.cls := findClass_of_methodNamed Bd.named
  have hnm := (name_of_methodNamed Bd.named Bd.method).1
  have X0 : Stand p l e ({ frames := 1, cells := 0, slots := 0, locals := 13 } : Room) s m #[(.long (86400 : Int64)), (.long (1000 : Int64))] below meth c s₁ [] 0 0 := Stand.of_body Bd
  have e0 : s₁.heap = h0 := by rw [← hh, Bd.state]; rfl
  have N0 := Fr.nil n0
  have pre0 : ∀ t, Steps p.tables e below (s₁.setTop (mkF m 0 #[.val (.long (86400 : Int64)), .second, .val (.long (1000 : Int64)), .second, .unset, .unset, .unset, .unset, .unset, .unset] [])) t → Steps p.tables e below (s₁.setTop (entryFrame m #[(.long (86400 : Int64)), (.long (1000 : Int64))] 10)) t := fun t k => castTop (ef_5 m (86400 : Int64) (1000 : Int64)) k
  obtain ⟨_, _, ⟨T1, L1, k1, n1⟩, -, X1, ⟨Lc1, hQ1, l1, y1, z1⟩, st1⟩ := Jvm.LawKit.callS X0 hx (y := (⟨"java/lang/Math", "abs", "(J)J"⟩ : MethodName)) hown (mvT hZ (hw _ (List.mem_of_getElem? (i := 34) rfl))) (mvT hZ (hw _ (List.mem_of_getElem? (i := 35) rfl))) (mvT hZ (hw _ (List.mem_of_getElem? (i := 29) rfl))) (mvT hZ (hw _ (List.mem_of_getElem? (i := 36) rfl))) (by decide) (backOf (W := 0) (rm6 l Z a0 hw [] (86400 : Int64) h0 n0 Z0 (by decide +kernel)) hZ (hw _ (List.mem_of_getElem? (i := 36) rfl)) (hw _ (List.mem_of_getElem? (i := 29) rfl)) (by decide) (by decide)) (g := (mkF m 6 #[.val (.long (86400 : Int64)), .second, .val (.long (1000 : Int64)), .second, .val (.long ((86400 : Int64) * (1000 : Int64))), .second, .unset, .unset, .unset, .unset] [(.long (86400 : Int64))])) rfl (by rw [hml]; rfl) (argsL := [(.long (86400 : Int64))]) (rest := []) (lenOf pd_0 rfl) rfl (by show 2 * 0 + _ ≤ _; exact Nat.le_of_eq rfl) (hb hby d5_6) (fun _ _ => ⟨rfl, e0, (by decide : 0 + 0 ≤ _), (by decide : 0 + 0 ≤ _)⟩)
  dsimp only [Pt.U, Pt.locs, Pt.cells, Pt.slots] at X1 l1 y1 z1 st1 hQ1
  subst l1 y1 z1
  obtain ⟨rfl, N1q, eq1⟩ := hQ1
  have N1 := Fr.app N0 N1q
  obtain ⟨_, _, ⟨T2, L2, k2, n2⟩, -, X2, ⟨Lc2, hQ2, l2, y2, z2⟩, st2⟩ := Jvm.LawKit.callS X1 hx (y := (⟨"java/lang/Math", "abs", "(J)J"⟩ : MethodName)) hown (mvT hZ (hw _ (List.mem_of_getElem? (i := 34) rfl))) (mvT hZ (hw _ (List.mem_of_getElem? (i := 35) rfl))) (mvT hZ (hw _ (List.mem_of_getElem? (i := 29) rfl))) (mvT hZ (hw _ (List.mem_of_getElem? (i := 36) rfl))) (by decide) (backOf (W := 0) (rm6 l Z a0 hw [] (1000 : Int64) h0 n0 Z0 (by decide +kernel)) hZ (hw _ (List.mem_of_getElem? (i := 36) rfl)) (hw _ (List.mem_of_getElem? (i := 29) rfl)) (by decide) (by decide)) (g := (mkF m 12 #[.val (.long (86400 : Int64)), .second, .val (.long (1000 : Int64)), .second, .val (.long ((86400 : Int64) * (1000 : Int64))), .second, .val (.long (86400 : Int64)), .second, .unset, .unset] [(.long (1000 : Int64))])) rfl (by rw [hml]; rfl) (argsL := [(.long (1000 : Int64))]) (rest := []) (lenOf pd_0 rfl) rfl (by show 2 * 0 + _ ≤ _; exact Nat.le_of_eq rfl) (hb hby d5_12) (fun _ _ => ⟨rfl, eq1, (by decide : 0 + 0 ≤ _), (by decide : 0 + 0 ≤ _)⟩)
  dsimp only [Pt.U, Pt.locs, Pt.cells, Pt.slots] at X2 l2 y2 z2 st2 hQ2
  subst l2 y2 z2
  obtain ⟨rfl, N2q, eq2⟩ := hQ2
  have N2 := Fr.app N1 N2q
  obtain ⟨fs, hr, hrun, hended, hW, hsame⟩ := X2.leave (v := some (.long ((86400 : Int64) * (1000 : Int64)))) (fun h => by rw [Bd.returns] at h; cases h)
  refine ⟨_, _, pre0 _ ?_, hrun, hended, _, _, rfl, ?_, ⟨_, rfl⟩, hW, hsame.mono (by decide) (by decide)⟩
  · show Steps p.tables e below (s₁.setTop (mkF m 0 #[.val (.long (86400 : Int64)), .second, .val (.long (1000 : Int64)), .second, .unset, .unset, .unset, .unset, .unset, .unset] [])) _
    refine XS.lloadN X0.here hx rfl (hb hby d5_0) rfl ?_
    show Steps p.tables e below (s₁.setTop (mkF m 1 #[.val (.long (86400 : Int64)), .second, .val (.long (1000 : Int64)), .second, .unset, .unset, .unset, .unset, .unset, .unset] [(.long (86400 : Int64))])) _
    refine XS.lloadN X0.here hx rfl (hb hby d5_1) rfl ?_
    show Steps p.tables e below (s₁.setTop (mkF m 2 #[.val (.long (86400 : Int64)), .second, .val (.long (1000 : Int64)), .second, .unset, .unset, .unset, .unset, .unset, .unset] [(.long (1000 : Int64)), (.long (86400 : Int64))])) _
    refine XS.lmul X0.here hx rfl (hb hby d5_2) rfl ?_
    show Steps p.tables e below (s₁.setTop (mkF m 3 #[.val (.long (86400 : Int64)), .second, .val (.long (1000 : Int64)), .second, .unset, .unset, .unset, .unset, .unset, .unset] [(.long ((86400 : Int64) * (1000 : Int64)))])) _
    refine XS.lstore X0.here hx rfl (hb hby d5_3) rfl (l' := #[.val (.long (86400 : Int64)), .second, .val (.long (1000 : Int64)), .second, .val (.long ((86400 : Int64) * (1000 : Int64))), .second, .unset, .unset, .unset, .unset]) rfl ?_
    show Steps p.tables e below (s₁.setTop (mkF m 5 #[.val (.long (86400 : Int64)), .second, .val (.long (1000 : Int64)), .second, .val (.long ((86400 : Int64) * (1000 : Int64))), .second, .unset, .unset, .unset, .unset] [])) _
    refine XS.lloadN X0.here hx rfl (hb hby d5_5) rfl ?_
    show Steps p.tables e below (s₁.setTop (mkF m 6 #[.val (.long (86400 : Int64)), .second, .val (.long (1000 : Int64)), .second, .val (.long ((86400 : Int64) * (1000 : Int64))), .second, .unset, .unset, .unset, .unset] [(.long (86400 : Int64))])) _
    refine st1 _ ?_
    show Steps p.tables e below (T1.setTop (mkF m 9 #[.val (.long (86400 : Int64)), .second, .val (.long (1000 : Int64)), .second, .val (.long ((86400 : Int64) * (1000 : Int64))), .second, .unset, .unset, .unset, .unset] [(.long (86400 : Int64))])) _
    refine XS.lstore X1.here hx rfl (hb hby d5_9) rfl (l' := #[.val (.long (86400 : Int64)), .second, .val (.long (1000 : Int64)), .second, .val (.long ((86400 : Int64) * (1000 : Int64))), .second, .val (.long (86400 : Int64)), .second, .unset, .unset]) rfl ?_
    show Steps p.tables e below (T1.setTop (mkF m 11 #[.val (.long (86400 : Int64)), .second, .val (.long (1000 : Int64)), .second, .val (.long ((86400 : Int64) * (1000 : Int64))), .second, .val (.long (86400 : Int64)), .second, .unset, .unset] [])) _
    refine XS.lloadN X1.here hx rfl (hb hby d5_11) rfl ?_
    show Steps p.tables e below (T1.setTop (mkF m 12 #[.val (.long (86400 : Int64)), .second, .val (.long (1000 : Int64)), .second, .val (.long ((86400 : Int64) * (1000 : Int64))), .second, .val (.long (86400 : Int64)), .second, .unset, .unset] [(.long (1000 : Int64))])) _
    refine st2 _ ?_
    show Steps p.tables e below (T2.setTop (mkF m 15 #[.val (.long (86400 : Int64)), .second, .val (.long (1000 : Int64)), .second, .val (.long ((86400 : Int64) * (1000 : Int64))), .second, .val (.long (86400 : Int64)), .second, .unset, .unset] [(.long (1000 : Int64))])) _
    refine XS.lstore X2.here hx rfl (hb hby d5_15) rfl (l' := #[.val (.long (86400 : Int64)), .second, .val (.long (1000 : Int64)), .second, .val (.long ((86400 : Int64) * (1000 : Int64))), .second, .val (.long (86400 : Int64)), .second, .val (.long (1000 : Int64)), .second]) rfl ?_
    show Steps p.tables e below (T2.setTop (mkF m 17 #[.val (.long (86400 : Int64)), .second, .val (.long (1000 : Int64)), .second, .val (.long ((86400 : Int64) * (1000 : Int64))), .second, .val (.long (86400 : Int64)), .second, .val (.long (1000 : Int64)), .second] [])) _
    refine XS.lload X2.here hx rfl (hb hby d5_17) rfl ?_
    show Steps p.tables e below (T2.setTop (mkF m 19 #[.val (.long (86400 : Int64)), .second, .val (.long (1000 : Int64)), .second, .val (.long ((86400 : Int64) * (1000 : Int64))), .second, .val (.long (86400 : Int64)), .second, .val (.long (1000 : Int64)), .second] [(.long (86400 : Int64))])) _
    refine XS.lload X2.here hx rfl (hb hby d5_19) rfl ?_
    show Steps p.tables e below (T2.setTop (mkF m 21 #[.val (.long (86400 : Int64)), .second, .val (.long (1000 : Int64)), .second, .val (.long ((86400 : Int64) * (1000 : Int64))), .second, .val (.long (86400 : Int64)), .second, .val (.long (1000 : Int64)), .second] [(.long (1000 : Int64)), (.long (86400 : Int64))])) _
    refine XS.lor X2.here hx rfl (hb hby d5_21) rfl ?_
    show Steps p.tables e below (T2.setTop (mkF m 22 #[.val (.long (86400 : Int64)), .second, .val (.long (1000 : Int64)), .second, .val (.long ((86400 : Int64) * (1000 : Int64))), .second, .val (.long (86400 : Int64)), .second, .val (.long (1000 : Int64)), .second] [(.long ((86400 : Int64) ||| (1000 : Int64)))])) _
    refine XS.bipush X2.here hx rfl (hb hby d5_22) ?_
    show Steps p.tables e below (T2.setTop (mkF m 24 #[.val (.long (86400 : Int64)), .second, .val (.long (1000 : Int64)), .second, .val (.long ((86400 : Int64) * (1000 : Int64))), .second, .val (.long (86400 : Int64)), .second, .val (.long (1000 : Int64)), .second] [(.int (31 : Int32)), (.long ((86400 : Int64) ||| (1000 : Int64)))])) _
    refine XS.lushr X2.here hx rfl (hb hby d5_24) rfl ?_
    show Steps p.tables e below (T2.setTop (mkF m 25 #[.val (.long (86400 : Int64)), .second, .val (.long (1000 : Int64)), .second, .val (.long ((86400 : Int64) * (1000 : Int64))), .second, .val (.long (86400 : Int64)), .second, .val (.long (1000 : Int64)), .second] [(.long ((((86400 : Int64) ||| (1000 : Int64)).toUInt64 >>> ((31 : Int32) &&& 0x3f).toInt64.toUInt64).toInt64))])) _
    refine XS.lconst X2.here hx rfl (hb hby d5_25) ?_
    show Steps p.tables e below (T2.setTop (mkF m 26 #[.val (.long (86400 : Int64)), .second, .val (.long (1000 : Int64)), .second, .val (.long ((86400 : Int64) * (1000 : Int64))), .second, .val (.long (86400 : Int64)), .second, .val (.long (1000 : Int64)), .second] [(.long (0 : Int64)), (.long ((((86400 : Int64) ||| (1000 : Int64)).toUInt64 >>> ((31 : Int32) &&& 0x3f).toInt64.toUInt64).toInt64))])) _
    refine XS.lcmp X2.here hx rfl (hb hby d5_26) rfl ?_
    show Steps p.tables e below (T2.setTop (mkF m 27 #[.val (.long (86400 : Int64)), .second, .val (.long (1000 : Int64)), .second, .val (.long ((86400 : Int64) * (1000 : Int64))), .second, .val (.long (86400 : Int64)), .second, .val (.long (1000 : Int64)), .second] [(.int (lcmpW ((((86400 : Int64) ||| (1000 : Int64)).toUInt64 >>> ((31 : Int32) &&& 0x3f).toInt64.toUInt64).toInt64) (0 : Int64)))])) _
    refine XS.ifYes X2.here hx rfl (pc0 := 27) (pc' := 71) rfl (hb hby d5_27) rfl ((if0 _ _).trans (teq (by decide +kernel)).1) (by decide) (by decide) ?_
    show Steps p.tables e below (T2.setTop (mkF m 71 #[.val (.long (86400 : Int64)), .second, .val (.long (1000 : Int64)), .second, .val (.long ((86400 : Int64) * (1000 : Int64))), .second, .val (.long (86400 : Int64)), .second, .val (.long (1000 : Int64)), .second] [])) _
    refine XS.lload X2.here hx rfl (hb hby d5_71) rfl ?_
    show Steps p.tables e below (T2.setTop (mkF m 73 #[.val (.long (86400 : Int64)), .second, .val (.long (1000 : Int64)), .second, .val (.long ((86400 : Int64) * (1000 : Int64))), .second, .val (.long (86400 : Int64)), .second, .val (.long (1000 : Int64)), .second] [(.long ((86400 : Int64) * (1000 : Int64)))])) _
    exact X2.lreturnOut hx Bd.returns (hb hby d5_73) hr
  · show Q5_3 Z  h0 n0 _ T2.heap _
    rw [eq2]
    exact ⟨congrArg (fun z => some (Value.long z)) (by decide +kernel), N2, rfl⟩
def Q4_3 (Z : State)  (h0 : Heap) (n0 : Nat) (v : Option Value) (h : Heap) (L : List Loc) : Prop := v = some (.long (86400000 : Int64)) ∧ Fr n0 L ∧ h = h0
set_option maxRecDepth 65536 in
set_option maxHeartbeats 40000000 in
theorem rm4_3 (l : Launch) (Z : State) (a0 : Array Value) (hw : ∀ d ∈ tables_1, d.before a0 Z = true) (ws : List Jvm.Cond)  (h0 : Heap) (n0 : Nat) (Z0 : n0 ≤ h0.size) :
    MetFree l (⟨"java/lang/Math", "multiplyExact", "(JI)J"⟩ : MethodName) (head1 (Jvm.Cond.code (⟨"java/lang/Math", "multiplyExact", "(JI)J"⟩ : MethodName) jdk_29_method_29_code 3 (some .long) :: ws) ({ frames := 2, cells := 0, slots := 0, locals := 34 } : Room)) (fun a U => a = #[(.long (86400 : Int64)), (.int (1000 : Int32))] ∧ Z.Warmed39 U.vm ∧ U.heap = h0) (fun _ _ _ _ _ => True) (fun _ U o U' => ∃ v L, o = .returned v ∧ Q4_3 Z  h0 n0 v U'.heap L ∧ FrameEnd U o U' L ({ frames := 2, cells := 0, slots := 0, locals := 34 } : Room).cells ({ frames := 2, cells := 0, slots := 0, locals := 34 } : Room).slots) := by
  refine MetFree.of_bodySF (Jvm.Free.JP.mathPlain rfl (by decide +kernel)) hisR ?_
  intro p e s m args below meth c s₁ Bd hml0 hP hK
  obtain ⟨rfl, hZ, hh⟩ := hP
  have hx := Bd.exec
  have hby := Bd.bytes
  have hml : c.maxLocals = 3 := hml0
  have hown : s.vm.findClass "java/lang/Math" = some m.cls := findClass_of_methodNamed Bd.named
  have hnm := (name_of_methodNamed Bd.named Bd.method).1
  have X0 : Stand p l e ({ frames := 2, cells := 0, slots := 0, locals := 34 } : Room) s m #[(.long (86400 : Int64)), (.int (1000 : Int32))] below meth c s₁ [] 0 0 := Stand.of_body Bd
  have e0 : s₁.heap = h0 := by rw [← hh, Bd.state]; rfl
  have N0 := Fr.nil n0
  have pre0 : ∀ t, Steps p.tables e below (s₁.setTop (mkF m 0 #[.val (.long (86400 : Int64)), .second, .val (.int (1000 : Int32))] [])) t → Steps p.tables e below (s₁.setTop (entryFrame m #[(.long (86400 : Int64)), (.int (1000 : Int32))] 3)) t := fun t k => castTop (ef_4 m (86400 : Int64) (1000 : Int32)) k
  obtain ⟨_, _, ⟨T1, L1, k1, n1⟩, -, X1, ⟨Lc1, hQ1, l1, y1, z1⟩, st1⟩ := Jvm.LawKit.callS X0 hx (y := (⟨"java/lang/Math", "multiplyExact", "(JJ)J"⟩ : MethodName)) hown (mvT hZ (hw _ (List.mem_of_getElem? (i := 31) rfl))) (mvT hZ (hw _ (List.mem_of_getElem? (i := 32) rfl))) (mvT hZ (hw _ (List.mem_of_getElem? (i := 29) rfl))) (mvT hZ (hw _ (List.mem_of_getElem? (i := 33) rfl))) (by decide) (backOf (W := 0) (rm5_3 l Z a0 hw [] h0 n0 Z0) hZ (hw _ (List.mem_of_getElem? (i := 33) rfl)) (hw _ (List.mem_of_getElem? (i := 29) rfl)) (by decide) (by decide)) (g := (mkF m 3 #[.val (.long (86400 : Int64)), .second, .val (.int (1000 : Int32))] [(.long (1000 : Int64)), (.long (86400 : Int64))])) rfl (by rw [hml]; rfl) (argsL := [(.long (86400 : Int64)), (.long (1000 : Int64))]) (rest := []) (lenOf pd_1 rfl) rfl (by show 2 * 0 + _ ≤ _; exact Nat.le_of_eq rfl) (hb hby d4_3) (fun _ _ => ⟨rfl, e0, (by decide : 0 + 0 ≤ _), (by decide : 0 + 0 ≤ _)⟩)
  dsimp only [Pt.U, Pt.locs, Pt.cells, Pt.slots] at X1 l1 y1 z1 st1 hQ1
  subst l1 y1 z1
  obtain ⟨rfl, N1q, eq1⟩ := hQ1
  have N1 := Fr.app N0 N1q
  obtain ⟨fs, hr, hrun, hended, hW, hsame⟩ := X1.leave (v := some (.long (86400000 : Int64))) (fun h => by rw [Bd.returns] at h; cases h)
  refine ⟨_, _, pre0 _ ?_, hrun, hended, _, _, rfl, ?_, ⟨_, rfl⟩, hW, hsame.mono (by decide) (by decide)⟩
  · show Steps p.tables e below (s₁.setTop (mkF m 0 #[.val (.long (86400 : Int64)), .second, .val (.int (1000 : Int32))] [])) _
    refine XS.lloadN X0.here hx rfl (hb hby d4_0) rfl ?_
    show Steps p.tables e below (s₁.setTop (mkF m 1 #[.val (.long (86400 : Int64)), .second, .val (.int (1000 : Int32))] [(.long (86400 : Int64))])) _
    refine XS.iloadN X0.here hx rfl (hb hby d4_1) rfl ?_
    show Steps p.tables e below (s₁.setTop (mkF m 2 #[.val (.long (86400 : Int64)), .second, .val (.int (1000 : Int32))] [(.int (1000 : Int32)), (.long (86400 : Int64))])) _
    refine XS.i2l X0.here hx rfl (hb hby d4_2) rfl ?_
    show Steps p.tables e below (s₁.setTop (mkF m 3 #[.val (.long (86400 : Int64)), .second, .val (.int (1000 : Int32))] [(.long ((1000 : Int32).toInt64)), (.long (86400 : Int64))])) _
    rw [show ((1000 : Int32).toInt64) = (1000 : Int64) from by decide +kernel]
    show Steps p.tables e below (s₁.setTop (mkF m 3 #[.val (.long (86400 : Int64)), .second, .val (.int (1000 : Int32))] [(.long (1000 : Int64)), (.long (86400 : Int64))])) _
    refine st1 _ ?_
    show Steps p.tables e below (T1.setTop (mkF m 6 #[.val (.long (86400 : Int64)), .second, .val (.int (1000 : Int32))] [(.long (86400000 : Int64))])) _
    exact X1.lreturnOut hx Bd.returns (hb hby d4_6) hr
  · show Q4_3 Z  h0 n0 _ T1.heap _
    rw [eq1]
    exact ⟨rfl, N1, rfl⟩
def Q7_3 (Z : State)  (h0 : Heap) (n0 : Nat) (v : Option Value) (h : Heap) (L : List Loc) : Prop := v = some (.long (86400000 : Int64)) ∧ Fr n0 L ∧ h = h0
set_option maxRecDepth 65536 in
set_option maxHeartbeats 40000000 in
theorem rm7_3 (l : Launch) (Z : State) (a0 : Array Value) (hw : ∀ d ∈ tables_1, d.before a0 Z = true) (ws : List Jvm.Cond)  (h0 : Heap) (n0 : Nat) (Z0 : n0 ≤ h0.size) :
    MetFree l (⟨"java/lang/Math", "addExact", "(JJ)J"⟩ : MethodName) (head1 (Jvm.Cond.code (⟨"java/lang/Math", "addExact", "(JJ)J"⟩ : MethodName) jdk_29_method_25_code 6 (some .long) :: ws) ({ frames := 0, cells := 0, slots := 0, locals := 0 } : Room)) (fun a U => a = #[(.long (86400000 : Int64)), (.long (0 : Int64))] ∧ Z.Warmed39 U.vm ∧ U.heap = h0) (fun _ _ _ _ _ => True) (fun _ U o U' => ∃ v L, o = .returned v ∧ Q7_3 Z  h0 n0 v U'.heap L ∧ FrameEnd U o U' L ({ frames := 0, cells := 0, slots := 0, locals := 0 } : Room).cells ({ frames := 0, cells := 0, slots := 0, locals := 0 } : Room).slots) := by
  refine MetFree.of_bodySF (Jvm.Free.JP.mathPlain rfl (by decide +kernel)) hisR ?_
  intro p e s m args below meth c s₁ Bd hml0 hP hK
  obtain ⟨rfl, hZ, hh⟩ := hP
  have hx := Bd.exec
  have hby := Bd.bytes
  have hml : c.maxLocals = 6 := hml0
  have hown : s.vm.findClass "java/lang/Math" = some m.cls := findClass_of_methodNamed Bd.named
  have hnm := (name_of_methodNamed Bd.named Bd.method).1
  have X0 : Stand p l e ({ frames := 0, cells := 0, slots := 0, locals := 0 } : Room) s m #[(.long (86400000 : Int64)), (.long (0 : Int64))] below meth c s₁ [] 0 0 := Stand.of_body Bd
  have e0 : s₁.heap = h0 := by rw [← hh, Bd.state]; rfl
  have N0 := Fr.nil n0
  have pre0 : ∀ t, Steps p.tables e below (s₁.setTop (mkF m 0 #[.val (.long (86400000 : Int64)), .second, .val (.long (0 : Int64)), .second, .unset, .unset] [])) t → Steps p.tables e below (s₁.setTop (entryFrame m #[(.long (86400000 : Int64)), (.long (0 : Int64))] 6)) t := fun t k => castTop (ef_7 m (86400000 : Int64) (0 : Int64)) k
  obtain ⟨fs, hr, hrun, hended, hW, hsame⟩ := X0.leave (v := some (.long ((86400000 : Int64) + (0 : Int64)))) (fun h => by rw [Bd.returns] at h; cases h)
  refine ⟨_, _, pre0 _ ?_, hrun, hended, _, _, rfl, ?_, ⟨_, rfl⟩, hW, hsame.mono (by decide) (by decide)⟩
  · show Steps p.tables e below (s₁.setTop (mkF m 0 #[.val (.long (86400000 : Int64)), .second, .val (.long (0 : Int64)), .second, .unset, .unset] [])) _
    refine XS.lloadN X0.here hx rfl (hb hby d7_0) rfl ?_
    show Steps p.tables e below (s₁.setTop (mkF m 1 #[.val (.long (86400000 : Int64)), .second, .val (.long (0 : Int64)), .second, .unset, .unset] [(.long (86400000 : Int64))])) _
    refine XS.lloadN X0.here hx rfl (hb hby d7_1) rfl ?_
    show Steps p.tables e below (s₁.setTop (mkF m 2 #[.val (.long (86400000 : Int64)), .second, .val (.long (0 : Int64)), .second, .unset, .unset] [(.long (0 : Int64)), (.long (86400000 : Int64))])) _
    refine XS.ladd X0.here hx rfl (hb hby d7_2) rfl ?_
    show Steps p.tables e below (s₁.setTop (mkF m 3 #[.val (.long (86400000 : Int64)), .second, .val (.long (0 : Int64)), .second, .unset, .unset] [(.long ((86400000 : Int64) + (0 : Int64)))])) _
    refine XS.lstore X0.here hx rfl (hb hby d7_3) rfl (l' := #[.val (.long (86400000 : Int64)), .second, .val (.long (0 : Int64)), .second, .val (.long ((86400000 : Int64) + (0 : Int64))), .second]) rfl ?_
    show Steps p.tables e below (s₁.setTop (mkF m 5 #[.val (.long (86400000 : Int64)), .second, .val (.long (0 : Int64)), .second, .val (.long ((86400000 : Int64) + (0 : Int64))), .second] [])) _
    refine XS.lloadN X0.here hx rfl (hb hby d7_5) rfl ?_
    show Steps p.tables e below (s₁.setTop (mkF m 6 #[.val (.long (86400000 : Int64)), .second, .val (.long (0 : Int64)), .second, .val (.long ((86400000 : Int64) + (0 : Int64))), .second] [(.long (86400000 : Int64))])) _
    refine XS.lload X0.here hx rfl (hb hby d7_6) rfl ?_
    show Steps p.tables e below (s₁.setTop (mkF m 8 #[.val (.long (86400000 : Int64)), .second, .val (.long (0 : Int64)), .second, .val (.long ((86400000 : Int64) + (0 : Int64))), .second] [(.long ((86400000 : Int64) + (0 : Int64))), (.long (86400000 : Int64))])) _
    refine XS.lxor X0.here hx rfl (hb hby d7_8) rfl ?_
    show Steps p.tables e below (s₁.setTop (mkF m 9 #[.val (.long (86400000 : Int64)), .second, .val (.long (0 : Int64)), .second, .val (.long ((86400000 : Int64) + (0 : Int64))), .second] [(.long ((86400000 : Int64) ^^^ ((86400000 : Int64) + (0 : Int64))))])) _
    refine XS.lloadN X0.here hx rfl (hb hby d7_9) rfl ?_
    show Steps p.tables e below (s₁.setTop (mkF m 10 #[.val (.long (86400000 : Int64)), .second, .val (.long (0 : Int64)), .second, .val (.long ((86400000 : Int64) + (0 : Int64))), .second] [(.long (0 : Int64)), (.long ((86400000 : Int64) ^^^ ((86400000 : Int64) + (0 : Int64))))])) _
    refine XS.lload X0.here hx rfl (hb hby d7_10) rfl ?_
    show Steps p.tables e below (s₁.setTop (mkF m 12 #[.val (.long (86400000 : Int64)), .second, .val (.long (0 : Int64)), .second, .val (.long ((86400000 : Int64) + (0 : Int64))), .second] [(.long ((86400000 : Int64) + (0 : Int64))), (.long (0 : Int64)), (.long ((86400000 : Int64) ^^^ ((86400000 : Int64) + (0 : Int64))))])) _
    refine XS.lxor X0.here hx rfl (hb hby d7_12) rfl ?_
    show Steps p.tables e below (s₁.setTop (mkF m 13 #[.val (.long (86400000 : Int64)), .second, .val (.long (0 : Int64)), .second, .val (.long ((86400000 : Int64) + (0 : Int64))), .second] [(.long ((0 : Int64) ^^^ ((86400000 : Int64) + (0 : Int64)))), (.long ((86400000 : Int64) ^^^ ((86400000 : Int64) + (0 : Int64))))])) _
    refine XS.land X0.here hx rfl (hb hby d7_13) rfl ?_
    show Steps p.tables e below (s₁.setTop (mkF m 14 #[.val (.long (86400000 : Int64)), .second, .val (.long (0 : Int64)), .second, .val (.long ((86400000 : Int64) + (0 : Int64))), .second] [(.long (((86400000 : Int64) ^^^ ((86400000 : Int64) + (0 : Int64))) &&& ((0 : Int64) ^^^ ((86400000 : Int64) + (0 : Int64)))))])) _
    refine XS.lconst X0.here hx rfl (hb hby d7_14) ?_
    show Steps p.tables e below (s₁.setTop (mkF m 15 #[.val (.long (86400000 : Int64)), .second, .val (.long (0 : Int64)), .second, .val (.long ((86400000 : Int64) + (0 : Int64))), .second] [(.long (0 : Int64)), (.long (((86400000 : Int64) ^^^ ((86400000 : Int64) + (0 : Int64))) &&& ((0 : Int64) ^^^ ((86400000 : Int64) + (0 : Int64)))))])) _
    refine XS.lcmp X0.here hx rfl (hb hby d7_15) rfl ?_
    show Steps p.tables e below (s₁.setTop (mkF m 16 #[.val (.long (86400000 : Int64)), .second, .val (.long (0 : Int64)), .second, .val (.long ((86400000 : Int64) + (0 : Int64))), .second] [(.int (lcmpW (((86400000 : Int64) ^^^ ((86400000 : Int64) + (0 : Int64))) &&& ((0 : Int64) ^^^ ((86400000 : Int64) + (0 : Int64)))) (0 : Int64)))])) _
    refine XS.ifYes X0.here hx rfl (pc0 := 16) (pc' := 29) rfl (hb hby d7_16) rfl ((if0 _ _).trans (flt (by decide +kernel)).2.1) (by decide) (by decide) ?_
    show Steps p.tables e below (s₁.setTop (mkF m 29 #[.val (.long (86400000 : Int64)), .second, .val (.long (0 : Int64)), .second, .val (.long ((86400000 : Int64) + (0 : Int64))), .second] [])) _
    refine XS.lload X0.here hx rfl (hb hby d7_29) rfl ?_
    show Steps p.tables e below (s₁.setTop (mkF m 31 #[.val (.long (86400000 : Int64)), .second, .val (.long (0 : Int64)), .second, .val (.long ((86400000 : Int64) + (0 : Int64))), .second] [(.long ((86400000 : Int64) + (0 : Int64)))])) _
    exact X0.lreturnOut hx Bd.returns (hb hby d7_31) hr
  · show Q7_3 Z  h0 n0 _ s₁.heap _
    rw [e0]
    exact ⟨congrArg (fun z => some (Value.long z)) (by decide +kernel), N0, rfl⟩
def Q3_3 (Z : State) (d1 : Addr) (h0 : Heap) (n0 : Nat) (v : Option Value) (h : Heap) (L : List Loc) : Prop := v = some (.long (86400000 : Int64)) ∧ Fr n0 L ∧ h = h0
set_option maxRecDepth 65536 in
set_option maxHeartbeats 40000000 in
theorem rm3_3 (l : Launch) (Z : State) (a0 : Array Value) (hw : ∀ d ∈ tables_1, d.before a0 Z = true) (ws : List Jvm.Cond) (d1 : Addr) (h0 : Heap) (n0 : Nat) (Z0 : n0 ≤ h0.size) (FS : Fld Z h0 d1 "java/time/Duration" "seconds" "J" (.long (86400 : Int64))) (FN : Fld Z h0 d1 "java/time/Duration" "nanos" "I" (.int (0 : Int32))) :
    MetFree l (⟨"java/time/Duration", "toMillis", "()J"⟩ : MethodName) (head1 (Jvm.Cond.code (⟨"java/time/Duration", "toMillis", "()J"⟩ : MethodName) jdk_2316_method_57_code 7 (some .long) :: ws) ({ frames := 3, cells := 0, slots := 0, locals := 48 } : Room)) (fun a U => a = #[(.ref d1)] ∧ Z.Warmed39 U.vm ∧ U.heap = h0) (fun _ _ _ _ _ => True) (fun _ U o U' => ∃ v L, o = .returned v ∧ Q3_3 Z d1 h0 n0 v U'.heap L ∧ FrameEnd U o U' L ({ frames := 3, cells := 0, slots := 0, locals := 48 } : Room).cells ({ frames := 3, cells := 0, slots := 0, locals := 48 } : Room).slots) := by
  refine MetFree.of_bodySF (plainFor_of_name pn_Duration) hisR ?_
  intro p e s m args below meth c s₁ Bd hml0 hP hK
  obtain ⟨rfl, hZ, hh⟩ := hP
  have hx := Bd.exec
  have hby := Bd.bytes
  have hml : c.maxLocals = 7 := hml0
  have hown : s.vm.findClass "java/time/Duration" = some m.cls := findClass_of_methodNamed Bd.named
  have hnm := (name_of_methodNamed Bd.named Bd.method).1
  have X0 : Stand p l e ({ frames := 3, cells := 0, slots := 0, locals := 48 } : Room) s m #[(.ref d1)] below meth c s₁ [] 0 0 := Stand.of_body Bd
  have e0 : s₁.heap = h0 := by rw [← hh, Bd.state]; rfl
  have N0 := Fr.nil n0
  have pre0 : ∀ t, Steps p.tables e below (s₁.setTop (mkF m 0 #[.val (.ref d1), .unset, .unset, .unset, .unset, .unset, .unset] [])) t → Steps p.tables e below (s₁.setTop (entryFrame m #[(.ref d1)] 7)) t := fun t k => castTop (ef_3 m d1) k
  obtain ⟨T1, X1, e1, st1⟩ := getF X0 hx hZ hown (host := "") (Or.inl (hw _ (List.mem_of_getElem? (i := 23) rfl))) Via.refl e0 FS (g := (mkF m 1 #[.val (.ref d1), .unset, .unset, .unset, .unset, .unset, .unset] [(.ref d1)])) rfl rfl (hb hby d3_1)
  obtain ⟨T2, X2, e2, st2⟩ := getF X1 hx hZ hown (host := "") (Or.inl (hw _ (List.mem_of_getElem? (i := 25) rfl))) Via.refl e1 FN (g := (mkF m 6 #[.val (.ref d1), .val (.long (86400 : Int64)), .second, .unset, .unset, .unset, .unset] [(.ref d1)])) rfl rfl (hb hby d3_6)
  obtain ⟨_, _, ⟨T3, L3, k3, n3⟩, -, X3, ⟨Lc3, hQ3, l3, y3, z3⟩, st3⟩ := Jvm.LawKit.callS X2 hx (y := (⟨"java/lang/Math", "multiplyExact", "(JI)J"⟩ : MethodName)) hown (mvT hZ (hw _ (List.mem_of_getElem? (i := 27) rfl))) (mvT hZ (hw _ (List.mem_of_getElem? (i := 28) rfl))) (mvT hZ (hw _ (List.mem_of_getElem? (i := 29) rfl))) (mvT hZ (hw _ (List.mem_of_getElem? (i := 30) rfl))) (by decide) (backOf (W := 0) (rm4_3 l Z a0 hw [] h0 n0 Z0) hZ (hw _ (List.mem_of_getElem? (i := 30) rfl)) (hw _ (List.mem_of_getElem? (i := 29) rfl)) (by decide) (by decide)) (g := (mkF m 31 #[.val (.ref d1), .val (.long (86400 : Int64)), .second, .val (.long (0 : Int64)), .second, .unset, .unset] [(.int (1000 : Int32)), (.long (86400 : Int64))])) rfl (by rw [hml]; rfl) (argsL := [(.long (86400 : Int64)), (.int (1000 : Int32))]) (rest := []) (lenOf pd_2 rfl) rfl (by show 2 * 0 + _ ≤ _; exact Nat.le_of_eq rfl) (hb hby d3_31) (fun _ _ => ⟨rfl, e2, (by decide : 0 + 0 ≤ _), (by decide : 0 + 0 ≤ _)⟩)
  dsimp only [Pt.U, Pt.locs, Pt.cells, Pt.slots] at X3 l3 y3 z3 st3 hQ3
  subst l3 y3 z3
  obtain ⟨rfl, N3q, eq3⟩ := hQ3
  have N3 := Fr.app N0 N3q
  obtain ⟨_, _, ⟨T4, L4, k4, n4⟩, -, X4, ⟨Lc4, hQ4, l4, y4, z4⟩, st4⟩ := Jvm.LawKit.callS X3 hx (y := (⟨"java/lang/Math", "addExact", "(JJ)J"⟩ : MethodName)) hown (mvT hZ (hw _ (List.mem_of_getElem? (i := 38) rfl))) (mvT hZ (hw _ (List.mem_of_getElem? (i := 39) rfl))) (mvT hZ (hw _ (List.mem_of_getElem? (i := 29) rfl))) (mvT hZ (hw _ (List.mem_of_getElem? (i := 40) rfl))) (by decide) (backOf (W := 0) (rm7_3 l Z a0 hw [] h0 n0 Z0) hZ (hw _ (List.mem_of_getElem? (i := 40) rfl)) (hw _ (List.mem_of_getElem? (i := 29) rfl)) (by decide) (by decide)) (g := (mkF m 43 #[.val (.ref d1), .val (.long (86400 : Int64)), .second, .val (.long (0 : Int64)), .second, .val (.long (86400000 : Int64)), .second] [(.long (0 : Int64)), (.long (86400000 : Int64))])) rfl (by rw [hml]; rfl) (argsL := [(.long (86400000 : Int64)), (.long (0 : Int64))]) (rest := []) (lenOf pd_1 rfl) rfl (by show 2 * 0 + _ ≤ _; exact Nat.le_of_eq rfl) (hb hby d3_43) (fun _ _ => ⟨rfl, eq3, (by decide : 0 + 0 ≤ _), (by decide : 0 + 0 ≤ _)⟩)
  dsimp only [Pt.U, Pt.locs, Pt.cells, Pt.slots] at X4 l4 y4 z4 st4 hQ4
  subst l4 y4 z4
  obtain ⟨rfl, N4q, eq4⟩ := hQ4
  have N4 := Fr.app N3 N4q
  obtain ⟨fs, hr, hrun, hended, hW, hsame⟩ := X4.leave (v := some (.long (86400000 : Int64))) (fun h => by rw [Bd.returns] at h; cases h)
  refine ⟨_, _, pre0 _ ?_, hrun, hended, _, _, rfl, ?_, ⟨_, rfl⟩, hW, hsame.mono (by decide) (by decide)⟩
  · show Steps p.tables e below (s₁.setTop (mkF m 0 #[.val (.ref d1), .unset, .unset, .unset, .unset, .unset, .unset] [])) _
    refine XS.aloadN X0.here hx rfl (hb hby d3_0) rfl rfl ?_
    show Steps p.tables e below (s₁.setTop (mkF m 1 #[.val (.ref d1), .unset, .unset, .unset, .unset, .unset, .unset] [(.ref d1)])) _
    refine st1 _ ?_
    show Steps p.tables e below (T1.setTop (mkF m 4 #[.val (.ref d1), .unset, .unset, .unset, .unset, .unset, .unset] [(.long (86400 : Int64))])) _
    refine XS.lstoreN X1.here hx rfl (hb hby d3_4) rfl (l' := #[.val (.ref d1), .val (.long (86400 : Int64)), .second, .unset, .unset, .unset, .unset]) rfl ?_
    show Steps p.tables e below (T1.setTop (mkF m 5 #[.val (.ref d1), .val (.long (86400 : Int64)), .second, .unset, .unset, .unset, .unset] [])) _
    refine XS.aloadN X1.here hx rfl (hb hby d3_5) rfl rfl ?_
    show Steps p.tables e below (T1.setTop (mkF m 6 #[.val (.ref d1), .val (.long (86400 : Int64)), .second, .unset, .unset, .unset, .unset] [(.ref d1)])) _
    refine st2 _ ?_
    show Steps p.tables e below (T2.setTop (mkF m 9 #[.val (.ref d1), .val (.long (86400 : Int64)), .second, .unset, .unset, .unset, .unset] [(.int (0 : Int32))])) _
    refine XS.i2l X2.here hx rfl (hb hby d3_9) rfl ?_
    show Steps p.tables e below (T2.setTop (mkF m 10 #[.val (.ref d1), .val (.long (86400 : Int64)), .second, .unset, .unset, .unset, .unset] [(.long ((0 : Int32).toInt64))])) _
    rw [show ((0 : Int32).toInt64) = (0 : Int64) from by decide +kernel]
    show Steps p.tables e below (T2.setTop (mkF m 10 #[.val (.ref d1), .val (.long (86400 : Int64)), .second, .unset, .unset, .unset, .unset] [(.long (0 : Int64))])) _
    refine XS.lstoreN X2.here hx rfl (hb hby d3_10) rfl (l' := #[.val (.ref d1), .val (.long (86400 : Int64)), .second, .val (.long (0 : Int64)), .second, .unset, .unset]) rfl ?_
    show Steps p.tables e below (T2.setTop (mkF m 11 #[.val (.ref d1), .val (.long (86400 : Int64)), .second, .val (.long (0 : Int64)), .second, .unset, .unset] [])) _
    refine XS.lloadN X2.here hx rfl (hb hby d3_11) rfl ?_
    show Steps p.tables e below (T2.setTop (mkF m 12 #[.val (.ref d1), .val (.long (86400 : Int64)), .second, .val (.long (0 : Int64)), .second, .unset, .unset] [(.long (86400 : Int64))])) _
    refine XS.lconst X2.here hx rfl (hb hby d3_12) ?_
    show Steps p.tables e below (T2.setTop (mkF m 13 #[.val (.ref d1), .val (.long (86400 : Int64)), .second, .val (.long (0 : Int64)), .second, .unset, .unset] [(.long (0 : Int64)), (.long (86400 : Int64))])) _
    refine XS.lcmp X2.here hx rfl (hb hby d3_13) rfl ?_
    show Steps p.tables e below (T2.setTop (mkF m 14 #[.val (.ref d1), .val (.long (86400 : Int64)), .second, .val (.long (0 : Int64)), .second, .unset, .unset] [(.int (lcmpW (86400 : Int64) (0 : Int64)))])) _
    refine XS.ifYes X2.here hx rfl (pc0 := 14) (pc' := 27) rfl (hb hby d3_14) rfl ((if0 _ _).trans (flt (by decide +kernel)).2.1) (by decide) (by decide) ?_
    show Steps p.tables e below (T2.setTop (mkF m 27 #[.val (.ref d1), .val (.long (86400 : Int64)), .second, .val (.long (0 : Int64)), .second, .unset, .unset] [])) _
    refine XS.lloadN X2.here hx rfl (hb hby d3_27) rfl ?_
    show Steps p.tables e below (T2.setTop (mkF m 28 #[.val (.ref d1), .val (.long (86400 : Int64)), .second, .val (.long (0 : Int64)), .second, .unset, .unset] [(.long (86400 : Int64))])) _
    refine XS.sipush X2.here hx rfl (hb hby d3_28) ?_
    show Steps p.tables e below (T2.setTop (mkF m 31 #[.val (.ref d1), .val (.long (86400 : Int64)), .second, .val (.long (0 : Int64)), .second, .unset, .unset] [(.int (1000 : Int32)), (.long (86400 : Int64))])) _
    refine st3 _ ?_
    show Steps p.tables e below (T3.setTop (mkF m 34 #[.val (.ref d1), .val (.long (86400 : Int64)), .second, .val (.long (0 : Int64)), .second, .unset, .unset] [(.long (86400000 : Int64))])) _
    refine XS.lstore X3.here hx rfl (hb hby d3_34) rfl (l' := #[.val (.ref d1), .val (.long (86400 : Int64)), .second, .val (.long (0 : Int64)), .second, .val (.long (86400000 : Int64)), .second]) rfl ?_
    show Steps p.tables e below (T3.setTop (mkF m 36 #[.val (.ref d1), .val (.long (86400 : Int64)), .second, .val (.long (0 : Int64)), .second, .val (.long (86400000 : Int64)), .second] [])) _
    refine XS.lload X3.here hx rfl (hb hby d3_36) rfl ?_
    show Steps p.tables e below (T3.setTop (mkF m 38 #[.val (.ref d1), .val (.long (86400 : Int64)), .second, .val (.long (0 : Int64)), .second, .val (.long (86400000 : Int64)), .second] [(.long (86400000 : Int64))])) _
    refine XS.lloadN X3.here hx rfl (hb hby d3_38) rfl ?_
    show Steps p.tables e below (T3.setTop (mkF m 39 #[.val (.ref d1), .val (.long (86400 : Int64)), .second, .val (.long (0 : Int64)), .second, .val (.long (86400000 : Int64)), .second] [(.long (0 : Int64)), (.long (86400000 : Int64))])) _
    refine X3.ldc2Long hx hown (mvT hZ (hw _ (List.mem_of_getElem? (i := 37) rfl))) (g := (mkF m 39 #[.val (.ref d1), .val (.long (86400 : Int64)), .second, .val (.long (0 : Int64)), .second, .val (.long (86400000 : Int64)), .second] [(.long (0 : Int64)), (.long (86400000 : Int64))])) rfl (hb hby d3_39) _ ?_
    show Steps p.tables e below (T3.setTop (mkF m 42 #[.val (.ref d1), .val (.long (86400 : Int64)), .second, .val (.long (0 : Int64)), .second, .val (.long (86400000 : Int64)), .second] [(.long (1000000 : Int64)), (.long (0 : Int64)), (.long (86400000 : Int64))])) _
    refine XS.ldiv X3.here hx rfl (hb hby d3_42) rfl (by decide +kernel) ?_
    show Steps p.tables e below (T3.setTop (mkF m 43 #[.val (.ref d1), .val (.long (86400 : Int64)), .second, .val (.long (0 : Int64)), .second, .val (.long (86400000 : Int64)), .second] [(.long ((0 : Int64) / (1000000 : Int64))), (.long (86400000 : Int64))])) _
    rw [show ((0 : Int64) / (1000000 : Int64)) = (0 : Int64) from by decide +kernel]
    show Steps p.tables e below (T3.setTop (mkF m 43 #[.val (.ref d1), .val (.long (86400 : Int64)), .second, .val (.long (0 : Int64)), .second, .val (.long (86400000 : Int64)), .second] [(.long (0 : Int64)), (.long (86400000 : Int64))])) _
    refine st4 _ ?_
    show Steps p.tables e below (T4.setTop (mkF m 46 #[.val (.ref d1), .val (.long (86400 : Int64)), .second, .val (.long (0 : Int64)), .second, .val (.long (86400000 : Int64)), .second] [(.long (86400000 : Int64))])) _
    refine XS.lstore X4.here hx rfl (hb hby d3_46) rfl (l' := #[.val (.ref d1), .val (.long (86400 : Int64)), .second, .val (.long (0 : Int64)), .second, .val (.long (86400000 : Int64)), .second]) rfl ?_
    show Steps p.tables e below (T4.setTop (mkF m 48 #[.val (.ref d1), .val (.long (86400 : Int64)), .second, .val (.long (0 : Int64)), .second, .val (.long (86400000 : Int64)), .second] [])) _
    refine XS.lload X4.here hx rfl (hb hby d3_48) rfl ?_
    show Steps p.tables e below (T4.setTop (mkF m 50 #[.val (.ref d1), .val (.long (86400 : Int64)), .second, .val (.long (0 : Int64)), .second, .val (.long (86400000 : Int64)), .second] [(.long (86400000 : Int64))])) _
    exact X4.lreturnOut hx Bd.returns (hb hby d3_50) hr
  · show Q3_3 Z d1 h0 n0 _ T4.heap _
    rw [eq4]
    exact ⟨rfl, N4, rfl⟩
def Q1_3 (Z : State) (a1 d1 : Addr) (h0 : Heap) (n0 : Nat) (v : Option Value) (h : Heap) (L : List Loc) : Prop := v = some (.long (106751991167 : Int64)) ∧ Fr n0 L ∧ h = h0
set_option maxRecDepth 65536 in
set_option maxHeartbeats 40000000 in
theorem rm1_3 (l : Launch) (Z : State) (a0 : Array Value) (hw : ∀ d ∈ tables_1, d.before a0 Z = true) (ws : List Jvm.Cond) (a1 d1 : Addr) (h0 : Heap) (n0 : Nat) (Z0 : n0 ≤ h0.size) (EU : Exa Z h0 a1 "com/example/throttle/throttle/model/Unit") (FL : Fld Z h0 a1 "com/example/throttle/throttle/model/Unit" "length" "Ljava/time/Duration;" (.ref d1)) (ED : Exa Z h0 d1 "java/time/Duration") (FS : Fld Z h0 d1 "java/time/Duration" "seconds" "J" (.long (86400 : Int64))) (FN : Fld Z h0 d1 "java/time/Duration" "nanos" "I" (.int (0 : Int32))) :
    MetFree l (⟨"com/example/throttle/throttle/model/Rule", "maxRpu", "(Lcom/example/throttle/throttle/model/Unit;)J"⟩ : MethodName) (head1 (Jvm.Cond.code (⟨"com/example/throttle/throttle/model/Rule", "maxRpu", "(Lcom/example/throttle/throttle/model/Unit;)J"⟩ : MethodName) prog_4_method_2_code 1 (some .long) :: ws) ({ frames := 4, cells := 0, slots := 0, locals := 68 } : Room)) (fun a U => a = #[(.ref a1)] ∧ Z.Warmed39 U.vm ∧ U.heap = h0) (fun _ _ _ _ _ => True) (fun _ U o U' => ∃ v L, o = .returned v ∧ Q1_3 Z a1 d1 h0 n0 v U'.heap L ∧ FrameEnd U o U' L ({ frames := 4, cells := 0, slots := 0, locals := 68 } : Room).cells ({ frames := 4, cells := 0, slots := 0, locals := 68 } : Room).slots) := by
  refine MetFree.of_bodySF (plainFor_of_name pn_Rule) hisR ?_
  intro p e s m args below meth c s₁ Bd hml0 hP hK
  obtain ⟨rfl, hZ, hh⟩ := hP
  have hx := Bd.exec
  have hby := Bd.bytes
  have hml : c.maxLocals = 1 := hml0
  have hown : s.vm.findClass "com/example/throttle/throttle/model/Rule" = some m.cls := findClass_of_methodNamed Bd.named
  have hnm := (name_of_methodNamed Bd.named Bd.method).1
  have X0 : Stand p l e ({ frames := 4, cells := 0, slots := 0, locals := 68 } : Room) s m #[(.ref a1)] below meth c s₁ [] 0 0 := Stand.of_body Bd
  have e0 : s₁.heap = h0 := by rw [← hh, Bd.state]; rfl
  have N0 := Fr.nil n0
  have pre0 : ∀ t, Steps p.tables e below (s₁.setTop (mkF m 0 #[.val (.ref a1)] [])) t → Steps p.tables e below (s₁.setTop (entryFrame m #[(.ref a1)] 1)) t := fun t k => castTop (ef_1 m a1) k
  obtain ⟨cq1, kq1, q1a, q1b, q1c⟩ := isOf hZ e0 EU
  obtain ⟨_, _, ⟨T1, L1, k1, n1⟩, -, X1, ⟨Lc1, hQ1, l1, y1, z1⟩, st1⟩ := X0.virtualBack hx (y := (⟨"com/example/throttle/throttle/model/Unit", "length", "()Ljava/time/Duration;"⟩ : MethodName)) (z := (⟨"com/example/throttle/throttle/model/Unit", "length", "()Ljava/time/Duration;"⟩ : MethodName)) hown (mvT hZ (hw _ (List.mem_of_getElem? (i := 10) rfl))) (mvT hZ (hw _ (List.mem_of_getElem? (i := 11) rfl))) (notFace_of_selects (args := #[]) (mvT hZ (hw _ (List.mem_of_getElem? (i := 13) rfl)))) (mvT hZ (hw _ (List.mem_of_getElem? (i := 13) rfl))) (mvT hZ (hw _ (List.mem_of_getElem? (i := 12) rfl))) (by decide) (backOf (W := 2) (rm2 l Z a0 hw [] a1 d1 h0 n0 Z0 FL) hZ (hw _ (List.mem_of_getElem? (i := 14) rfl)) (hw _ (List.mem_of_getElem? (i := 1) rfl)) (by decide) (by decide)) q1a q1c (g := (mkF m 4 #[.val (.ref a1)] [(.ref a1), (.long (9223372036854775807 : Int64))])) rfl (by rw [hml]; rfl) (Steps.refl _) (argsL := []) (rest := [(.long (9223372036854775807 : Int64))]) (lenOf pd_3 rfl) rfl (by show 2 * 0 + _ ≤ _; exact Nat.le_of_eq rfl) (hb hby d1_4) (fun _ _ => ⟨rfl, e0, (by decide : 0 + 0 ≤ _), (by decide : 0 + 0 ≤ _)⟩)
  dsimp only [Pt.U, Pt.locs, Pt.cells, Pt.slots] at X1 l1 y1 z1 st1 hQ1
  subst l1 y1 z1
  obtain ⟨rfl, N1q, eq1⟩ := hQ1
  have N1 := Fr.app N0 N1q
  obtain ⟨cq2, kq2, q2a, q2b, q2c⟩ := isOf hZ eq1 ED
  obtain ⟨_, _, ⟨T2, L2, k2, n2⟩, -, X2, ⟨Lc2, hQ2, l2, y2, z2⟩, st2⟩ := X1.virtualBack hx (y := (⟨"java/time/Duration", "toMillis", "()J"⟩ : MethodName)) (z := (⟨"java/time/Duration", "toMillis", "()J"⟩ : MethodName)) hown (mvT hZ (hw _ (List.mem_of_getElem? (i := 17) rfl))) (mvT hZ (hw _ (List.mem_of_getElem? (i := 18) rfl))) (notFace_of_selects (args := #[]) (mvT hZ (hw _ (List.mem_of_getElem? (i := 20) rfl)))) (mvT hZ (hw _ (List.mem_of_getElem? (i := 20) rfl))) (mvT hZ (hw _ (List.mem_of_getElem? (i := 19) rfl))) (by decide) (backOf (W := 2) (rm3_3 l Z a0 hw [] d1 h0 n0 Z0 FS FN) hZ (hw _ (List.mem_of_getElem? (i := 22) rfl)) (hw _ (List.mem_of_getElem? (i := 21) rfl)) (by decide) (by decide)) q2a q2c (g := (mkF m 7 #[.val (.ref a1)] [(.ref d1), (.long (9223372036854775807 : Int64))])) rfl (by rw [hml]; rfl) (Steps.refl _) (argsL := []) (rest := [(.long (9223372036854775807 : Int64))]) (lenOf pd_4 rfl) rfl (by show 2 * 0 + _ ≤ _; exact Nat.le_of_eq rfl) (hb hby d1_7) (fun _ _ => ⟨rfl, eq1, (by decide : 0 + 0 ≤ _), (by decide : 0 + 0 ≤ _)⟩)
  dsimp only [Pt.U, Pt.locs, Pt.cells, Pt.slots] at X2 l2 y2 z2 st2 hQ2
  subst l2 y2 z2
  obtain ⟨rfl, N2q, eq2⟩ := hQ2
  have N2 := Fr.app N1 N2q
  obtain ⟨fs, hr, hrun, hended, hW, hsame⟩ := X2.leave (v := some (.long ((9223372036854775807 : Int64) / (86400000 : Int64)))) (fun h => by rw [Bd.returns] at h; cases h)
  refine ⟨_, _, pre0 _ ?_, hrun, hended, _, _, rfl, ?_, ⟨_, rfl⟩, hW, hsame.mono (by decide) (by decide)⟩
  · show Steps p.tables e below (s₁.setTop (mkF m 0 #[.val (.ref a1)] [])) _
    refine X0.ldc2Long hx hown (mvT hZ (hw _ (List.mem_of_getElem? (i := 9) rfl))) (g := (mkF m 0 #[.val (.ref a1)] [])) rfl (hb hby d1_0) _ ?_
    show Steps p.tables e below (s₁.setTop (mkF m 3 #[.val (.ref a1)] [(.long (9223372036854775807 : Int64))])) _
    refine XS.aloadN X0.here hx rfl (hb hby d1_3) rfl rfl ?_
    show Steps p.tables e below (s₁.setTop (mkF m 4 #[.val (.ref a1)] [(.ref a1), (.long (9223372036854775807 : Int64))])) _
    refine st1.trans ?_
    show Steps p.tables e below (T1.setTop (mkF m 7 #[.val (.ref a1)] [(.ref d1), (.long (9223372036854775807 : Int64))])) _
    refine st2.trans ?_
    show Steps p.tables e below (T2.setTop (mkF m 10 #[.val (.ref a1)] [(.long (86400000 : Int64)), (.long (9223372036854775807 : Int64))])) _
    refine XS.ldiv X2.here hx rfl (hb hby d1_10) rfl (by decide +kernel) ?_
    show Steps p.tables e below (T2.setTop (mkF m 11 #[.val (.ref a1)] [(.long ((9223372036854775807 : Int64) / (86400000 : Int64)))])) _
    exact X2.lreturnOut hx Bd.returns (hb hby d1_11) hr
  · show Q1_3 Z a1 d1 h0 n0 _ T2.heap _
    rw [eq2]
    exact ⟨congrArg (fun z => some (Value.long z)) (by decide +kernel), N2, rfl⟩
set_option maxRecDepth 65536 in
set_option maxHeartbeats 40000000 in
theorem rm0_3 (l : Launch) (Z : State) (a0 : Array Value) (hw : ∀ d ∈ tables_1, d.before a0 Z = true) (ws : List Jvm.Cond) (p1 : Int32) (a1 d1 : Addr) (h0 : Heap) (n0 : Nat) (Z0 : n0 ≤ h0.size) (SU : Sta Z h0 "com/example/throttle/throttle/model/Unit" "DAY" "Lcom/example/throttle/throttle/model/Unit;" (.ref a1)) (EU : Exa Z h0 a1 "com/example/throttle/throttle/model/Unit") (FL : Fld Z h0 a1 "com/example/throttle/throttle/model/Unit" "length" "Ljava/time/Duration;" (.ref d1)) (ED : Exa Z h0 d1 "java/time/Duration") (FS : Fld Z h0 d1 "java/time/Duration" "seconds" "J" (.long (86400 : Int64))) (FN : Fld Z h0 d1 "java/time/Duration" "nanos" "I" (.int (0 : Int32))) (hk : (p1 &&& 3) = 3) :
    MetFree l x (head1 (Jvm.Cond.code x code maxLocals ret :: ws) room_1) (fun a U => a = #[(.int p1)] ∧ Z.Warmed39 U.vm ∧ U.heap = h0) (fun _ _ _ _ _ => True) (fun _ U o U' => ∃ v L, o = .returned v ∧ Q0 Z p1 a1 d1 h0 n0 v U'.heap L ∧ FrameEnd U o U' L room_1.cells room_1.slots) := by
  refine MetFree.of_bodySF (plainFor_of_name pn_RuleMaxRpuPinLaw) hisR ?_
  intro p e s m args below meth c s₁ Bd hml0 hP hK
  obtain ⟨rfl, hZ, hh⟩ := hP
  have hx := Bd.exec
  have hby := Bd.bytes
  have hml : c.maxLocals = 13 := hml0
  have hown : s.vm.findClass "com/example/throttle/throttle/model/RuleMaxRpuPinLaw" = some m.cls := findClass_of_methodNamed Bd.named
  have hnm := (name_of_methodNamed Bd.named Bd.method).1
  have X0 : Stand p l e room_1 s m #[(.int p1)] below meth c s₁ [] 0 0 := Stand.of_body Bd
  have e0 : s₁.heap = h0 := by rw [← hh, Bd.state]; rfl
  have N0 := Fr.nil n0
  have pre0 : ∀ t, Steps p.tables e below (s₁.setTop (mkF m 0 #[.val (.int p1), .unset, .unset, .unset, .unset, .unset, .unset, .unset, .unset, .unset, .unset, .unset, .unset] [])) t → Steps p.tables e below (s₁.setTop (entryFrame m #[(.int p1)] maxLocals)) t := fun t k => castTop (ef_0 m p1) k
  obtain ⟨T1, X1, e1, st1⟩ := getS2 X0 hx hZ hown (host := "") (Or.inl (hw _ (List.mem_of_getElem? (i := 42) rfl))) Via.refl e0 SU (g := (mkF m 66 #[.val (.int p1), .val (.int (3 : Int32)), .unset, .unset, .unset, .unset, .unset, .unset, .unset, .unset, .unset, .unset, .unset] [])) rfl (hb hby at_66)
  obtain ⟨_, _, ⟨T2, L2, k2, n2⟩, -, X2, ⟨Lc2, hQ2, l2, y2, z2⟩, st2⟩ := Jvm.LawKit.callS X1 hx (y := (⟨"com/example/throttle/throttle/model/Rule", "maxRpu", "(Lcom/example/throttle/throttle/model/Unit;)J"⟩ : MethodName)) hown (mvT hZ (hw _ (List.mem_of_getElem? (i := 5) rfl))) (mvT hZ (hw _ (List.mem_of_getElem? (i := 6) rfl))) (mvT hZ (hw _ (List.mem_of_getElem? (i := 7) rfl))) (mvT hZ (hw _ (List.mem_of_getElem? (i := 8) rfl))) (by decide) (backOf (W := 0) (rm1_3 l Z a0 hw [] a1 d1 h0 n0 Z0 EU FL ED FS FN) hZ (hw _ (List.mem_of_getElem? (i := 8) rfl)) (hw _ (List.mem_of_getElem? (i := 7) rfl)) (by decide) (by decide)) (g := (mkF m 80 #[.val (.int p1), .val (.int (3 : Int32)), .val (.ref a1), .val (.long (86400000 : Int64)), .second, .val (.long (106751991167 : Int64)), .second, .unset, .unset, .unset, .unset, .unset, .unset] [(.ref a1)])) rfl (by rw [hml]; rfl) (argsL := [(.ref a1)]) (rest := []) (lenOf pd_5 rfl) rfl (by show 2 * 0 + _ ≤ _; exact Nat.le_of_eq rfl) (hb hby at_80) (fun _ _ => ⟨rfl, e1, (by decide : 0 + 0 ≤ _), (by decide : 0 + 0 ≤ _)⟩)
  dsimp only [Pt.U, Pt.locs, Pt.cells, Pt.slots] at X2 l2 y2 z2 st2 hQ2
  subst l2 y2 z2
  obtain ⟨rfl, N2q, eq2⟩ := hQ2
  have N2 := Fr.app N0 N2q
  obtain ⟨fs, hr, hrun, hended, hW, hsame⟩ := X2.leave (v := some (.int (1 : Int32))) (fun h => by rw [Bd.returns] at h; cases h)
  refine ⟨_, _, pre0 _ ?_, hrun, hended, _, _, rfl, ?_, ⟨_, rfl⟩, hW, hsame.mono (by decide) (by decide)⟩
  · show Steps p.tables e below (s₁.setTop (mkF m 0 #[.val (.int p1), .unset, .unset, .unset, .unset, .unset, .unset, .unset, .unset, .unset, .unset, .unset, .unset] [])) _
    refine XS.iloadN X0.here hx rfl (hb hby at_0) rfl ?_
    show Steps p.tables e below (s₁.setTop (mkF m 1 #[.val (.int p1), .unset, .unset, .unset, .unset, .unset, .unset, .unset, .unset, .unset, .unset, .unset, .unset] [(.int p1)])) _
    refine XS.iconst X0.here hx rfl (hb hby at_1) ?_
    show Steps p.tables e below (s₁.setTop (mkF m 2 #[.val (.int p1), .unset, .unset, .unset, .unset, .unset, .unset, .unset, .unset, .unset, .unset, .unset, .unset] [(.int (3 : Int32)), (.int p1)])) _
    refine XS.iand X0.here hx rfl (hb hby at_2) rfl ?_
    show Steps p.tables e below (s₁.setTop (mkF m 3 #[.val (.int p1), .unset, .unset, .unset, .unset, .unset, .unset, .unset, .unset, .unset, .unset, .unset, .unset] [(.int (p1 &&& (3 : Int32)))])) _
    rw [hk]
    show Steps p.tables e below (s₁.setTop (mkF m 3 #[.val (.int p1), .unset, .unset, .unset, .unset, .unset, .unset, .unset, .unset, .unset, .unset, .unset, .unset] [(.int (3 : Int32))])) _
    refine XS.istoreN X0.here hx rfl (hb hby at_3) rfl (l' := #[.val (.int p1), .val (.int (3 : Int32)), .unset, .unset, .unset, .unset, .unset, .unset, .unset, .unset, .unset, .unset, .unset]) rfl ?_
    show Steps p.tables e below (s₁.setTop (mkF m 4 #[.val (.int p1), .val (.int (3 : Int32)), .unset, .unset, .unset, .unset, .unset, .unset, .unset, .unset, .unset, .unset, .unset] [])) _
    refine XS.iloadN X0.here hx rfl (hb hby at_4) rfl ?_
    show Steps p.tables e below (s₁.setTop (mkF m 5 #[.val (.int p1), .val (.int (3 : Int32)), .unset, .unset, .unset, .unset, .unset, .unset, .unset, .unset, .unset, .unset, .unset] [(.int (3 : Int32))])) _
    refine XS.ifYes X0.here hx rfl (pc0 := 5) (pc' := 24) rfl (hb hby at_5) rfl ((if0 _ _).trans (feq (by decide +kernel)).2) (by decide) (by decide) ?_
    show Steps p.tables e below (s₁.setTop (mkF m 24 #[.val (.int p1), .val (.int (3 : Int32)), .unset, .unset, .unset, .unset, .unset, .unset, .unset, .unset, .unset, .unset, .unset] [])) _
    refine XS.iloadN X0.here hx rfl (hb hby at_24) rfl ?_
    show Steps p.tables e below (s₁.setTop (mkF m 25 #[.val (.int p1), .val (.int (3 : Int32)), .unset, .unset, .unset, .unset, .unset, .unset, .unset, .unset, .unset, .unset, .unset] [(.int (3 : Int32))])) _
    refine XS.iconst X0.here hx rfl (hb hby at_25) ?_
    show Steps p.tables e below (s₁.setTop (mkF m 26 #[.val (.int p1), .val (.int (3 : Int32)), .unset, .unset, .unset, .unset, .unset, .unset, .unset, .unset, .unset, .unset, .unset] [(.int (1 : Int32)), (.int (3 : Int32))])) _
    refine XS.icmpYes X0.here hx rfl (pc0 := 26) (pc' := 45) rfl (hb hby at_26) rfl (feq (by decide +kernel)).2 (by decide) (by decide) ?_
    show Steps p.tables e below (s₁.setTop (mkF m 45 #[.val (.int p1), .val (.int (3 : Int32)), .unset, .unset, .unset, .unset, .unset, .unset, .unset, .unset, .unset, .unset, .unset] [])) _
    refine XS.iloadN X0.here hx rfl (hb hby at_45) rfl ?_
    show Steps p.tables e below (s₁.setTop (mkF m 46 #[.val (.int p1), .val (.int (3 : Int32)), .unset, .unset, .unset, .unset, .unset, .unset, .unset, .unset, .unset, .unset, .unset] [(.int (3 : Int32))])) _
    refine XS.iconst X0.here hx rfl (hb hby at_46) ?_
    show Steps p.tables e below (s₁.setTop (mkF m 47 #[.val (.int p1), .val (.int (3 : Int32)), .unset, .unset, .unset, .unset, .unset, .unset, .unset, .unset, .unset, .unset, .unset] [(.int (2 : Int32)), (.int (3 : Int32))])) _
    refine XS.icmpYes X0.here hx rfl (pc0 := 47) (pc' := 66) rfl (hb hby at_47) rfl (feq (by decide +kernel)).2 (by decide) (by decide) ?_
    show Steps p.tables e below (s₁.setTop (mkF m 66 #[.val (.int p1), .val (.int (3 : Int32)), .unset, .unset, .unset, .unset, .unset, .unset, .unset, .unset, .unset, .unset, .unset] [])) _
    refine st1 _ ?_
    show Steps p.tables e below (T1.setTop (mkF m 69 #[.val (.int p1), .val (.int (3 : Int32)), .unset, .unset, .unset, .unset, .unset, .unset, .unset, .unset, .unset, .unset, .unset] [(.ref a1)])) _
    refine XS.astoreN X1.here hx rfl (hb hby at_69) rfl rfl (l' := #[.val (.int p1), .val (.int (3 : Int32)), .val (.ref a1), .unset, .unset, .unset, .unset, .unset, .unset, .unset, .unset, .unset, .unset]) rfl ?_
    show Steps p.tables e below (T1.setTop (mkF m 70 #[.val (.int p1), .val (.int (3 : Int32)), .val (.ref a1), .unset, .unset, .unset, .unset, .unset, .unset, .unset, .unset, .unset, .unset] [])) _
    refine X1.ldc2Long hx hown (mvT hZ (hw _ (List.mem_of_getElem? (i := 44) rfl))) (g := (mkF m 70 #[.val (.int p1), .val (.int (3 : Int32)), .val (.ref a1), .unset, .unset, .unset, .unset, .unset, .unset, .unset, .unset, .unset, .unset] [])) rfl (hb hby at_70) _ ?_
    show Steps p.tables e below (T1.setTop (mkF m 73 #[.val (.int p1), .val (.int (3 : Int32)), .val (.ref a1), .unset, .unset, .unset, .unset, .unset, .unset, .unset, .unset, .unset, .unset] [(.long (86400000 : Int64))])) _
    refine XS.lstoreN X1.here hx rfl (hb hby at_73) rfl (l' := #[.val (.int p1), .val (.int (3 : Int32)), .val (.ref a1), .val (.long (86400000 : Int64)), .second, .unset, .unset, .unset, .unset, .unset, .unset, .unset, .unset]) rfl ?_
    show Steps p.tables e below (T1.setTop (mkF m 74 #[.val (.int p1), .val (.int (3 : Int32)), .val (.ref a1), .val (.long (86400000 : Int64)), .second, .unset, .unset, .unset, .unset, .unset, .unset, .unset, .unset] [])) _
    refine X1.ldc2Long hx hown (mvT hZ (hw _ (List.mem_of_getElem? (i := 45) rfl))) (g := (mkF m 74 #[.val (.int p1), .val (.int (3 : Int32)), .val (.ref a1), .val (.long (86400000 : Int64)), .second, .unset, .unset, .unset, .unset, .unset, .unset, .unset, .unset] [])) rfl (hb hby at_74) _ ?_
    show Steps p.tables e below (T1.setTop (mkF m 77 #[.val (.int p1), .val (.int (3 : Int32)), .val (.ref a1), .val (.long (86400000 : Int64)), .second, .unset, .unset, .unset, .unset, .unset, .unset, .unset, .unset] [(.long (106751991167 : Int64))])) _
    refine XS.lstore X1.here hx rfl (hb hby at_77) rfl (l' := #[.val (.int p1), .val (.int (3 : Int32)), .val (.ref a1), .val (.long (86400000 : Int64)), .second, .val (.long (106751991167 : Int64)), .second, .unset, .unset, .unset, .unset, .unset, .unset]) rfl ?_
    show Steps p.tables e below (T1.setTop (mkF m 79 #[.val (.int p1), .val (.int (3 : Int32)), .val (.ref a1), .val (.long (86400000 : Int64)), .second, .val (.long (106751991167 : Int64)), .second, .unset, .unset, .unset, .unset, .unset, .unset] [])) _
    refine XS.aloadN X1.here hx rfl (hb hby at_79) rfl rfl ?_
    show Steps p.tables e below (T1.setTop (mkF m 80 #[.val (.int p1), .val (.int (3 : Int32)), .val (.ref a1), .val (.long (86400000 : Int64)), .second, .val (.long (106751991167 : Int64)), .second, .unset, .unset, .unset, .unset, .unset, .unset] [(.ref a1)])) _
    refine st2 _ ?_
    show Steps p.tables e below (T2.setTop (mkF m 83 #[.val (.int p1), .val (.int (3 : Int32)), .val (.ref a1), .val (.long (86400000 : Int64)), .second, .val (.long (106751991167 : Int64)), .second, .unset, .unset, .unset, .unset, .unset, .unset] [(.long (106751991167 : Int64))])) _
    refine XS.lstore X2.here hx rfl (hb hby at_83) rfl (l' := #[.val (.int p1), .val (.int (3 : Int32)), .val (.ref a1), .val (.long (86400000 : Int64)), .second, .val (.long (106751991167 : Int64)), .second, .val (.long (106751991167 : Int64)), .second, .unset, .unset, .unset, .unset]) rfl ?_
    show Steps p.tables e below (T2.setTop (mkF m 85 #[.val (.int p1), .val (.int (3 : Int32)), .val (.ref a1), .val (.long (86400000 : Int64)), .second, .val (.long (106751991167 : Int64)), .second, .val (.long (106751991167 : Int64)), .second, .unset, .unset, .unset, .unset] [])) _
    refine XS.lload X2.here hx rfl (hb hby at_85) rfl ?_
    show Steps p.tables e below (T2.setTop (mkF m 87 #[.val (.int p1), .val (.int (3 : Int32)), .val (.ref a1), .val (.long (86400000 : Int64)), .second, .val (.long (106751991167 : Int64)), .second, .val (.long (106751991167 : Int64)), .second, .unset, .unset, .unset, .unset] [(.long (106751991167 : Int64))])) _
    refine XS.lload X2.here hx rfl (hb hby at_87) rfl ?_
    show Steps p.tables e below (T2.setTop (mkF m 89 #[.val (.int p1), .val (.int (3 : Int32)), .val (.ref a1), .val (.long (86400000 : Int64)), .second, .val (.long (106751991167 : Int64)), .second, .val (.long (106751991167 : Int64)), .second, .unset, .unset, .unset, .unset] [(.long (106751991167 : Int64)), (.long (106751991167 : Int64))])) _
    refine XS.lcmp X2.here hx rfl (hb hby at_89) rfl ?_
    show Steps p.tables e below (T2.setTop (mkF m 90 #[.val (.int p1), .val (.int (3 : Int32)), .val (.ref a1), .val (.long (86400000 : Int64)), .second, .val (.long (106751991167 : Int64)), .second, .val (.long (106751991167 : Int64)), .second, .unset, .unset, .unset, .unset] [(.int (lcmpW (106751991167 : Int64) (106751991167 : Int64)))])) _
    refine XS.ifYes X2.here hx rfl (pc0 := 90) (pc' := 95) rfl (hb hby at_90) rfl ((if0 _ _).trans (teq (by decide +kernel)).1) (by decide) (by decide) ?_
    show Steps p.tables e below (T2.setTop (mkF m 95 #[.val (.int p1), .val (.int (3 : Int32)), .val (.ref a1), .val (.long (86400000 : Int64)), .second, .val (.long (106751991167 : Int64)), .second, .val (.long (106751991167 : Int64)), .second, .unset, .unset, .unset, .unset] [])) _
    refine XS.lload X2.here hx rfl (hb hby at_95) rfl ?_
    show Steps p.tables e below (T2.setTop (mkF m 97 #[.val (.int p1), .val (.int (3 : Int32)), .val (.ref a1), .val (.long (86400000 : Int64)), .second, .val (.long (106751991167 : Int64)), .second, .val (.long (106751991167 : Int64)), .second, .unset, .unset, .unset, .unset] [(.long (106751991167 : Int64))])) _
    refine XS.lloadN X2.here hx rfl (hb hby at_97) rfl ?_
    show Steps p.tables e below (T2.setTop (mkF m 98 #[.val (.int p1), .val (.int (3 : Int32)), .val (.ref a1), .val (.long (86400000 : Int64)), .second, .val (.long (106751991167 : Int64)), .second, .val (.long (106751991167 : Int64)), .second, .unset, .unset, .unset, .unset] [(.long (86400000 : Int64)), (.long (106751991167 : Int64))])) _
    refine XS.lmul X2.here hx rfl (hb hby at_98) rfl ?_
    show Steps p.tables e below (T2.setTop (mkF m 99 #[.val (.int p1), .val (.int (3 : Int32)), .val (.ref a1), .val (.long (86400000 : Int64)), .second, .val (.long (106751991167 : Int64)), .second, .val (.long (106751991167 : Int64)), .second, .unset, .unset, .unset, .unset] [(.long ((106751991167 : Int64) * (86400000 : Int64)))])) _
    refine XS.lstore X2.here hx rfl (hb hby at_99) rfl (l' := #[.val (.int p1), .val (.int (3 : Int32)), .val (.ref a1), .val (.long (86400000 : Int64)), .second, .val (.long (106751991167 : Int64)), .second, .val (.long (106751991167 : Int64)), .second, .val (.long ((106751991167 : Int64) * (86400000 : Int64))), .second, .unset, .unset]) rfl ?_
    show Steps p.tables e below (T2.setTop (mkF m 101 #[.val (.int p1), .val (.int (3 : Int32)), .val (.ref a1), .val (.long (86400000 : Int64)), .second, .val (.long (106751991167 : Int64)), .second, .val (.long (106751991167 : Int64)), .second, .val (.long ((106751991167 : Int64) * (86400000 : Int64))), .second, .unset, .unset] [])) _
    refine XS.lload X2.here hx rfl (hb hby at_101) rfl ?_
    show Steps p.tables e below (T2.setTop (mkF m 103 #[.val (.int p1), .val (.int (3 : Int32)), .val (.ref a1), .val (.long (86400000 : Int64)), .second, .val (.long (106751991167 : Int64)), .second, .val (.long (106751991167 : Int64)), .second, .val (.long ((106751991167 : Int64) * (86400000 : Int64))), .second, .unset, .unset] [(.long (106751991167 : Int64))])) _
    refine XS.lconst X2.here hx rfl (hb hby at_103) ?_
    show Steps p.tables e below (T2.setTop (mkF m 104 #[.val (.int p1), .val (.int (3 : Int32)), .val (.ref a1), .val (.long (86400000 : Int64)), .second, .val (.long (106751991167 : Int64)), .second, .val (.long (106751991167 : Int64)), .second, .val (.long ((106751991167 : Int64) * (86400000 : Int64))), .second, .unset, .unset] [(.long (1 : Int64)), (.long (106751991167 : Int64))])) _
    refine XS.lcmp X2.here hx rfl (hb hby at_104) rfl ?_
    show Steps p.tables e below (T2.setTop (mkF m 105 #[.val (.int p1), .val (.int (3 : Int32)), .val (.ref a1), .val (.long (86400000 : Int64)), .second, .val (.long (106751991167 : Int64)), .second, .val (.long (106751991167 : Int64)), .second, .val (.long ((106751991167 : Int64) * (86400000 : Int64))), .second, .unset, .unset] [(.int (lcmpW (106751991167 : Int64) (1 : Int64)))])) _
    refine XS.ifNo X2.here hx rfl (hb hby at_105) rfl ((if0 _ _).trans (flt (by decide +kernel)).1) ?_
    show Steps p.tables e below (T2.setTop (mkF m 108 #[.val (.int p1), .val (.int (3 : Int32)), .val (.ref a1), .val (.long (86400000 : Int64)), .second, .val (.long (106751991167 : Int64)), .second, .val (.long (106751991167 : Int64)), .second, .val (.long ((106751991167 : Int64) * (86400000 : Int64))), .second, .unset, .unset] [])) _
    refine XS.lload X2.here hx rfl (hb hby at_108) rfl ?_
    show Steps p.tables e below (T2.setTop (mkF m 110 #[.val (.int p1), .val (.int (3 : Int32)), .val (.ref a1), .val (.long (86400000 : Int64)), .second, .val (.long (106751991167 : Int64)), .second, .val (.long (106751991167 : Int64)), .second, .val (.long ((106751991167 : Int64) * (86400000 : Int64))), .second, .unset, .unset] [(.long ((106751991167 : Int64) * (86400000 : Int64)))])) _
    refine XS.lconst X2.here hx rfl (hb hby at_110) ?_
    show Steps p.tables e below (T2.setTop (mkF m 111 #[.val (.int p1), .val (.int (3 : Int32)), .val (.ref a1), .val (.long (86400000 : Int64)), .second, .val (.long (106751991167 : Int64)), .second, .val (.long (106751991167 : Int64)), .second, .val (.long ((106751991167 : Int64) * (86400000 : Int64))), .second, .unset, .unset] [(.long (0 : Int64)), (.long ((106751991167 : Int64) * (86400000 : Int64)))])) _
    refine XS.lcmp X2.here hx rfl (hb hby at_111) rfl ?_
    show Steps p.tables e below (T2.setTop (mkF m 112 #[.val (.int p1), .val (.int (3 : Int32)), .val (.ref a1), .val (.long (86400000 : Int64)), .second, .val (.long (106751991167 : Int64)), .second, .val (.long (106751991167 : Int64)), .second, .val (.long ((106751991167 : Int64) * (86400000 : Int64))), .second, .unset, .unset] [(.int (lcmpW ((106751991167 : Int64) * (86400000 : Int64)) (0 : Int64)))])) _
    refine XS.ifNo X2.here hx rfl (hb hby at_112) rfl ((if0 _ _).trans (flt (by decide +kernel)).1) ?_
    show Steps p.tables e below (T2.setTop (mkF m 115 #[.val (.int p1), .val (.int (3 : Int32)), .val (.ref a1), .val (.long (86400000 : Int64)), .second, .val (.long (106751991167 : Int64)), .second, .val (.long (106751991167 : Int64)), .second, .val (.long ((106751991167 : Int64) * (86400000 : Int64))), .second, .unset, .unset] [])) _
    refine XS.lload X2.here hx rfl (hb hby at_115) rfl ?_
    show Steps p.tables e below (T2.setTop (mkF m 117 #[.val (.int p1), .val (.int (3 : Int32)), .val (.ref a1), .val (.long (86400000 : Int64)), .second, .val (.long (106751991167 : Int64)), .second, .val (.long (106751991167 : Int64)), .second, .val (.long ((106751991167 : Int64) * (86400000 : Int64))), .second, .unset, .unset] [(.long ((106751991167 : Int64) * (86400000 : Int64)))])) _
    refine XS.lloadN X2.here hx rfl (hb hby at_117) rfl ?_
    show Steps p.tables e below (T2.setTop (mkF m 118 #[.val (.int p1), .val (.int (3 : Int32)), .val (.ref a1), .val (.long (86400000 : Int64)), .second, .val (.long (106751991167 : Int64)), .second, .val (.long (106751991167 : Int64)), .second, .val (.long ((106751991167 : Int64) * (86400000 : Int64))), .second, .unset, .unset] [(.long (86400000 : Int64)), (.long ((106751991167 : Int64) * (86400000 : Int64)))])) _
    refine XS.ldiv X2.here hx rfl (hb hby at_118) rfl (by decide +kernel) ?_
    show Steps p.tables e below (T2.setTop (mkF m 119 #[.val (.int p1), .val (.int (3 : Int32)), .val (.ref a1), .val (.long (86400000 : Int64)), .second, .val (.long (106751991167 : Int64)), .second, .val (.long (106751991167 : Int64)), .second, .val (.long ((106751991167 : Int64) * (86400000 : Int64))), .second, .unset, .unset] [(.long (((106751991167 : Int64) * (86400000 : Int64)) / (86400000 : Int64)))])) _
    refine XS.lload X2.here hx rfl (hb hby at_119) rfl ?_
    show Steps p.tables e below (T2.setTop (mkF m 121 #[.val (.int p1), .val (.int (3 : Int32)), .val (.ref a1), .val (.long (86400000 : Int64)), .second, .val (.long (106751991167 : Int64)), .second, .val (.long (106751991167 : Int64)), .second, .val (.long ((106751991167 : Int64) * (86400000 : Int64))), .second, .unset, .unset] [(.long (106751991167 : Int64)), (.long (((106751991167 : Int64) * (86400000 : Int64)) / (86400000 : Int64)))])) _
    refine XS.lcmp X2.here hx rfl (hb hby at_121) rfl ?_
    show Steps p.tables e below (T2.setTop (mkF m 122 #[.val (.int p1), .val (.int (3 : Int32)), .val (.ref a1), .val (.long (86400000 : Int64)), .second, .val (.long (106751991167 : Int64)), .second, .val (.long (106751991167 : Int64)), .second, .val (.long ((106751991167 : Int64) * (86400000 : Int64))), .second, .unset, .unset] [(.int (lcmpW (((106751991167 : Int64) * (86400000 : Int64)) / (86400000 : Int64)) (106751991167 : Int64)))])) _
    refine XS.ifNo X2.here hx rfl (hb hby at_122) rfl ((if0 _ _).trans (teq (by decide +kernel)).2) ?_
    show Steps p.tables e below (T2.setTop (mkF m 125 #[.val (.int p1), .val (.int (3 : Int32)), .val (.ref a1), .val (.long (86400000 : Int64)), .second, .val (.long (106751991167 : Int64)), .second, .val (.long (106751991167 : Int64)), .second, .val (.long ((106751991167 : Int64) * (86400000 : Int64))), .second, .unset, .unset] [])) _
    refine XS.iconst X2.here hx rfl (hb hby at_125) ?_
    show Steps p.tables e below (T2.setTop (mkF m 126 #[.val (.int p1), .val (.int (3 : Int32)), .val (.ref a1), .val (.long (86400000 : Int64)), .second, .val (.long (106751991167 : Int64)), .second, .val (.long (106751991167 : Int64)), .second, .val (.long ((106751991167 : Int64) * (86400000 : Int64))), .second, .unset, .unset] [(.int (1 : Int32))])) _
    refine XS.goto X2.here hx rfl (pc0 := 126) (pc' := 130) rfl (hb hby at_126) (by decide) (by decide) ?_
    show Steps p.tables e below (T2.setTop (mkF m 130 #[.val (.int p1), .val (.int (3 : Int32)), .val (.ref a1), .val (.long (86400000 : Int64)), .second, .val (.long (106751991167 : Int64)), .second, .val (.long (106751991167 : Int64)), .second, .val (.long ((106751991167 : Int64) * (86400000 : Int64))), .second, .unset, .unset] [(.int (1 : Int32))])) _
    refine XS.istore X2.here hx rfl (hb hby at_130) rfl (l' := #[.val (.int p1), .val (.int (3 : Int32)), .val (.ref a1), .val (.long (86400000 : Int64)), .second, .val (.long (106751991167 : Int64)), .second, .val (.long (106751991167 : Int64)), .second, .val (.long ((106751991167 : Int64) * (86400000 : Int64))), .second, .val (.int (1 : Int32)), .unset]) rfl ?_
    show Steps p.tables e below (T2.setTop (mkF m 132 #[.val (.int p1), .val (.int (3 : Int32)), .val (.ref a1), .val (.long (86400000 : Int64)), .second, .val (.long (106751991167 : Int64)), .second, .val (.long (106751991167 : Int64)), .second, .val (.long ((106751991167 : Int64) * (86400000 : Int64))), .second, .val (.int (1 : Int32)), .unset] [])) _
    refine X2.ldc2Long hx hown (mvT hZ (hw _ (List.mem_of_getElem? (i := 41) rfl))) (g := (mkF m 132 #[.val (.int p1), .val (.int (3 : Int32)), .val (.ref a1), .val (.long (86400000 : Int64)), .second, .val (.long (106751991167 : Int64)), .second, .val (.long (106751991167 : Int64)), .second, .val (.long ((106751991167 : Int64) * (86400000 : Int64))), .second, .val (.int (1 : Int32)), .unset] [])) rfl (hb hby at_132) _ ?_
    show Steps p.tables e below (T2.setTop (mkF m 135 #[.val (.int p1), .val (.int (3 : Int32)), .val (.ref a1), .val (.long (86400000 : Int64)), .second, .val (.long (106751991167 : Int64)), .second, .val (.long (106751991167 : Int64)), .second, .val (.long ((106751991167 : Int64) * (86400000 : Int64))), .second, .val (.int (1 : Int32)), .unset] [(.long (9223372036854775807 : Int64))])) _
    refine XS.lload X2.here hx rfl (hb hby at_135) rfl ?_
    show Steps p.tables e below (T2.setTop (mkF m 137 #[.val (.int p1), .val (.int (3 : Int32)), .val (.ref a1), .val (.long (86400000 : Int64)), .second, .val (.long (106751991167 : Int64)), .second, .val (.long (106751991167 : Int64)), .second, .val (.long ((106751991167 : Int64) * (86400000 : Int64))), .second, .val (.int (1 : Int32)), .unset] [(.long ((106751991167 : Int64) * (86400000 : Int64))), (.long (9223372036854775807 : Int64))])) _
    refine XS.lsub X2.here hx rfl (hb hby at_137) rfl ?_
    show Steps p.tables e below (T2.setTop (mkF m 138 #[.val (.int p1), .val (.int (3 : Int32)), .val (.ref a1), .val (.long (86400000 : Int64)), .second, .val (.long (106751991167 : Int64)), .second, .val (.long (106751991167 : Int64)), .second, .val (.long ((106751991167 : Int64) * (86400000 : Int64))), .second, .val (.int (1 : Int32)), .unset] [(.long ((9223372036854775807 : Int64) - ((106751991167 : Int64) * (86400000 : Int64))))])) _
    refine XS.lloadN X2.here hx rfl (hb hby at_138) rfl ?_
    show Steps p.tables e below (T2.setTop (mkF m 139 #[.val (.int p1), .val (.int (3 : Int32)), .val (.ref a1), .val (.long (86400000 : Int64)), .second, .val (.long (106751991167 : Int64)), .second, .val (.long (106751991167 : Int64)), .second, .val (.long ((106751991167 : Int64) * (86400000 : Int64))), .second, .val (.int (1 : Int32)), .unset] [(.long (86400000 : Int64)), (.long ((9223372036854775807 : Int64) - ((106751991167 : Int64) * (86400000 : Int64))))])) _
    refine XS.lcmp X2.here hx rfl (hb hby at_139) rfl ?_
    show Steps p.tables e below (T2.setTop (mkF m 140 #[.val (.int p1), .val (.int (3 : Int32)), .val (.ref a1), .val (.long (86400000 : Int64)), .second, .val (.long (106751991167 : Int64)), .second, .val (.long (106751991167 : Int64)), .second, .val (.long ((106751991167 : Int64) * (86400000 : Int64))), .second, .val (.int (1 : Int32)), .unset] [(.int (lcmpW ((9223372036854775807 : Int64) - ((106751991167 : Int64) * (86400000 : Int64))) (86400000 : Int64)))])) _
    refine XS.ifNo X2.here hx rfl (hb hby at_140) rfl ((if0 _ _).trans (tlt (by decide +kernel)).2.1) ?_
    show Steps p.tables e below (T2.setTop (mkF m 143 #[.val (.int p1), .val (.int (3 : Int32)), .val (.ref a1), .val (.long (86400000 : Int64)), .second, .val (.long (106751991167 : Int64)), .second, .val (.long (106751991167 : Int64)), .second, .val (.long ((106751991167 : Int64) * (86400000 : Int64))), .second, .val (.int (1 : Int32)), .unset] [])) _
    refine XS.iconst X2.here hx rfl (hb hby at_143) ?_
    show Steps p.tables e below (T2.setTop (mkF m 144 #[.val (.int p1), .val (.int (3 : Int32)), .val (.ref a1), .val (.long (86400000 : Int64)), .second, .val (.long (106751991167 : Int64)), .second, .val (.long (106751991167 : Int64)), .second, .val (.long ((106751991167 : Int64) * (86400000 : Int64))), .second, .val (.int (1 : Int32)), .unset] [(.int (1 : Int32))])) _
    refine XS.goto X2.here hx rfl (pc0 := 144) (pc' := 148) rfl (hb hby at_144) (by decide) (by decide) ?_
    show Steps p.tables e below (T2.setTop (mkF m 148 #[.val (.int p1), .val (.int (3 : Int32)), .val (.ref a1), .val (.long (86400000 : Int64)), .second, .val (.long (106751991167 : Int64)), .second, .val (.long (106751991167 : Int64)), .second, .val (.long ((106751991167 : Int64) * (86400000 : Int64))), .second, .val (.int (1 : Int32)), .unset] [(.int (1 : Int32))])) _
    refine XS.istore X2.here hx rfl (hb hby at_148) rfl (l' := #[.val (.int p1), .val (.int (3 : Int32)), .val (.ref a1), .val (.long (86400000 : Int64)), .second, .val (.long (106751991167 : Int64)), .second, .val (.long (106751991167 : Int64)), .second, .val (.long ((106751991167 : Int64) * (86400000 : Int64))), .second, .val (.int (1 : Int32)), .val (.int (1 : Int32))]) rfl ?_
    show Steps p.tables e below (T2.setTop (mkF m 150 #[.val (.int p1), .val (.int (3 : Int32)), .val (.ref a1), .val (.long (86400000 : Int64)), .second, .val (.long (106751991167 : Int64)), .second, .val (.long (106751991167 : Int64)), .second, .val (.long ((106751991167 : Int64) * (86400000 : Int64))), .second, .val (.int (1 : Int32)), .val (.int (1 : Int32))] [])) _
    refine XS.iload X2.here hx rfl (hb hby at_150) rfl ?_
    show Steps p.tables e below (T2.setTop (mkF m 152 #[.val (.int p1), .val (.int (3 : Int32)), .val (.ref a1), .val (.long (86400000 : Int64)), .second, .val (.long (106751991167 : Int64)), .second, .val (.long (106751991167 : Int64)), .second, .val (.long ((106751991167 : Int64) * (86400000 : Int64))), .second, .val (.int (1 : Int32)), .val (.int (1 : Int32))] [(.int (1 : Int32))])) _
    refine XS.ifNo X2.here hx rfl (hb hby at_152) rfl ((if0 _ _).trans (feq (by decide +kernel)).1) ?_
    show Steps p.tables e below (T2.setTop (mkF m 155 #[.val (.int p1), .val (.int (3 : Int32)), .val (.ref a1), .val (.long (86400000 : Int64)), .second, .val (.long (106751991167 : Int64)), .second, .val (.long (106751991167 : Int64)), .second, .val (.long ((106751991167 : Int64) * (86400000 : Int64))), .second, .val (.int (1 : Int32)), .val (.int (1 : Int32))] [])) _
    refine XS.iload X2.here hx rfl (hb hby at_155) rfl ?_
    show Steps p.tables e below (T2.setTop (mkF m 157 #[.val (.int p1), .val (.int (3 : Int32)), .val (.ref a1), .val (.long (86400000 : Int64)), .second, .val (.long (106751991167 : Int64)), .second, .val (.long (106751991167 : Int64)), .second, .val (.long ((106751991167 : Int64) * (86400000 : Int64))), .second, .val (.int (1 : Int32)), .val (.int (1 : Int32))] [(.int (1 : Int32))])) _
    refine XS.ifNo X2.here hx rfl (hb hby at_157) rfl ((if0 _ _).trans (feq (by decide +kernel)).1) ?_
    show Steps p.tables e below (T2.setTop (mkF m 160 #[.val (.int p1), .val (.int (3 : Int32)), .val (.ref a1), .val (.long (86400000 : Int64)), .second, .val (.long (106751991167 : Int64)), .second, .val (.long (106751991167 : Int64)), .second, .val (.long ((106751991167 : Int64) * (86400000 : Int64))), .second, .val (.int (1 : Int32)), .val (.int (1 : Int32))] [])) _
    refine XS.iconst X2.here hx rfl (hb hby at_160) ?_
    show Steps p.tables e below (T2.setTop (mkF m 161 #[.val (.int p1), .val (.int (3 : Int32)), .val (.ref a1), .val (.long (86400000 : Int64)), .second, .val (.long (106751991167 : Int64)), .second, .val (.long (106751991167 : Int64)), .second, .val (.long ((106751991167 : Int64) * (86400000 : Int64))), .second, .val (.int (1 : Int32)), .val (.int (1 : Int32))] [(.int (1 : Int32))])) _
    refine XS.goto X2.here hx rfl (pc0 := 161) (pc' := 165) rfl (hb hby at_161) (by decide) (by decide) ?_
    show Steps p.tables e below (T2.setTop (mkF m 165 #[.val (.int p1), .val (.int (3 : Int32)), .val (.ref a1), .val (.long (86400000 : Int64)), .second, .val (.long (106751991167 : Int64)), .second, .val (.long (106751991167 : Int64)), .second, .val (.long ((106751991167 : Int64) * (86400000 : Int64))), .second, .val (.int (1 : Int32)), .val (.int (1 : Int32))] [(.int (1 : Int32))])) _
    exact retN X2 hx (t := .boolean) Bd.returns (by simp) (hb hby at_165) hr
  · show Q0 Z p1 a1 d1 h0 n0 _ T2.heap _
    rw [eq2]
    exact ⟨rfl, N2⟩
set_option maxRecDepth 65536 in
set_option maxHeartbeats 40000000 in
theorem rm0 (l : Launch) (Z : State) (a0 : Array Value) (hw : ∀ d ∈ tables_1, d.before a0 Z = true) (ws : List Jvm.Cond) (p1 : Int32) (a_0 d_0 a_1 d_1 a_2 d_2 a_3 d_3 : Addr) (h0 : Heap) (n0 : Nat) (Z0 : n0 ≤ h0.size) (SU_0 : Sta Z h0 "com/example/throttle/throttle/model/Unit" "SECOND" "Lcom/example/throttle/throttle/model/Unit;" (.ref a_0)) (EU_0 : Exa Z h0 a_0 "com/example/throttle/throttle/model/Unit") (FL_0 : Fld Z h0 a_0 "com/example/throttle/throttle/model/Unit" "length" "Ljava/time/Duration;" (.ref d_0)) (ED_0 : Exa Z h0 d_0 "java/time/Duration") (FS_0 : Fld Z h0 d_0 "java/time/Duration" "seconds" "J" (.long (1 : Int64))) (FN_0 : Fld Z h0 d_0 "java/time/Duration" "nanos" "I" (.int (0 : Int32))) (SU_1 : Sta Z h0 "com/example/throttle/throttle/model/Unit" "MINUTE" "Lcom/example/throttle/throttle/model/Unit;" (.ref a_1)) (EU_1 : Exa Z h0 a_1 "com/example/throttle/throttle/model/Unit") (FL_1 : Fld Z h0 a_1 "com/example/throttle/throttle/model/Unit" "length" "Ljava/time/Duration;" (.ref d_1)) (ED_1 : Exa Z h0 d_1 "java/time/Duration") (FS_1 : Fld Z h0 d_1 "java/time/Duration" "seconds" "J" (.long (60 : Int64))) (FN_1 : Fld Z h0 d_1 "java/time/Duration" "nanos" "I" (.int (0 : Int32))) (SU_2 : Sta Z h0 "com/example/throttle/throttle/model/Unit" "HOUR" "Lcom/example/throttle/throttle/model/Unit;" (.ref a_2)) (EU_2 : Exa Z h0 a_2 "com/example/throttle/throttle/model/Unit") (FL_2 : Fld Z h0 a_2 "com/example/throttle/throttle/model/Unit" "length" "Ljava/time/Duration;" (.ref d_2)) (ED_2 : Exa Z h0 d_2 "java/time/Duration") (FS_2 : Fld Z h0 d_2 "java/time/Duration" "seconds" "J" (.long (3600 : Int64))) (FN_2 : Fld Z h0 d_2 "java/time/Duration" "nanos" "I" (.int (0 : Int32))) (SU_3 : Sta Z h0 "com/example/throttle/throttle/model/Unit" "DAY" "Lcom/example/throttle/throttle/model/Unit;" (.ref a_3)) (EU_3 : Exa Z h0 a_3 "com/example/throttle/throttle/model/Unit") (FL_3 : Fld Z h0 a_3 "com/example/throttle/throttle/model/Unit" "length" "Ljava/time/Duration;" (.ref d_3)) (ED_3 : Exa Z h0 d_3 "java/time/Duration") (FS_3 : Fld Z h0 d_3 "java/time/Duration" "seconds" "J" (.long (86400 : Int64))) (FN_3 : Fld Z h0 d_3 "java/time/Duration" "nanos" "I" (.int (0 : Int32))) :
    MetFree l x (head1 (Jvm.Cond.code x code maxLocals ret :: ws) room_1) (fun a U => a = #[(.int p1)] ∧ Z.Warmed39 U.vm ∧ U.heap = h0) (fun _ _ _ _ _ => True) (fun _ U o U' => ∃ v L, o = .returned v ∧ Q0 Z p1 a_0 d_0 h0 n0 v U'.heap L ∧ FrameEnd U o U' L room_1.cells room_1.slots) := by
  rcases own_k p1 with hk | hk | hk | hk
  · exact rm0_0 l Z a0 hw ws p1 a_0 d_0 h0 n0 Z0 SU_0 EU_0 FL_0 ED_0 FS_0 FN_0 hk
  · exact rm0_1 l Z a0 hw ws p1 a_1 d_1 h0 n0 Z0 SU_1 EU_1 FL_1 ED_1 FS_1 FN_1 hk
  · exact rm0_2 l Z a0 hw ws p1 a_2 d_2 h0 n0 Z0 SU_2 EU_2 FL_2 ED_2 FS_2 FN_2 hk
  · exact rm0_3 l Z a0 hw ws p1 a_3 d_3 h0 n0 Z0 SU_3 EU_3 FL_3 ED_3 FS_3 FN_3 hk
set_option maxRecDepth 65536 in
set_option maxHeartbeats 40000000 in
theorem comes_1 {Post : Tables → Env → Array Value → State → Outcome → State → Prop} (hpost : ∀ tb e args s v u, (limb_1_1.after args s (.returned v) u = true ∧ limb_1_2.after args s (.returned v) u = true ∧ True) → FrameEnd s (.returned v) u (Jvm.fieldLocs frame_1_writes args s ++ Jvm.arrayLocs frame_1_arrays args s ++ Jvm.staticLocs frame_1_statics s) 0 0 → Post tb e args s (.returned v) u) :
    ArmFor flags0 classFile x code maxLocals ret World_1 tables_1 room_1 Calls_1 rest_1 Pre_1 Post := by
  intro l hfl _ _ p e ha hc hk s m args below hf hA hF happ hP
  obtain ⟨hcalls, hrest, hpre⟩ := hP
  obtain ⟨-, -, -, hnamed, -, -, -, hat⟩ := (Spec.applies_iff hf).mp happ
  obtain ⟨hg, hn⟩ := and_e (Cond.before_iff.mp (show (Jvm.Cond.and given_1 narrow_1).before args s = true from hpre))
  obtain ⟨g0, g1⟩ := and_e hg
  obtain ⟨w0, rfl⟩ : ∃ w0 : Value, args = #[w0] := by
    have hs : args.size = 1 := by simpa [Cond.value, given_1] using g0
    obtain ⟨L⟩ := args
    match L, hs with
    | [w0], _ => exact ⟨w0, rfl⟩
  have hw := fun d (hd : d ∈ tables_1) => atoms_spec (ws := Jvm.Cond.code x code maxLocals ret :: tables_1) hat d (List.mem_cons_of_mem _ hd)
  have hfit : Fit s := fun {y c} hc i hi => by
    obtain ⟨ha, rfl⟩ := Array.getElem?_eq_some_iff.mp hc
    have q := List.all_eq_true.mp ((Array.all_eq_true_iff_forall_mem.mp hF) _ (Array.getElem_mem ha)) i (List.mem_range.mpr hi)
    simpa [Array.getElem?_eq_getElem hi] using q
  obtain ⟨i0, ei0⟩ := is_v g1
  obtain rfl : w0 = (.int i0) := Option.some.inj ei0
  obtain ⟨c0, c_r⟩ := and_e hn
  obtain ⟨c1, c_rr⟩ := and_e c_r
  obtain ⟨c2, c_rrr⟩ := and_e c_rr
  obtain ⟨c3, c_rrrr⟩ := and_e c_rrr
  obtain ⟨c4, c_rrrrr⟩ := and_e c_rrrr
  obtain ⟨c5, c_rrrrrr⟩ := and_e c_rrrrr
  obtain ⟨c6, c_rrrrrrr⟩ := and_e c_rrrrrr
  obtain ⟨c7, c_rrrrrrrr⟩ := and_e c_rrrrrrr
  obtain ⟨c8, c_rrrrrrrrr⟩ := and_e c_rrrrrrrr
  obtain ⟨c9, c_rrrrrrrrrr⟩ := and_e c_rrrrrrrrr
  obtain ⟨c10, c_rrrrrrrrrrr⟩ := and_e c_rrrrrrrrrr
  obtain ⟨c11, c_rrrrrrrrrrrr⟩ := and_e c_rrrrrrrrrrr
  obtain ⟨c12, c_rrrrrrrrrrrrr⟩ := and_e c_rrrrrrrrrrrr
  obtain ⟨c13, c_rrrrrrrrrrrrrr⟩ := and_e c_rrrrrrrrrrrrr
  obtain ⟨c14, c15⟩ := and_e c_rrrrrrrrrrrrrr
  obtain ⟨w_SECOND, v_SECOND⟩ := exa_v c0
  have E_SECOND := Exa.start v_SECOND c0
  have S_SECOND := Sta.start v_SECOND (Or.inr ⟨(hw _ (List.mem_of_getElem? (i := 1) rfl)), (hw _ (List.mem_of_getElem? (i := 2) rfl))⟩)
  obtain ⟨w_DAY, v_DAY⟩ := exa_v c4
  have E_DAY := Exa.start v_DAY c4
  have S_DAY := Sta.start v_DAY (Or.inr ⟨(hw _ (List.mem_of_getElem? (i := 1) rfl)), (hw _ (List.mem_of_getElem? (i := 43) rfl))⟩)
  obtain ⟨w_HOUR, v_HOUR⟩ := exa_v c8
  have E_HOUR := Exa.start v_HOUR c8
  have S_HOUR := Sta.start v_HOUR (Or.inr ⟨(hw _ (List.mem_of_getElem? (i := 1) rfl)), (hw _ (List.mem_of_getElem? (i := 47) rfl))⟩)
  obtain ⟨w_MINUTE, v_MINUTE⟩ := exa_v c12
  have E_MINUTE := Exa.start v_MINUTE c12
  have S_MINUTE := Sta.start v_MINUTE (Or.inr ⟨(hw _ (List.mem_of_getElem? (i := 1) rfl)), (hw _ (List.mem_of_getElem? (i := 51) rfl))⟩)
  obtain ⟨d_SECOND, vd_SECOND⟩ := exa_v c1
  have ED_SECOND := Exa.start vd_SECOND c1
  have FL_SECOND := Fld.start ((fld_at v_SECOND).symm.trans vd_SECOND)
  obtain ⟨d_DAY, vd_DAY⟩ := exa_v c5
  have ED_DAY := Exa.start vd_DAY c5
  have FL_DAY := Fld.start ((fld_at v_DAY).symm.trans vd_DAY)
  obtain ⟨d_HOUR, vd_HOUR⟩ := exa_v c9
  have ED_HOUR := Exa.start vd_HOUR c9
  have FL_HOUR := Fld.start ((fld_at v_HOUR).symm.trans vd_HOUR)
  obtain ⟨d_MINUTE, vd_MINUTE⟩ := exa_v c13
  have ED_MINUTE := Exa.start vd_MINUTE c13
  have FL_MINUTE := Fld.start ((fld_at v_MINUTE).symm.trans vd_MINUTE)
  have FS_SECOND := Fld.start (own_fldL c2 vd_SECOND)
  have FN_SECOND := Fld.start (own_fld c3 vd_SECOND)
  have FS_DAY := Fld.start (own_fldL c6 vd_DAY)
  have FN_DAY := Fld.start (own_fld c7 vd_DAY)
  have FS_HOUR := Fld.start (own_fldL c10 vd_HOUR)
  have FN_HOUR := Fld.start (own_fld c11 vd_HOUR)
  have FS_MINUTE := Fld.start (own_fldL c14 vd_MINUTE)
  have FN_MINUTE := Fld.start (own_fld c15 vd_MINUTE)
  obtain ⟨n, o, h1, h2, h3, _, L, rfl, ⟨rfl, N⟩, hq⟩ := rm0 l s _ hw tables_1 i0 w_SECOND d_SECOND w_MINUTE d_MINUTE w_HOUR d_HOUR w_DAY d_DAY s.heap s.heap.size (Nat.le_refl _) S_SECOND E_SECOND FL_SECOND ED_SECOND FS_SECOND FN_SECOND S_MINUTE E_MINUTE FL_MINUTE ED_MINUTE FS_MINUTE FN_MINUTE S_HOUR E_HOUR FL_HOUR ED_HOUR FS_HOUR FN_HOUR S_DAY E_DAY FL_DAY ED_DAY FS_DAY FN_DAY p e ha hc hk s m _ below hf ((Spec.applies_iff_loose hf).mp happ).1 ⟨rfl, State.Warmed39.refl s, rfl⟩ trivial
  refine ⟨n, _, h1, h2, h3, hpost _ _ _ _ _ _ ⟨Cond.after_iff.mpr rfl, Cond.after_iff.mpr (eq_i res_at (Term.int_eval (1)) rfl), trivial⟩ ⟨hq.1, hq.2.1, (hq.2.2.sift fun y hy => Or.inr (N y hy)).mono (by decide) (by decide)⟩⟩
theorem main_1_1 : Claimed_1_1 := comes_1 fun _ _ _ _ _ _ h hF => ⟨h.1, hF⟩
theorem main_1_2 : Claimed_1_2 := comes_1 fun _ _ _ _ _ _ h hF => ⟨h.2.1, hF⟩
end Jvm.Pilot.@@N@@
namespace Jvm.Pilot.@@N@@
open Jvm Jvm.ClassFile Sem Op Lib Jvm.Free Jvm.Stand Jvm.Pilot.@@N@@.Jvm.D
/-! MADE BY PROGRAM (witnessworld.py) out of the Statement's table words and the real class files: 17 classes; the members and pool entries that the words name. The judged class is class 1, her method 1. -/
namespace start1
open Jvm.ClassFile
def u (s : String) : CpInfo := .utf8 (stringToUtf16 s)
/-- a pool by its gaps: so many unusable entries, then the entry; so many at the end -/
def gap : Nat → List CpInfo → List CpInfo
  | 0, r => r
  | n + 1, r => .unusable :: gap n r
def poolList (es : List (Nat × CpInfo)) (last : Nat) : List CpInfo := es.foldr (fun e r => gap e.1 (e.2 :: r)) (gap last [])
def pool (es : List (Nat × CpInfo)) (last : Nat) : Array CpInfo := ⟨poolList es last⟩
def fileOf (pool : Array CpInfo) (this : Nat) (attrs : Array Attribute := #[]) (ms : Array MethodInfo := #[]) (fl : Nat := 33) (sup : Nat := 0) (ifs : Array Nat := #[]) (fds : Array FieldInfo := #[]) : ClassFile where
  minorVersion := 0
  majorVersion := 65
  constantPool := pool
  accessFlags := fl
  thisClass := this
  superClass := sup
  interfaces := ifs
  fields := fds
  methods := ms
  attributes := attrs
def plain (name : String) (sup : Option ClassId) : Class where
  name := name
  kind := .ordinary
  loader := none
  accessFlags := 33
  super := sup
  interfaces := #[]
  cf := none
  fields := #[]
  methods := #[]
  instanceTypes := #[]
  staticTypes := #[]
  resolved := #[]
  callSites := []
  init := .initialized
  statics := none
  mirror := none

def pool0 : Array CpInfo := pool [(5, u "<init>"), (0, u "()V"), (1, .class_ 10), (1, u "java/lang/Object")] 113

def k0m0 : Method := { name := "<init>", desc := "()V", sig := { parameters := [], returnType := none }, accessFlags := 1, code := none }
/-- java/lang/Object -/
def k0 : Class := { plain "java/lang/Object" none with
  accessFlags := 33
  interfaces := #[]
  cf := some (fileOf pool0 8 #[] #[{ accessFlags := 1, nameIndex := 5, descriptorIndex := 6, attributes := #[] }] 33 0 #[] #[])
  fields := #[]
  methods := #[k0m0]
  instanceTypes := #[]
  staticTypes := #[]
  resolved := Array.replicate 124 none
  statics := none }

def pool1 : Array CpInfo := pool [(2, .class_ 4), (1, u "java/lang/Object"), (0, u "<init>"), (0, u "()V"), (0, .fieldref 8 9), (0, .class_ 10), (0, .nameAndType 11 12), (0, u "com/example/throttle/throttle/model/Unit"), (0, u "SECOND"), (0, u "Lcom/example/throttle/throttle/model/Unit;"), (0, .long 1000), (1, .long 9223372036854775), (1, .fieldref 8 18), (0, .nameAndType 19 12), (0, u "MINUTE"), (0, .long 60000), (1, .long 153722867280912), (1, .fieldref 8 25), (0, .nameAndType 26 12), (0, u "HOUR"), (0, .long 3600000), (1, .long 2562047788015), (1, .fieldref 8 32), (0, .nameAndType 33 12), (0, u "DAY"), (0, .long 86400000), (1, .long 106751991167), (1, .methodref 39 40), (0, .class_ 41), (0, .nameAndType 42 43), (0, u "com/example/throttle/throttle/model/Rule"), (0, u "maxRpu"), (0, u "(Lcom/example/throttle/throttle/model/Unit;)J"), (2, .long 9223372036854775807), (1, .class_ 49), (0, u "com/example/throttle/throttle/model/RuleMaxRpuPinLaw"), (2, u "law"), (0, u "(I)Z")] 3

def k1m0 : Method := { name := "<init>", desc := "()V", sig := { parameters := [], returnType := none }, accessFlags := 1, code := none }
def k1c1 : Code := { maxStack := 4, maxLocals := 13, code := code, exceptionTable := #[], attributes := #[] }
def k1m1 : Method := { name := "law", desc := "(I)Z", sig := { parameters := [.int], returnType := some .boolean }, accessFlags := 9, code := some k1c1 }
/-- com/example/throttle/throttle/model/RuleMaxRpuPinLaw -/
def k1 : Class := { plain "com/example/throttle/throttle/model/RuleMaxRpuPinLaw" (some 0) with
  accessFlags := 49
  interfaces := #[]
  cf := some (fileOf pool1 48 #[] #[{ accessFlags := 1, nameIndex := 5, descriptorIndex := 6, attributes := #[] }, { accessFlags := 9, nameIndex := 52, descriptorIndex := 53, attributes := #[] }] 49 2 #[] #[])
  fields := #[]
  methods := #[k1m0, k1m1]
  instanceTypes := #[]
  staticTypes := #[]
  resolved := Array.replicate 57 none
  statics := none }

def pool2 : Array CpInfo := pool [(1, .class_ 2), (0, u "java/lang/constant/Constable"), (0, .class_ 4), (0, u "java/lang/Object")] 6

/-- java/lang/constant/Constable -/
def k2 : Class := { plain "java/lang/constant/Constable" (some 0) with
  accessFlags := 1537
  interfaces := #[]
  cf := some (fileOf pool2 1 #[] #[] 1537 3 #[] #[])
  fields := #[]
  methods := #[]
  instanceTypes := #[]
  staticTypes := #[]
  resolved := Array.replicate 11 none
  statics := none }

def pool3 : Array CpInfo := pool [(1, .class_ 2), (0, u "java/lang/Comparable"), (0, .class_ 4), (0, u "java/lang/Object")] 7

/-- java/lang/Comparable -/
def k3 : Class := { plain "java/lang/Comparable" (some 0) with
  accessFlags := 1537
  interfaces := #[]
  cf := some (fileOf pool3 1 #[] #[] 1537 3 #[] #[])
  fields := #[]
  methods := #[]
  instanceTypes := #[]
  staticTypes := #[]
  resolved := Array.replicate 12 none
  statics := none }

def pool4 : Array CpInfo := pool [(1, .class_ 2), (0, u "java/io/Serializable"), (0, .class_ 4), (0, u "java/lang/Object")] 2

/-- java/io/Serializable -/
def k4 : Class := { plain "java/io/Serializable" (some 0) with
  accessFlags := 1537
  interfaces := #[]
  cf := some (fileOf pool4 1 #[] #[] 1537 3 #[] #[])
  fields := #[]
  methods := #[]
  instanceTypes := #[]
  staticTypes := #[]
  resolved := Array.replicate 7 none
  statics := none }

def pool5 : Array CpInfo := pool [(2, .class_ 4), (1, u "java/lang/Enum"), (0, u "name"), (0, u "Ljava/lang/String;"), (2, u "ordinal"), (0, u "I"), (1, .class_ 14), (1, u "java/lang/Object"), (4, u "hash"), (86, .class_ 108), (1, u "java/lang/Enum$EnumDesc"), (2, .class_ 112), (0, u "java/lang/constant/Constable"), (0, .class_ 114), (0, u "java/lang/Comparable"), (0, .class_ 116), (0, u "java/io/Serializable")] 87

/-- java/lang/Enum -/
def k5 : Class := { plain "java/lang/Enum" (some 0) with
  accessFlags := 1057
  interfaces := #[2, 3, 4]
  cf := some (fileOf pool5 2 #[.nestMembers #[106]] #[] 1057 12 #[111, 113, 115] #[{ accessFlags := 18, nameIndex := 5, descriptorIndex := 6, attributes := #[] }, { accessFlags := 18, nameIndex := 9, descriptorIndex := 10, attributes := #[] }, { accessFlags := 2, nameIndex := 19, descriptorIndex := 10, attributes := #[] }])
  fields := #[{ name := "name", type := (.object "java/lang/String"), accessFlags := 18, slot := 0, constantValue := 0 }, { name := "ordinal", type := .int, accessFlags := 18, slot := 1, constantValue := 0 }, { name := "hash", type := .int, accessFlags := 2, slot := 2, constantValue := 0 }]
  methods := #[]
  instanceTypes := #[(.object "java/lang/String"), .int, .int]
  staticTypes := #[]
  resolved := Array.replicate 204 none
  statics := none }

def pool6 : Array CpInfo := pool [(1, .class_ 2), (0, u "com/example/throttle/throttle/model/Unit"), (2, u "SECOND"), (0, u "Lcom/example/throttle/throttle/model/Unit;"), (2, u "MINUTE"), (2, u "HOUR"), (2, u "DAY"), (2, u "$VALUES"), (0, u "[Lcom/example/throttle/throttle/model/Unit;"), (6, .class_ 28), (1, u "java/lang/Enum"), (8, u "name"), (0, u "Ljava/lang/String;"), (0, .fieldref 1 40), (0, .nameAndType 41 42), (0, u "length"), (0, u "Ljava/time/Duration;"), (50, u "()Ljava/time/Duration;")] 5

def k6c0 : Code := { maxStack := 1, maxLocals := 1, code := prog_8_method_5_code, exceptionTable := #[], attributes := #[] }
def k6m0 : Method := { name := "length", desc := "()Ljava/time/Duration;", sig := { parameters := [], returnType := some (.object "java/time/Duration") }, accessFlags := 1, code := some k6c0 }
/-- com/example/throttle/throttle/model/Unit -/
def k6 : Class := { plain "com/example/throttle/throttle/model/Unit" (some 5) with
  accessFlags := 16433
  interfaces := #[]
  cf := some (fileOf pool6 1 #[] #[{ accessFlags := 1, nameIndex := 41, descriptorIndex := 93, attributes := #[] }] 16433 26 #[] #[{ accessFlags := 16409, nameIndex := 5, descriptorIndex := 6, attributes := #[] }, { accessFlags := 16409, nameIndex := 9, descriptorIndex := 6, attributes := #[] }, { accessFlags := 16409, nameIndex := 12, descriptorIndex := 6, attributes := #[] }, { accessFlags := 16409, nameIndex := 15, descriptorIndex := 6, attributes := #[] }, { accessFlags := 18, nameIndex := 37, descriptorIndex := 38, attributes := #[] }, { accessFlags := 18, nameIndex := 41, descriptorIndex := 42, attributes := #[] }, { accessFlags := 4122, nameIndex := 18, descriptorIndex := 19, attributes := #[] }])
  fields := #[{ name := "SECOND", type := (.object "com/example/throttle/throttle/model/Unit"), accessFlags := 16409, slot := 0, constantValue := 0 }, { name := "MINUTE", type := (.object "com/example/throttle/throttle/model/Unit"), accessFlags := 16409, slot := 1, constantValue := 0 }, { name := "HOUR", type := (.object "com/example/throttle/throttle/model/Unit"), accessFlags := 16409, slot := 2, constantValue := 0 }, { name := "DAY", type := (.object "com/example/throttle/throttle/model/Unit"), accessFlags := 16409, slot := 3, constantValue := 0 }, { name := "name", type := (.object "java/lang/String"), accessFlags := 18, slot := 3, constantValue := 0 }, { name := "length", type := (.object "java/time/Duration"), accessFlags := 18, slot := 4, constantValue := 0 }, { name := "$VALUES", type := (.array (.object "com/example/throttle/throttle/model/Unit")), accessFlags := 4122, slot := 4, constantValue := 0 }]
  methods := #[k6m0]
  instanceTypes := #[(.object "java/lang/String"), .int, .int, (.object "java/lang/String"), (.object "java/time/Duration")]
  staticTypes := #[(.object "com/example/throttle/throttle/model/Unit"), (.object "com/example/throttle/throttle/model/Unit"), (.object "com/example/throttle/throttle/model/Unit"), (.object "com/example/throttle/throttle/model/Unit"), (.array (.object "com/example/throttle/throttle/model/Unit"))]
  resolved := Array.replicate 99 none
  statics := some 0 }

def pool7 : Array CpInfo := pool [(2, .class_ 4), (1, u "java/lang/Object"), (0, u "<init>"), (0, u "()V"), (0, .class_ 8), (0, u "java/lang/Record")] 13

def k7m0 : Method := { name := "<init>", desc := "()V", sig := { parameters := [], returnType := none }, accessFlags := 4, code := none }
/-- java/lang/Record -/
def k7 : Class := { plain "java/lang/Record" (some 0) with
  accessFlags := 1057
  interfaces := #[]
  cf := some (fileOf pool7 7 #[] #[{ accessFlags := 4, nameIndex := 5, descriptorIndex := 6, attributes := #[] }] 1057 2 #[] #[])
  fields := #[]
  methods := #[k7m0]
  instanceTypes := #[]
  staticTypes := #[]
  resolved := Array.replicate 22 none
  statics := none }

def pool8 : Array CpInfo := pool [(2, .class_ 4), (1, u "java/lang/Record"), (3, u "actor"), (7, u "unit"), (1, u "algorithm"), (1, u "scope"), (1, .class_ 24), (1, u "com/example/throttle/throttle/model/Rule"), (0, u "maxRpu"), (0, u "(Lcom/example/throttle/throttle/model/Unit;)J"), (12, u "Ljava/lang/String;"), (2, u "Lcom/example/throttle/throttle/model/Unit;"), (2, u "rpu"), (0, u "J"), (2, u "Lcom/example/throttle/throttle/model/Algorithm;"), (2, u "Lcom/example/throttle/throttle/model/Scope;"), (0, .long 9223372036854775807), (1, .methodref 56 57), (0, .class_ 58), (0, .nameAndType 59 60), (0, u "com/example/throttle/throttle/model/Unit"), (0, u "length"), (0, u "()Ljava/time/Duration;"), (0, .methodref 62 63), (0, .class_ 64), (0, .nameAndType 65 66), (0, u "java/time/Duration"), (0, u "toMillis"), (0, u "()J"), (34, u "ALL")] 50

def k8c0 : Code := { maxStack := 4, maxLocals := 1, code := prog_4_method_2_code, exceptionTable := #[], attributes := #[] }
def k8m0 : Method := { name := "maxRpu", desc := "(Lcom/example/throttle/throttle/model/Unit;)J", sig := { parameters := [(.object "com/example/throttle/throttle/model/Unit")], returnType := some .long }, accessFlags := 9, code := some k8c0 }
/-- com/example/throttle/throttle/model/Rule -/
def k8 : Class := { plain "com/example/throttle/throttle/model/Rule" (some 7) with
  accessFlags := 49
  interfaces := #[]
  cf := some (fileOf pool8 22 #[] #[{ accessFlags := 9, nameIndex := 25, descriptorIndex := 26, attributes := #[] }] 49 2 #[] #[{ accessFlags := 18, nameIndex := 8, descriptorIndex := 39, attributes := #[] }, { accessFlags := 18, nameIndex := 16, descriptorIndex := 42, attributes := #[] }, { accessFlags := 18, nameIndex := 45, descriptorIndex := 46, attributes := #[] }, { accessFlags := 18, nameIndex := 18, descriptorIndex := 49, attributes := #[] }, { accessFlags := 18, nameIndex := 20, descriptorIndex := 52, attributes := #[] }, { accessFlags := 25, nameIndex := 101, descriptorIndex := 39, attributes := #[] }])
  fields := #[{ name := "actor", type := (.object "java/lang/String"), accessFlags := 18, slot := 0, constantValue := 0 }, { name := "unit", type := (.object "com/example/throttle/throttle/model/Unit"), accessFlags := 18, slot := 1, constantValue := 0 }, { name := "rpu", type := .long, accessFlags := 18, slot := 2, constantValue := 0 }, { name := "algorithm", type := (.object "com/example/throttle/throttle/model/Algorithm"), accessFlags := 18, slot := 3, constantValue := 0 }, { name := "scope", type := (.object "com/example/throttle/throttle/model/Scope"), accessFlags := 18, slot := 4, constantValue := 0 }, { name := "ALL", type := (.object "java/lang/String"), accessFlags := 25, slot := 0, constantValue := 0 }]
  methods := #[k8m0]
  instanceTypes := #[(.object "java/lang/String"), (.object "com/example/throttle/throttle/model/Unit"), .long, (.object "com/example/throttle/throttle/model/Algorithm"), (.object "com/example/throttle/throttle/model/Scope")]
  staticTypes := #[(.object "java/lang/String")]
  resolved := Array.replicate 152 none
  statics := none }

def pool9 : Array CpInfo := pool [(1, .class_ 2), (0, u "java/time/temporal/TemporalAmount"), (0, .class_ 4), (0, u "java/lang/Object")] 11

/-- java/time/temporal/TemporalAmount -/
def k9 : Class := { plain "java/time/temporal/TemporalAmount" (some 0) with
  accessFlags := 1537
  interfaces := #[]
  cf := some (fileOf pool9 1 #[] #[] 1537 3 #[] #[])
  fields := #[]
  methods := #[]
  instanceTypes := #[]
  staticTypes := #[]
  resolved := Array.replicate 16 none
  statics := none }

def pool10 : Array CpInfo := pool [(4, .methodref 5 6), (0, .class_ 7), (0, .nameAndType 8 9), (0, u "java/lang/Math"), (0, u "multiplyExact"), (0, u "(JI)J"), (1, .class_ 13), (1, u "java/time/Duration"), (7, u "(JJ)J"), (0, .methodref 5 23), (0, .nameAndType 24 21), (0, u "addExact"), (9, u "ZERO"), (0, u "Ljava/time/Duration;"), (13, .class_ 51), (1, u "java/time/temporal/TemporalAmount"), (27, .class_ 81), (1, u "java/time/Duration$Lazy"), (35, u "seconds"), (101, .class_ 220), (0, u "java/lang/Object"), (0, .fieldref 11 222), (0, .nameAndType 117 223), (0, u "J"), (0, .fieldref 11 225), (0, .nameAndType 226 227), (0, u "nanos"), (0, u "I"), (11, .class_ 241), (1, u "java/time/Duration$DurationUnits"), (9, u "()J"), (17, .class_ 271), (1, u "java/time/Duration$1"), (22, .long 1000000), (68, u "BI_NANOS_PER_SECOND"), (0, u "Ljava/math/BigInteger;"), (120, .class_ 486), (0, u "java/lang/Comparable"), (0, .class_ 488), (0, u "java/io/Serializable"), (0, u "serialVersionUID"), (111, u "toMillis")] 54

def k10c0 : Code := { maxStack := 6, maxLocals := 7, code := jdk_2316_method_57_code, exceptionTable := #[], attributes := #[] }
def k10m0 : Method := { name := "toMillis", desc := "()J", sig := { parameters := [], returnType := some .long }, accessFlags := 1, code := some k10c0 }
/-- java/time/Duration -/
def k10 : Class := { plain "java/time/Duration" (some 0) with
  accessFlags := 49
  interfaces := #[9, 3, 4]
  cf := some (fileOf pool10 11 #[.nestMembers #[269, 239, 79]] #[{ accessFlags := 1, nameIndex := 601, descriptorIndex := 251, attributes := #[] }] 49 219 #[49, 485, 487] #[{ accessFlags := 25, nameIndex := 34, descriptorIndex := 35, attributes := #[] }, { accessFlags := 26, nameIndex := 489, descriptorIndex := 223, attributes := #[] }, { accessFlags := 26, nameIndex := 363, descriptorIndex := 364, attributes := #[] }, { accessFlags := 18, nameIndex := 117, descriptorIndex := 223, attributes := #[] }, { accessFlags := 18, nameIndex := 226, descriptorIndex := 227, attributes := #[] }])
  fields := #[{ name := "ZERO", type := (.object "java/time/Duration"), accessFlags := 25, slot := 0, constantValue := 0 }, { name := "serialVersionUID", type := .long, accessFlags := 26, slot := 1, constantValue := 0 }, { name := "BI_NANOS_PER_SECOND", type := (.object "java/math/BigInteger"), accessFlags := 26, slot := 2, constantValue := 0 }, { name := "seconds", type := .long, accessFlags := 18, slot := 0, constantValue := 0 }, { name := "nanos", type := .int, accessFlags := 18, slot := 1, constantValue := 0 }]
  methods := #[k10m0]
  instanceTypes := #[.long, .int]
  staticTypes := #[(.object "java/time/Duration"), .long, (.object "java/math/BigInteger")]
  resolved := Array.replicate 656 none
  statics := none }

def pool11 : Array CpInfo := pool [(1, .class_ 2), (0, u "java/lang/Math"), (1, .class_ 6), (1, u "java/lang/Object"), (0, u "<init>"), (0, u "()V"), (89, .class_ 100), (1, u "java/lang/Math$RandomNumberGeneratorHolder"), (17, .methodref 1 119), (0, .nameAndType 120 121), (0, u "multiplyExact"), (0, u "(JJ)J"), (0, .methodref 1 123), (0, .nameAndType 124 125), (0, u "abs"), (0, u "(J)J"), (46, u "negativeZeroFloatBits"), (0, u "J"), (2, u "negativeZeroDoubleBits"), (68, u "$assertionsDisabled"), (0, u "Z"), (91, u "twoToTheDoubleScaleDown"), (0, u "D"), (4, u "twoToTheDoubleScaleUp"), (9, u "E"), (3, u "PI"), (2, u "TAU"), (2, u "DEGREES_TO_RADIANS"), (0, u "RADIANS_TO_DEGREES"), (27, u "addExact"), (1, u "(JI)J")] 64

def k11m0 : Method := { name := "<init>", desc := "()V", sig := { parameters := [], returnType := none }, accessFlags := 2, code := none }
def k11c1 : Code := { maxStack := 6, maxLocals := 6, code := jdk_29_method_25_code, exceptionTable := #[], attributes := #[] }
def k11m1 : Method := { name := "addExact", desc := "(JJ)J", sig := { parameters := [.long, .long], returnType := some .long }, accessFlags := 9, code := some k11c1 }
def k11c2 : Code := { maxStack := 4, maxLocals := 3, code := jdk_29_method_29_code, exceptionTable := #[], attributes := #[] }
def k11m2 : Method := { name := "multiplyExact", desc := "(JI)J", sig := { parameters := [.long, .int], returnType := some .long }, accessFlags := 9, code := some k11c2 }
def k11c3 : Code := { maxStack := 4, maxLocals := 10, code := jdk_29_method_30_code, exceptionTable := #[], attributes := #[] }
def k11m3 : Method := { name := "multiplyExact", desc := "(JJ)J", sig := { parameters := [.long, .long], returnType := some .long }, accessFlags := 9, code := some k11c3 }
def k11c4 : Code := { maxStack := 4, maxLocals := 2, code := jdk_29_method_61_code, exceptionTable := #[], attributes := #[] }
def k11m4 : Method := { name := "abs", desc := "(J)J", sig := { parameters := [.long], returnType := some .long }, accessFlags := 9, code := some k11c4 }
/-- java/lang/Math -/
def k11 : Class := { plain "java/lang/Math" (some 0) with
  accessFlags := 49
  interfaces := #[]
  cf := some (fileOf pool11 1 #[.nestMembers #[98]] #[{ accessFlags := 2, nameIndex := 7, descriptorIndex := 8, attributes := #[] }, { accessFlags := 9, nameIndex := 393, descriptorIndex := 121, attributes := #[] }, { accessFlags := 9, nameIndex := 120, descriptorIndex := 395, attributes := #[] }, { accessFlags := 9, nameIndex := 120, descriptorIndex := 121, attributes := #[] }, { accessFlags := 9, nameIndex := 124, descriptorIndex := 125, attributes := #[] }] 49 4 #[] #[{ accessFlags := 25, nameIndex := 354, descriptorIndex := 339, attributes := #[] }, { accessFlags := 25, nameIndex := 358, descriptorIndex := 339, attributes := #[] }, { accessFlags := 25, nameIndex := 361, descriptorIndex := 339, attributes := #[] }, { accessFlags := 26, nameIndex := 364, descriptorIndex := 339, attributes := #[] }, { accessFlags := 26, nameIndex := 365, descriptorIndex := 339, attributes := #[] }, { accessFlags := 26, nameIndex := 172, descriptorIndex := 173, attributes := #[] }, { accessFlags := 26, nameIndex := 176, descriptorIndex := 173, attributes := #[] }, { accessFlags := 8, nameIndex := 344, descriptorIndex := 339, attributes := #[] }, { accessFlags := 8, nameIndex := 338, descriptorIndex := 339, attributes := #[] }, { accessFlags := 4120, nameIndex := 245, descriptorIndex := 246, attributes := #[] }])
  fields := #[{ name := "E", type := .double, accessFlags := 25, slot := 0, constantValue := 0 }, { name := "PI", type := .double, accessFlags := 25, slot := 1, constantValue := 0 }, { name := "TAU", type := .double, accessFlags := 25, slot := 2, constantValue := 0 }, { name := "DEGREES_TO_RADIANS", type := .double, accessFlags := 26, slot := 3, constantValue := 0 }, { name := "RADIANS_TO_DEGREES", type := .double, accessFlags := 26, slot := 4, constantValue := 0 }, { name := "negativeZeroFloatBits", type := .long, accessFlags := 26, slot := 5, constantValue := 0 }, { name := "negativeZeroDoubleBits", type := .long, accessFlags := 26, slot := 6, constantValue := 0 }, { name := "twoToTheDoubleScaleUp", type := .double, accessFlags := 8, slot := 7, constantValue := 0 }, { name := "twoToTheDoubleScaleDown", type := .double, accessFlags := 8, slot := 8, constantValue := 0 }, { name := "$assertionsDisabled", type := .boolean, accessFlags := 4120, slot := 9, constantValue := 0 }]
  methods := #[k11m0, k11m1, k11m2, k11m3, k11m4]
  instanceTypes := #[]
  staticTypes := #[.double, .double, .double, .double, .double, .long, .long, .double, .double, .boolean]
  resolved := Array.replicate 460 none
  statics := none }

def pool12 : Array CpInfo := pool [(1, u "java/lang/Cloneable"), (0, .class_ 1), (0, u "java/lang/Object"), (0, .class_ 3)] 3

/-- java/lang/Cloneable -/
def k12 : Class := { plain "java/lang/Cloneable" (some 0) with
  accessFlags := 1537
  interfaces := #[]
  cf := some (fileOf pool12 2 #[] #[] 1537 4 #[] #[])
  fields := #[]
  methods := #[]
  instanceTypes := #[]
  staticTypes := #[]
  resolved := Array.replicate 8 none
  statics := none }

/-- the primitive byte -/
def k13 : Class := { plain "byte" none with kind := .primitive 'B', accessFlags := 0x411 }
/-- [B -/
def k14 : Class := { plain "[B" (some 0) with kind := .array 13 .byte, interfaces := #[12, 4], accessFlags := 1041 }

/-- the primitive int -/
def k15 : Class := { plain "int" none with kind := .primitive 'I', accessFlags := 0x411 }
/-- [I -/
def k16 : Class := { plain "[I" (some 0) with kind := .array 15 .int, interfaces := #[12, 4], accessFlags := 1041 }

def heap : Heap := #[{ cls := 6, slots := #[.ref 5, .ref 6, .ref 7, .ref 8, .null], vm := .statics 6 },
  { cls := 10, slots := #[.long 1, .int 0], vm := .none },
  { cls := 10, slots := #[.long 60, .int 0], vm := .none },
  { cls := 10, slots := #[.long 3600, .int 0], vm := .none },
  { cls := 10, slots := #[.long 86400, .int 0], vm := .none },
  { cls := 6, slots := #[.null, .int 0, .int 0, .null, .ref 1], vm := .none },
  { cls := 6, slots := #[.null, .int 1, .int 0, .null, .ref 2], vm := .none },
  { cls := 6, slots := #[.null, .int 2, .int 0, .null, .ref 3], vm := .none },
  { cls := 6, slots := #[.null, .int 3, .int 0, .null, .ref 4], vm := .none }]
def classes : Array Class := #[k0, k1, k2, k3, k4, k5, k6, k7, k8, k9, k10, k11, k12, k13, k14, k15, k16]
def interned : List (Array UInt16 × Addr) := []
def slotsUsed : Nat := 33
def theMethod : MethodId := ⟨1, 1⟩
def args0 : Array Value := #[.int 5]
def aboutOver (below : List Frame) : State where
  vm := { classes := classes, interned := interned.toArray }
  heap := heap
  slotsUsed := slotsUsed
  threads := #[{ frames := .invoking theMethod args0 :: below }]
def below0 : List Frame := [.native { method := ⟨0, 0⟩, args := #[] }]
def about1 : State := aboutOver below0
def p0 : Program := .bare "" "" ""
def e0 : Env := launch0.env 0 0 0
theorem w_frames : about1.frames = Frame.invoking theMethod args0 :: below0 := rfl
set_option maxRecDepth 65536 in
theorem w_args : argsFit about1.vm theMethod args0 = true := by decide +kernel
set_option maxRecDepth 65536 in
theorem w_heap : heapFits about1 = true := by decide +kernel
set_option maxRecDepth 65536 in
theorem w_runnable : about1.curStatus? = some .runnable := by decide +kernel
set_option maxRecDepth 65536 in
theorem w_alone : about1.alone = true := by decide +kernel
set_option maxRecDepth 65536 in
theorem w_named : about1.methodNamed? x = some theMethod := by decide +kernel
set_option maxRecDepth 65536 in
theorem w_hears : about1.hears theMethod below0 = true := by decide +kernel
set_option maxRecDepth 65536 in
theorem w_ripe : about1.ripe theMethod args0 below0 = true := by decide +kernel
theorem w_running : about1.status = .running := rfl
set_option maxRecDepth 65536 in
theorem w_room : about1.hasRoom e0.platform room_1 = true :=
  launch0.hasRoom_least _ room_1 (by decide +kernel) (by decide +kernel) (by decide +kernel) (by decide +kernel) (by decide +kernel) (by decide +kernel)
theorem allAtoms_all (ts : List Jvm.Cond) (a : Array Jvm.Value) (st : Jvm.State) : (allAtoms ts).before a st = ts.all (fun c => c.before a st) := by
  induction ts with
  | nil => rfl
  | cons c t ih =>
    show (Jvm.Cond.and c (allAtoms t)).before a st = _
    rw [Jvm.Cond.before_and, ih, List.all_cons]
def words1 : List Jvm.Cond := Jvm.Cond.code x code maxLocals ret :: tables_1
/-- a 'code' word, met by the world's own term for the bytes: nothing is compared byte by byte -/
theorem code_word {y : MethodName} {bytes : ByteArray} {mx : Nat} {rt : Option FieldType} {a : Array Value} {s : State} {m : MethodId} {meth : Method} {c : Code} (h1 : s.methodNamed? y = some m) (h2 : s.vm.method? m = some meth) (h3 : meth.code = some c) (h4 : c.code = bytes)
    (h5 : (c.maxLocals == mx && c.exceptionTable.isEmpty && decide (c.maxStack ≤ mostOperands) && decide (meth.sig.returnType = rt) && !meth.locks && decide (parseMethodDescriptor y.desc = some meth.sig)) = true) : (Jvm.Cond.code y bytes mx rt).before a s = true := by
  simp only [Bool.and_eq_true, beq_iff_eq, Bool.not_eq_true', decide_eq_true_eq] at h5
  obtain ⟨⟨⟨⟨⟨g1, g2⟩, g3⟩, g4⟩, g5⟩, g6⟩ := h5
  simp [Cond.before, Cond.holds, Cond.value, h1, h2, h3, h4, g1, g2, g3, g4, g5, g6]
def isCode : Jvm.Cond → Bool
  | .code _ _ _ _ => true
  | _ => false
theorem all_split {L : List Jvm.Cond} {P : Jvm.Cond → Bool} (h1 : L.all (fun c => isCode c || P c) = true) (h2 : ∀ c ∈ L.filter isCode, P c = true) : L.all P = true := by
  refine List.all_eq_true.mpr fun c hc => ?_
  have h := List.all_eq_true.mp h1 c hc
  rcases Bool.eq_false_or_eq_true (isCode c) with hi | hi
  · exact h2 c (List.mem_filter.mpr ⟨hc, hi⟩)
  · simpa [hi] using h
set_option maxRecDepth 65536 in
theorem w_c0 : (Jvm.Cond.code x code maxLocals ret).before args0 about1 = true := code_word (m := ⟨1, 1⟩) (meth := k1m1) (c := k1c1) (by decide +kernel) rfl rfl rfl (by decide +kernel)
set_option maxRecDepth 65536 in
theorem w_c1 : (Jvm.Cond.code ({ cls := "com/example/throttle/throttle/model/Rule", name := "maxRpu", desc := "(Lcom/example/throttle/throttle/model/Unit;)J" } : Jvm.MethodName) prog_4_method_2_code (1 : Nat) (Option.some Jvm.ClassFile.FieldType.long)).before args0 about1 = true := code_word (m := ⟨8, 0⟩) (meth := k8m0) (c := k8c0) (by decide +kernel) rfl rfl rfl (by decide +kernel)
set_option maxRecDepth 65536 in
theorem w_c2 : (Jvm.Cond.code ({ cls := "com/example/throttle/throttle/model/Unit", name := "length", desc := "()Ljava/time/Duration;" } : Jvm.MethodName) prog_8_method_5_code (1 : Nat) (Option.some (Jvm.ClassFile.FieldType.object "java/time/Duration"))).before args0 about1 = true := code_word (m := ⟨6, 0⟩) (meth := k6m0) (c := k6c0) (by decide +kernel) rfl rfl rfl (by decide +kernel)
set_option maxRecDepth 65536 in
theorem w_c3 : (Jvm.Cond.code ({ cls := "java/time/Duration", name := "toMillis", desc := "()J" } : Jvm.MethodName) jdk_2316_method_57_code (7 : Nat) (Option.some Jvm.ClassFile.FieldType.long)).before args0 about1 = true := code_word (m := ⟨10, 0⟩) (meth := k10m0) (c := k10c0) (by decide +kernel) rfl rfl rfl (by decide +kernel)
set_option maxRecDepth 65536 in
theorem w_c4 : (Jvm.Cond.code ({ cls := "java/lang/Math", name := "multiplyExact", desc := "(JI)J" } : Jvm.MethodName) jdk_29_method_29_code (3 : Nat) (Option.some Jvm.ClassFile.FieldType.long)).before args0 about1 = true := code_word (m := ⟨11, 2⟩) (meth := k11m2) (c := k11c2) (by decide +kernel) rfl rfl rfl (by decide +kernel)
set_option maxRecDepth 65536 in
theorem w_c5 : (Jvm.Cond.code ({ cls := "java/lang/Math", name := "multiplyExact", desc := "(JJ)J" } : Jvm.MethodName) jdk_29_method_30_code (10 : Nat) (Option.some Jvm.ClassFile.FieldType.long)).before args0 about1 = true := code_word (m := ⟨11, 3⟩) (meth := k11m3) (c := k11c3) (by decide +kernel) rfl rfl rfl (by decide +kernel)
set_option maxRecDepth 65536 in
theorem w_c6 : (Jvm.Cond.code ({ cls := "java/lang/Math", name := "abs", desc := "(J)J" } : Jvm.MethodName) jdk_29_method_61_code (2 : Nat) (Option.some Jvm.ClassFile.FieldType.long)).before args0 about1 = true := code_word (m := ⟨11, 4⟩) (meth := k11m4) (c := k11c4) (by decide +kernel) rfl rfl rfl (by decide +kernel)
set_option maxRecDepth 65536 in
theorem w_c7 : (Jvm.Cond.code ({ cls := "java/lang/Math", name := "addExact", desc := "(JJ)J" } : Jvm.MethodName) jdk_29_method_25_code (6 : Nat) (Option.some Jvm.ClassFile.FieldType.long)).before args0 about1 = true := code_word (m := ⟨11, 1⟩) (meth := k11m1) (c := k11c1) (by decide +kernel) rfl rfl rfl (by decide +kernel)
def codes1 : List Jvm.Cond := [Jvm.Cond.code x code maxLocals ret, Jvm.Cond.code ({ cls := "com/example/throttle/throttle/model/Rule", name := "maxRpu", desc := "(Lcom/example/throttle/throttle/model/Unit;)J" } : Jvm.MethodName) prog_4_method_2_code (1 : Nat) (Option.some Jvm.ClassFile.FieldType.long), Jvm.Cond.code ({ cls := "com/example/throttle/throttle/model/Unit", name := "length", desc := "()Ljava/time/Duration;" } : Jvm.MethodName) prog_8_method_5_code (1 : Nat) (Option.some (Jvm.ClassFile.FieldType.object "java/time/Duration")), Jvm.Cond.code ({ cls := "java/time/Duration", name := "toMillis", desc := "()J" } : Jvm.MethodName) jdk_2316_method_57_code (7 : Nat) (Option.some Jvm.ClassFile.FieldType.long), Jvm.Cond.code ({ cls := "java/lang/Math", name := "multiplyExact", desc := "(JI)J" } : Jvm.MethodName) jdk_29_method_29_code (3 : Nat) (Option.some Jvm.ClassFile.FieldType.long), Jvm.Cond.code ({ cls := "java/lang/Math", name := "multiplyExact", desc := "(JJ)J" } : Jvm.MethodName) jdk_29_method_30_code (10 : Nat) (Option.some Jvm.ClassFile.FieldType.long), Jvm.Cond.code ({ cls := "java/lang/Math", name := "abs", desc := "(J)J" } : Jvm.MethodName) jdk_29_method_61_code (2 : Nat) (Option.some Jvm.ClassFile.FieldType.long), Jvm.Cond.code ({ cls := "java/lang/Math", name := "addExact", desc := "(JJ)J" } : Jvm.MethodName) jdk_29_method_25_code (6 : Nat) (Option.some Jvm.ClassFile.FieldType.long)]
set_option maxRecDepth 65536 in
theorem codes_eq : words1.filter isCode = codes1 := rfl
theorem w_codes : ∀ c ∈ words1.filter isCode, c.before args0 about1 = true := by
  rw [codes_eq]
  intro c hc
  simp only [codes1, List.mem_cons, List.not_mem_nil, or_false] at hc
  rcases hc with rfl | rfl | rfl | rfl | rfl | rfl | rfl | rfl
  · exact w_c0
  · exact w_c1
  · exact w_c2
  · exact w_c3
  · exact w_c4
  · exact w_c5
  · exact w_c6
  · exact w_c7
set_option maxRecDepth 65536 in
theorem w_t1 : (words1.take 24).all (fun c => isCode c || c.before args0 about1) = true := by decide +kernel
set_option maxRecDepth 65536 in
theorem w_t2 : ((words1.drop 24).take 24).all (fun c => isCode c || c.before args0 about1) = true := by decide +kernel
set_option maxRecDepth 65536 in
theorem w_t3 : ((words1.drop 24).drop 24).all (fun c => isCode c || c.before args0 about1) = true := by decide +kernel
theorem w_tables : (allAtoms (Jvm.Cond.code x code maxLocals ret :: tables_1)).before args0 about1 = true := by
  rw [allAtoms_all]
  show words1.all (fun c => c.before args0 about1) = true
  refine all_split ?_ w_codes
  rw [← List.take_append_drop 24 words1, List.all_append, w_t1, ← List.take_append_drop 24 (words1.drop 24), List.all_append, w_t2, w_t3]
  rfl
set_option maxRecDepth 65536 in
theorem w_case : (Jvm.Cond.and given_1 narrow_1).before args0 about1 = true := by decide +kernel
theorem w_applies : (headSpec (Jvm.Cond.code x code maxLocals ret :: tables_1) room_1).applies x e0.platform about1 = true :=
  (Spec.applies_iff w_frames).mpr ⟨w_running, w_runnable, w_alone, w_named, w_hears, w_ripe, w_room, w_tables⟩
theorem atStart : AtStart classFile x code maxLocals ret World_1 tables_1 room_1 Calls_1 rest_1 Pre_1 launch0 p0 e0 about1 theMethod args0 below0 :=
  ⟨lists_1, trivial, launch0.admits_env _ _ _, launch0.least_env, fairChoices_fair.cas, fairChoices_fair.clock, w_frames, w_args, w_heap, w_applies, trivial, trivial, w_case⟩
end start1
theorem witness_1 : WitnessClaimed_1 := ⟨start1.p0, start1.e0, start1.about1, start1.theMethod, start1.args0, start1.below0, start1.atStart⟩
end Jvm.Pilot.@@N@@
