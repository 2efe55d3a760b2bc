import JvmDerived
import JvmDerived.Pilot.@@N@@Statement
import JvmDerived.Pilot.@@N@@Code
set_option linter.unusedVariables false
set_option linter.unusedSimpArgs false
@@BLOCK:NumsL.lean.txt@@
namespace Jvm.RoadKit
open Sem ClassFile Op Lib Jvm.Stand Jvm.Free Jvm.LawKit
section New
variable {p : Program} {l : Launch} {e : Env} {R : Room} {s : State} {m : MethodId} {args : Array Value} {below : List Frame} {meth : Method} {c : Code} {T : State} {locs : List Loc} {cells slots : Nat}
theorem retI (X : Stand p l e R s m args below meth c T locs cells slots) (hx : p.tables.exec = Jvm.exec) {pc : Nat} {Ls : Array Slot} {z : Int32} {rest : List Value} (hret : meth.sig.returnType = some .int) (hd : decode c.code pc = .ok (.ireturn, 1)) {fs : List Frame}
    (hl : ∀ (f : JFrame) (acts : List Action), f.method = m → f.locked = none → f.entered = [] → (doReturn e (T.setTop f) acts (some (.int z))).1 = T.setFrames fs) : Steps p.tables e below (T.setTop (mkF m pc Ls (.int z :: rest))) (T.setFrames fs) := by
  have hm' : T.vm.method? m = some meth := X.method'
  have hn : narrow .int (.int z) = .int z := rfl
  show Steps p.tables e below (T.setTop { method := m, pc := pc, locals := Ls, stack := _ :: rest, locked := none }) _
  jvm_step X.here [X.here.top, hx, hd, hm', hret, hn]
  first | (intro acts; rw [hl _ acts rfl rfl rfl]) | rw [hl _ _ rfl rfl rfl]
  exact Steps.refl _
end New
end Jvm.RoadKit
namespace Jvm.Pilot.@@N@@
open Jvm Jvm.ClassFile Sem Op Lib Jvm.Free Jvm.Stand Jvm.LawKit Jvm.RoadKit Bundle Jvm.Pilot.@@N@@.Jvm.D

theorem own_k (x : Int32) : ((x &&& 2147483647) % 3) = 0 ∨ ((x &&& 2147483647) % 3) = 1 ∨ ((x &&& 2147483647) % 3) = 2 := by
  have e1 : (x &&& 2147483647).toInt = x.toInt % 2 ^ 31 := Jvm.Kit.i32_mask x 2147483647 (by decide) (by decide)
  have e2 : ((x &&& 2147483647) % 3).toInt = (x &&& 2147483647).toInt % 3 := Jvm.Kit.i32_rem_nonneg (by omega)
  have e3 : ((x &&& 2147483647) % 3).toInt = 0 ∨ ((x &&& 2147483647) % 3).toInt = 1 ∨ ((x &&& 2147483647) % 3).toInt = 2 := by omega
  generalize ((x &&& 2147483647) % 3) = k at e3 ⊢
  simp only [← Int32.toInt_inj]
  exact e3
theorem d1_0 : decode prog_8_method_1_code 0 = .ok (.aload_n 0, 1) := by decide +kernel
theorem d1_1 : decode prog_8_method_1_code 1 = .ok (.invokespecial 3, 3) := by decide +kernel
theorem d1_4 : decode prog_8_method_1_code 4 = .ok (.aload_n 0, 1) := by decide +kernel
theorem d1_5 : decode prog_8_method_1_code 5 = .ok (.iconst 1, 1) := by decide +kernel
theorem d1_6 : decode prog_8_method_1_code 6 = .ok (.anewarray 9, 3) := by decide +kernel
theorem d1_9 : decode prog_8_method_1_code 9 = .ok (.putfield 11, 3) := by decide +kernel
theorem d1_12 : decode prog_8_method_1_code 12 = .ok (.return_, 1) := by decide +kernel
theorem pn_ChunkedLongs : plainName "com/example/frigg/frigg/ChunkedLongs" = true := by first | (simp [plainName, overriddenIn]; done) | decide +kernel
theorem ef_1 (m : MethodId) (x0 : Addr) : entryFrame m #[(.ref x0)] 1 = mkF m 0 #[.val (.ref x0)] [] := by first | (simp [entryFrame, mkF, argsToLocals, Value.category]; done) | rfl
def Q1 (Z : State) (a1 : Addr) (h0 : Heap) (n0 : Nat) (v : Option Value) (h : Heap) (L : List Loc) : Prop := v = none ∧ Fr n0 L ∧ ∃ (c1 : Addr) (kc : ClassId), Exa Z h a1 "com/example/frigg/frigg/ChunkedLongs" ∧ Fld Z h a1 "com/example/frigg/frigg/ChunkedLongs" "chunks" "[[J" (.ref c1) ∧ Fld Z h a1 "com/example/frigg/frigg/ChunkedLongs" "size" "I" (.int (0 : Int32)) ∧ Arv Z h c1 kc (.array .long) (1 : Int32) [] .null ∧ OvrA Z kc .long "[J" ∧ n0 ≤ c1 ∧ a1 ≠ c1 ∧ n0 ≤ h.size
set_option maxRecDepth 65536 in
set_option maxHeartbeats 40000000 in
theorem rm1 (l : Launch) (Z : State) (a0 : Array Value) (hw : ∀ d ∈ tables_1, d.before a0 Z = true) (ws : List Jvm.Cond) (a1 : Addr) (h0 : Heap) (n0 : Nat) (Z0 : n0 ≤ h0.size) (E_a : Exa Z h0 a1 "com/example/frigg/frigg/ChunkedLongs") (F_ch : Fld Z h0 a1 "com/example/frigg/frigg/ChunkedLongs" "chunks" "[[J" .null) (F_sz : Fld Z h0 a1 "com/example/frigg/frigg/ChunkedLongs" "size" "I" (.int (0 : Int32))) (g_a : n0 ≤ a1) :
    MetFree l (⟨"com/example/frigg/frigg/ChunkedLongs", "<init>", "()V"⟩ : MethodName) (head1 (Jvm.Cond.code (⟨"com/example/frigg/frigg/ChunkedLongs", "<init>", "()V"⟩ : MethodName) prog_8_method_1_code 1 none :: ws) ({ frames := 1, cells := 1, slots := 1, locals := 12 } : Room)) (fun a U => a = #[(.ref a1)] ∧ Z.Warmed39 U.vm ∧ U.heap = h0) (fun _ _ _ _ _ => True) (fun _ U o U' => ∃ v L, o = .returned v ∧ Q1 Z a1 h0 n0 v U'.heap L ∧ FrameEnd U o U' L ({ frames := 1, cells := 1, slots := 1, locals := 12 } : Room).cells ({ frames := 1, cells := 1, slots := 1, locals := 12 } : Room).slots) := by
  refine MetFree.of_bodySF (plainFor_of_name pn_ChunkedLongs) hisR ?_
  intro p e s m args below meth c s₁ Bd hml0 hP hK
  obtain ⟨rfl, hZ, hh⟩ := hP
  have hx := Bd.exec
  have hby := Bd.bytes
  have hml : c.maxLocals = 1 := hml0
  have hown : s.vm.findClass "com/example/frigg/frigg/ChunkedLongs" = some m.cls := findClass_of_methodNamed Bd.named
  have hnm := (name_of_methodNamed Bd.named Bd.method).1
  have X0 : Stand p l e ({ frames := 1, cells := 1, slots := 1, locals := 12 } : Room) s m #[(.ref a1)] below meth c s₁ [] 0 0 := Stand.of_body Bd
  have e0 : s₁.heap = h0 := by rw [← hh, Bd.state]; rfl
  have N0 := Fr.nil n0
  have pre0 : ∀ t, Steps p.tables e below (s₁.setTop (mkF m 0 #[.val (.ref a1)] [])) t → Steps p.tables e below (s₁.setTop (entryFrame m #[(.ref a1)] 1)) t := fun t k => castTop (ef_1 m a1) k
  obtain ⟨T1, X1, e1, st1⟩ := initO X0 hx hZ hown (hw _ (List.mem_of_getElem? (i := 6) rfl)) (hw _ (List.mem_of_getElem? (i := 7) rfl)) (hw _ (List.mem_of_getElem? (i := 8) rfl)) e0 (g := (mkF m 1 #[.val (.ref a1)] [(.ref a1)])) rfl (by rw [hml]; rfl) rfl (hb hby d1_1) (by decide) (W := 0) (by show 2 * 0 + _ ≤ _; exact Nat.le_of_eq rfl) (by decide)
  obtain ⟨T2, h2, k2, X2, e2, E2, A2, Y2, O2, st2⟩ := newRA X1 hx hZ hown (ty := .long) rfl (hw _ (List.mem_of_getElem? (i := 9) rfl)) (hw _ (List.mem_of_getElem? (i := 10) rfl)) e1 (g := (mkF m 6 #[.val (.ref a1)] [(.int (1 : Int32)), (.ref a1)])) rfl (hb hby d1_6) rfl (by decide) (cap := 1) (by decide) (by decide) (by decide) (by decide) rfl
  obtain ⟨b2, g2⟩ : ∃ z, z = h0.size := ⟨_, rfl⟩
  rw [← g2] at A2 st2 Y2
  have fr_b2 : n0 ≤ b2 := Nat.le_trans Z0 (Nat.le_of_eq g2.symm)
  have ne_a1_b2 : a1 ≠ b2 := Nat.ne_of_lt (Nat.lt_of_lt_of_le E_a.lt (Nat.le_of_eq g2.symm))
  have f2_6 : Exa Z h2 a1 "com/example/frigg/frigg/ChunkedLongs" := E_a.ext E2
  have f2_7 : Fld Z h2 a1 "com/example/frigg/frigg/ChunkedLongs" "chunks" "[[J" .null := F_ch.ext E2
  have f2_8 : Fld Z h2 a1 "com/example/frigg/frigg/ChunkedLongs" "size" "I" (.int (0 : Int32)) := F_sz.ext E2
  have Z2 : n0 ≤ h2.size := Nat.le_trans Z0 E2.1
  have f2_10 : Exa Z h2 b2 "[[J" := Y2
  have f2_11 : Arv Z h2 b2 k2 (.array .long) (1 : Int32) [] .null := Arv.new A2 (by decide)
  obtain ⟨T3, h3, X3, e3, W3, st3⟩ := putF X2 hx hZ hown (host := "") (Or.inl (hw _ (List.mem_of_getElem? (i := 11) rfl))) Via.refl e2 f2_7 f2_6 (Or.inl (hw _ (List.mem_of_getElem? (i := 12) rfl))) (hw _ (List.mem_of_getElem? (i := 1) rfl)) (ty := (.array (.array .long))) (by decide) rfl rfl (g := (mkF m 9 #[.val (.ref a1)] [(.ref b2), (.ref a1)])) rfl rfl (hb hby d1_9)
  have f3_13 : Exa Z h3 a1 "com/example/frigg/frigg/ChunkedLongs" := f2_6.wr W3
  have f3_14 : Fld Z h3 a1 "com/example/frigg/frigg/ChunkedLongs" "size" "I" (.int (0 : Int32)) := Fld.other W3 f2_8 (Or.inr (slot_ne (Or.inl (hw _ (List.mem_of_getElem? (i := 19) rfl))) (Or.inl (hw _ (List.mem_of_getElem? (i := 12) rfl))) (by decide) (t := .int) (t' := (.array (.array .long))) (by decide) (by decide)))
  have f3_15 : Exa Z h3 b2 "[[J" := f2_10.wr W3
  have f3_16 : Arv Z h3 b2 k2 (.array .long) (1 : Int32) [] .null := f2_11.other W3 (Ne.symm ne_a1_b2)
  have Z3 : n0 ≤ h3.size := by rw [W3.size]; exact Z2
  have f3_18 : Fld Z h3 a1 "com/example/frigg/frigg/ChunkedLongs" "chunks" "[[J" (.ref b2) := Fld.same W3 f2_7
  have N3 := Fr.snoc X3 N0 g_a
  obtain ⟨fs, hr, hrun, hended, hW, hsame⟩ := X3.leave (v := none) (fun _ => rfl)
  refine ⟨_, _, pre0 _ ?_, hrun, hended, _, _, rfl, ?_, ⟨_, rfl⟩, hW, hsame.mono (by decide) (by decide)⟩
  · show Steps p.tables e below (s₁.setTop (mkF m 0 #[.val (.ref a1)] [])) _
    refine XS.aloadN X0.here hx rfl (hb hby d1_0) rfl rfl ?_
    show Steps p.tables e below (s₁.setTop (mkF m 1 #[.val (.ref a1)] [(.ref a1)])) _
    refine st1 _ ?_
    show Steps p.tables e below (T1.setTop (mkF m 4 #[.val (.ref a1)] [])) _
    refine XS.aloadN X1.here hx rfl (hb hby d1_4) rfl rfl ?_
    show Steps p.tables e below (T1.setTop (mkF m 5 #[.val (.ref a1)] [(.ref a1)])) _
    refine XS.iconst X1.here hx rfl (hb hby d1_5) ?_
    show Steps p.tables e below (T1.setTop (mkF m 6 #[.val (.ref a1)] [(.int (1 : Int32)), (.ref a1)])) _
    refine st2 _ ?_
    show Steps p.tables e below (T2.setTop (mkF m 9 #[.val (.ref a1)] [(.ref b2), (.ref a1)])) _
    refine st3 _ ?_
    show Steps p.tables e below (T3.setTop (mkF m 12 #[.val (.ref a1)] [])) _
    exact X3.returnOut hx Bd.returns (hb hby d1_12) hr
  · show Q1 Z a1 h0 n0 _ T3.heap _
    rw [e3]
    exact ⟨rfl, N3, b2, k2, f3_13, f3_18, f3_14, f3_16, O2, fr_b2, ne_a1_b2, Z3⟩
theorem d3_0 : decode prog_8_method_5_code 0 = .ok (.aload_n 0, 1) := by decide +kernel
theorem d3_1 : decode prog_8_method_5_code 1 = .ok (.getfield 15, 3) := by decide +kernel
theorem d3_4 : decode prog_8_method_5_code 4 = .ok (.bipush 15, 2) := by decide +kernel
theorem d3_6 : decode prog_8_method_5_code 6 = .ok (.iushr, 1) := by decide +kernel
theorem d3_7 : decode prog_8_method_5_code 7 = .ok (.istore_n 3, 1) := by decide +kernel
theorem d3_8 : decode prog_8_method_5_code 8 = .ok (.aload_n 0, 1) := by decide +kernel
theorem d3_9 : decode prog_8_method_5_code 9 = .ok (.getfield 15, 3) := by decide +kernel
theorem d3_12 : decode prog_8_method_5_code 12 = .ok (.sipush 32767, 3) := by decide +kernel
theorem d3_15 : decode prog_8_method_5_code 15 = .ok (.iand, 1) := by decide +kernel
theorem d3_16 : decode prog_8_method_5_code 16 = .ok (.ifCond .ne 43, 3) := by decide +kernel
theorem d3_19 : decode prog_8_method_5_code 19 = .ok (.iload_n 3, 1) := by decide +kernel
theorem d3_20 : decode prog_8_method_5_code 20 = .ok (.aload_n 0, 1) := by decide +kernel
theorem d3_21 : decode prog_8_method_5_code 21 = .ok (.getfield 11, 3) := by decide +kernel
theorem d3_24 : decode prog_8_method_5_code 24 = .ok (.arraylength, 1) := by decide +kernel
theorem d3_25 : decode prog_8_method_5_code 25 = .ok (.if_icmp .ne 24, 3) := by decide +kernel
theorem d3_28 : decode prog_8_method_5_code 28 = .ok (.aload_n 0, 1) := by decide +kernel
theorem d3_29 : decode prog_8_method_5_code 29 = .ok (.aload_n 0, 1) := by decide +kernel
theorem d3_30 : decode prog_8_method_5_code 30 = .ok (.getfield 11, 3) := by decide +kernel
theorem d3_33 : decode prog_8_method_5_code 33 = .ok (.iconst 2, 1) := by decide +kernel
theorem d3_34 : decode prog_8_method_5_code 34 = .ok (.aload_n 0, 1) := by decide +kernel
theorem d3_35 : decode prog_8_method_5_code 35 = .ok (.getfield 11, 3) := by decide +kernel
theorem d3_38 : decode prog_8_method_5_code 38 = .ok (.arraylength, 1) := by decide +kernel
theorem d3_39 : decode prog_8_method_5_code 39 = .ok (.imul, 1) := by decide +kernel
theorem d3_40 : decode prog_8_method_5_code 40 = .ok (.invokestatic 19, 3) := by decide +kernel
theorem d3_43 : decode prog_8_method_5_code 43 = .ok (.checkcast 25, 3) := by decide +kernel
theorem d3_46 : decode prog_8_method_5_code 46 = .ok (.putfield 11, 3) := by decide +kernel
theorem d3_49 : decode prog_8_method_5_code 49 = .ok (.aload_n 0, 1) := by decide +kernel
theorem d3_50 : decode prog_8_method_5_code 50 = .ok (.getfield 11, 3) := by decide +kernel
theorem d3_53 : decode prog_8_method_5_code 53 = .ok (.iload_n 3, 1) := by decide +kernel
theorem d3_54 : decode prog_8_method_5_code 54 = .ok (.ldc 26, 2) := by decide +kernel
theorem d3_56 : decode prog_8_method_5_code 56 = .ok (.newarray .long, 2) := by decide +kernel
theorem d3_58 : decode prog_8_method_5_code 58 = .ok (.aastore, 1) := by decide +kernel
theorem d3_59 : decode prog_8_method_5_code 59 = .ok (.aload_n 0, 1) := by decide +kernel
theorem d3_60 : decode prog_8_method_5_code 60 = .ok (.getfield 11, 3) := by decide +kernel
theorem d3_63 : decode prog_8_method_5_code 63 = .ok (.iload_n 3, 1) := by decide +kernel
theorem d3_64 : decode prog_8_method_5_code 64 = .ok (.aaload, 1) := by decide +kernel
theorem d3_65 : decode prog_8_method_5_code 65 = .ok (.aload_n 0, 1) := by decide +kernel
theorem d3_66 : decode prog_8_method_5_code 66 = .ok (.getfield 15, 3) := by decide +kernel
theorem d3_69 : decode prog_8_method_5_code 69 = .ok (.sipush 32767, 3) := by decide +kernel
theorem d3_72 : decode prog_8_method_5_code 72 = .ok (.iand, 1) := by decide +kernel
theorem d3_73 : decode prog_8_method_5_code 73 = .ok (.lload_n 1, 1) := by decide +kernel
theorem d3_74 : decode prog_8_method_5_code 74 = .ok (.lastore, 1) := by decide +kernel
theorem d3_75 : decode prog_8_method_5_code 75 = .ok (.aload_n 0, 1) := by decide +kernel
theorem d3_76 : decode prog_8_method_5_code 76 = .ok (.dup, 1) := by decide +kernel
theorem d3_77 : decode prog_8_method_5_code 77 = .ok (.getfield 15, 3) := by decide +kernel
theorem d3_80 : decode prog_8_method_5_code 80 = .ok (.iconst 1, 1) := by decide +kernel
theorem d3_81 : decode prog_8_method_5_code 81 = .ok (.iadd, 1) := by decide +kernel
theorem d3_82 : decode prog_8_method_5_code 82 = .ok (.putfield 15, 3) := by decide +kernel
theorem d3_85 : decode prog_8_method_5_code 85 = .ok (.return_, 1) := by decide +kernel
theorem ef_3 (m : MethodId) (x0 : Addr) (x1 : Int64) : entryFrame m #[(.ref x0), (.long x1)] 4 = mkF m 0 #[.val (.ref x0), .val (.long x1), .second, .unset] [] := by first | (simp [entryFrame, mkF, argsToLocals, Value.category]; done) | rfl
def Q3_0 (Z : State) (a1 : Addr) (q1 : Int64) (c1 : Addr) (kc : ClassId) (h0 : Heap) (n0 : Nat) (v : Option Value) (h : Heap) (L : List Loc) : Prop := v = none ∧ Fr n0 L ∧ ∃ (k1 : Addr) (kk : ClassId), Exa Z h a1 "com/example/frigg/frigg/ChunkedLongs" ∧ Fld Z h a1 "com/example/frigg/frigg/ChunkedLongs" "chunks" "[[J" (.ref c1) ∧ Fld Z h a1 "com/example/frigg/frigg/ChunkedLongs" "size" "I" (.int (1 : Int32)) ∧ Arv Z h c1 kc (.array .long) (1 : Int32) [(.ref k1)] .null ∧ Arv Z h k1 kk .long (32768 : Int32) [(.long q1)] (.long (0 : Int64)) ∧ n0 ≤ k1 ∧ a1 ≠ k1 ∧ c1 ≠ k1 ∧ n0 ≤ h.size
set_option maxRecDepth 65536 in
set_option maxHeartbeats 40000000 in
theorem rm3_0 (l : Launch) (Z : State) (a0 : Array Value) (hw : ∀ d ∈ tables_1, d.before a0 Z = true) (ws : List Jvm.Cond) (a1 : Addr) (q1 : Int64) (c1 : Addr) (kc : ClassId) (h0 : Heap) (n0 : Nat) (Z0 : n0 ≤ h0.size) (E_a : Exa Z h0 a1 "com/example/frigg/frigg/ChunkedLongs") (F_ch : Fld Z h0 a1 "com/example/frigg/frigg/ChunkedLongs" "chunks" "[[J" (.ref c1)) (F_sz : Fld Z h0 a1 "com/example/frigg/frigg/ChunkedLongs" "size" "I" (.int (0 : Int32))) (V_c : Arv Z h0 c1 kc (.array .long) (1 : Int32) [] .null) (O_c : OvrA Z kc .long "[J") (g_a : n0 ≤ a1) (g_c : n0 ≤ c1) (n_ac : a1 ≠ c1) :
    MetFree l (⟨"com/example/frigg/frigg/ChunkedLongs", "add", "(J)V"⟩ : MethodName) (head1 (Jvm.Cond.code (⟨"com/example/frigg/frigg/ChunkedLongs", "add", "(J)V"⟩ : MethodName) prog_8_method_5_code 4 none :: ws) ({ frames := 0, cells := 1, slots := 32768, locals := 0 } : Room)) (fun a U => a = #[(.ref a1), (.long q1)] ∧ Z.Warmed39 U.vm ∧ U.heap = h0) (fun _ _ _ _ _ => True) (fun _ U o U' => ∃ v L, o = .returned v ∧ Q3_0 Z a1 q1 c1 kc h0 n0 v U'.heap L ∧ FrameEnd U o U' L ({ frames := 0, cells := 1, slots := 32768, locals := 0 } : Room).cells ({ frames := 0, cells := 1, slots := 32768, locals := 0 } : Room).slots) := by
  refine MetFree.of_bodySF (plainFor_of_name pn_ChunkedLongs) hisR ?_
  intro p e s m args below meth c s₁ Bd hml0 hP hK
  obtain ⟨rfl, hZ, hh⟩ := hP
  have hx := Bd.exec
  have hby := Bd.bytes
  have hml : c.maxLocals = 4 := hml0
  have hown : s.vm.findClass "com/example/frigg/frigg/ChunkedLongs" = some m.cls := findClass_of_methodNamed Bd.named
  have hnm := (name_of_methodNamed Bd.named Bd.method).1
  have X0 : Stand p l e ({ frames := 0, cells := 1, slots := 32768, locals := 0 } : Room) s m #[(.ref a1), (.long q1)] below meth c s₁ [] 0 0 := Stand.of_body Bd
  have e0 : s₁.heap = h0 := by rw [← hh, Bd.state]; rfl
  have N0 := Fr.nil n0
  have pre0 : ∀ t, Steps p.tables e below (s₁.setTop (mkF m 0 #[.val (.ref a1), .val (.long q1), .second, .unset] [])) t → Steps p.tables e below (s₁.setTop (entryFrame m #[(.ref a1), (.long q1)] 4)) t := fun t k => castTop (ef_3 m a1 q1) k
  obtain ⟨T1, X1, e1, st1⟩ := getF X0 hx hZ hown (host := "") (Or.inl (hw _ (List.mem_of_getElem? (i := 18) rfl))) Via.refl e0 F_sz (g := (mkF m 1 #[.val (.ref a1), .val (.long q1), .second, .unset] [(.ref a1)])) rfl rfl (hb hby d3_1)
  obtain ⟨T2, X2, e2, st2⟩ := getF X1 hx hZ hown (host := "") (Or.inl (hw _ (List.mem_of_getElem? (i := 18) rfl))) Via.refl e1 F_sz (g := (mkF m 9 #[.val (.ref a1), .val (.long q1), .second, .val (.int (0 : Int32))] [(.ref a1)])) rfl rfl (hb hby d3_9)
  obtain ⟨T3, X3, e3, st3⟩ := getF X2 hx hZ hown (host := "") (Or.inl (hw _ (List.mem_of_getElem? (i := 11) rfl))) Via.refl e2 F_ch (g := (mkF m 21 #[.val (.ref a1), .val (.long q1), .second, .val (.int (0 : Int32))] [(.ref a1), (.int (0 : Int32))])) rfl rfl (hb hby d3_21)
  obtain ⟨cll3, Arl3, ql3, Sl3, Ml3, Hl3, Gl3⟩ := id V_c
  obtain ⟨T4, X4, e4, st4⟩ := getF X3 hx hZ hown (host := "") (Or.inl (hw _ (List.mem_of_getElem? (i := 11) rfl))) Via.refl e3 F_ch (g := (mkF m 50 #[.val (.ref a1), .val (.long q1), .second, .val (.int (0 : Int32))] [(.ref a1)])) rfl rfl (hb hby d3_50)
  obtain ⟨T5, h5, k5, X5, e5, E5, A5, Y5, st5⟩ := newPE X4 hx hZ (hw _ (List.mem_of_getElem? (i := 21) rfl)) e4 (g := (mkF m 56 #[.val (.ref a1), .val (.long q1), .second, .val (.int (0 : Int32))] [(.int (32768 : Int32)), (.int (0 : Int32)), (.ref c1)])) rfl (hb hby d3_56) rfl (by decide) (cap := 32768) (by decide) (by decide) (by decide) (by decide) rfl
  obtain ⟨b5, g5⟩ : ∃ z, z = h0.size := ⟨_, rfl⟩
  rw [← g5] at A5 st5 Y5
  have fr_b5 : n0 ≤ b5 := Nat.le_trans Z0 (Nat.le_of_eq g5.symm)
  have ne_a1_b5 : a1 ≠ b5 := Nat.ne_of_lt (Nat.lt_of_lt_of_le E_a.lt (Nat.le_of_eq g5.symm))
  have ne_c1_b5 : c1 ≠ b5 := Nat.ne_of_lt (Nat.lt_of_lt_of_le V_c.lt (Nat.le_of_eq g5.symm))
  have f5_11 : Exa Z h5 a1 "com/example/frigg/frigg/ChunkedLongs" := E_a.ext E5
  have f5_12 : Fld Z h5 a1 "com/example/frigg/frigg/ChunkedLongs" "chunks" "[[J" (.ref c1) := F_ch.ext E5
  have f5_13 : Fld Z h5 a1 "com/example/frigg/frigg/ChunkedLongs" "size" "I" (.int (0 : Int32)) := F_sz.ext E5
  have f5_14 : Arv Z h5 c1 kc (.array .long) (1 : Int32) [] .null := V_c.ext E5
  have Z5 : n0 ≤ h5.size := Nat.le_trans Z0 E5.1
  have f5_16 : Exa Z h5 b5 "[J" := Y5
  have f5_17 : Arv Z h5 b5 k5 .long (32768 : Int32) [] (.long (0 : Int64)) := Arv.new A5 (by decide)
  have pad18 : Arv Z h5 c1 kc (.array .long) (1 : Int32) [.null] .null := Arv.pad f5_14 (pad_rep [] .null 1)
  obtain ⟨cls19, Ars19, qs19, Ss19, Ms19, Hs19, Gs19⟩ := id pad18
  obtain ⟨T6, h6, X6, e6, W6, st6⟩ := stR X5 hx hZ e5 Ars19 (j := (0 : Int32)) (inb_of Ss19 ⟨by decide, by decide⟩) rfl (Sto.ofVA Ars19 qs19 O_c (Ins.self f5_16)) (g := (mkF m 58 #[.val (.ref a1), .val (.long q1), .second, .val (.int (0 : Int32))] [(.ref b5), (.int (0 : Int32)), (.ref c1)])) rfl rfl (hb hby d3_58)
  have f6_21 : Exa Z h6 a1 "com/example/frigg/frigg/ChunkedLongs" := f5_11.wr W6
  have f6_22 : Fld Z h6 a1 "com/example/frigg/frigg/ChunkedLongs" "chunks" "[[J" (.ref c1) := Fld.other W6 f5_12 (Or.inl n_ac)
  have f6_23 : Fld Z h6 a1 "com/example/frigg/frigg/ChunkedLongs" "size" "I" (.int (0 : Int32)) := Fld.other W6 f5_13 (Or.inl n_ac)
  have f6_24 : Exa Z h6 b5 "[J" := f5_16.wr W6
  have f6_25 : Arv Z h6 b5 k5 .long (32768 : Int32) [] (.long (0 : Int64)) := f5_17.other W6 (Ne.symm ne_c1_b5)
  have Z6 : n0 ≤ h6.size := by rw [W6.size]; exact Z5
  have f6_27 : Arv Z h6 c1 kc (.array .long) (1 : Int32) [(.ref b5)] .null := Arv.set Ars19 qs19 Ss19 Ms19 Hs19 Gs19 rfl W6 0 rfl (Nat.le_of_ble_eq_true rfl)
  have N6 := Fr.snoc X6 N0 g_c
  obtain ⟨T7, X7, e7, st7⟩ := getF X6 hx hZ hown (host := "") (Or.inl (hw _ (List.mem_of_getElem? (i := 11) rfl))) Via.refl e6 f6_22 (g := (mkF m 60 #[.val (.ref a1), .val (.long q1), .second, .val (.int (0 : Int32))] [(.ref a1)])) rfl rfl (hb hby d3_60)
  obtain ⟨clr30, Arr30, qr30, Sr30, Mr30, Hr30, Gr30⟩ := id f6_27
  obtain ⟨T8, X8, e8, st8⟩ := getF X7 hx hZ hown (host := "") (Or.inl (hw _ (List.mem_of_getElem? (i := 18) rfl))) Via.refl e7 f6_23 (g := (mkF m 66 #[.val (.ref a1), .val (.long q1), .second, .val (.int (0 : Int32))] [(.ref a1), (.ref b5)])) rfl rfl (hb hby d3_66)
  have pad32 : Arv Z h6 b5 k5 .long (32768 : Int32) [(.long (0 : Int64))] (.long (0 : Int64)) := Arv.pad f6_25 (pad_rep [] (.long (0 : Int64)) 1)
  obtain ⟨cls33, Ars33, qs33, Ss33, Ms33, Hs33, Gs33⟩ := id pad32
  obtain ⟨T9, h9, X9, e9, W9, st9⟩ := stJ X8 hx hZ e8 Ars33 (j := (0 : Int32)) (inb_of Ss33 ⟨by decide, by decide⟩) (g := (mkF m 74 #[.val (.ref a1), .val (.long q1), .second, .val (.int (0 : Int32))] [(.long q1), (.int (0 : Int32)), (.ref b5)])) rfl rfl (hb hby d3_74)
  have f9_35 : Exa Z h9 a1 "com/example/frigg/frigg/ChunkedLongs" := f6_21.wr W9
  have f9_36 : Fld Z h9 a1 "com/example/frigg/frigg/ChunkedLongs" "chunks" "[[J" (.ref c1) := Fld.other W9 f6_22 (Or.inl ne_a1_b5)
  have f9_37 : Fld Z h9 a1 "com/example/frigg/frigg/ChunkedLongs" "size" "I" (.int (0 : Int32)) := Fld.other W9 f6_23 (Or.inl ne_a1_b5)
  have f9_38 : Arv Z h9 c1 kc (.array .long) (1 : Int32) [(.ref b5)] .null := f6_27.other W9 ne_c1_b5
  have f9_39 : Exa Z h9 b5 "[J" := f6_24.wr W9
  have Z9 : n0 ≤ h9.size := by rw [W9.size]; exact Z6
  have f9_41 : Arv Z h9 b5 k5 .long (32768 : Int32) [(.long q1)] (.long (0 : Int64)) := Arv.set Ars33 qs33 Ss33 Ms33 Hs33 Gs33 rfl W9 0 rfl (Nat.le_of_ble_eq_true rfl)
  have N9 := Fr.snoc X9 N6 fr_b5
  obtain ⟨T10, X10, e10, st10⟩ := getF X9 hx hZ hown (host := "") (Or.inl (hw _ (List.mem_of_getElem? (i := 18) rfl))) Via.refl e9 f9_37 (g := (mkF m 77 #[.val (.ref a1), .val (.long q1), .second, .val (.int (0 : Int32))] [(.ref a1), (.ref a1)])) rfl rfl (hb hby d3_77)
  obtain ⟨T11, h11, X11, e11, W11, st11⟩ := putF X10 hx hZ hown (host := "") (Or.inl (hw _ (List.mem_of_getElem? (i := 18) rfl))) Via.refl e10 f9_37 f9_35 (Or.inl (hw _ (List.mem_of_getElem? (i := 19) rfl))) (hw _ (List.mem_of_getElem? (i := 1) rfl)) (ty := .int) (by decide) rfl rfl (g := (mkF m 82 #[.val (.ref a1), .val (.long q1), .second, .val (.int (0 : Int32))] [(.int (1 : Int32)), (.ref a1)])) rfl rfl (hb hby d3_82)
  have f11_45 : Exa Z h11 a1 "com/example/frigg/frigg/ChunkedLongs" := f9_35.wr W11
  have f11_46 : Fld Z h11 a1 "com/example/frigg/frigg/ChunkedLongs" "chunks" "[[J" (.ref c1) := Fld.other W11 f9_36 (Or.inr (slot_ne (Or.inl (hw _ (List.mem_of_getElem? (i := 12) rfl))) (Or.inl (hw _ (List.mem_of_getElem? (i := 19) rfl))) (by decide) (t := (.array (.array .long))) (t' := .int) (by decide) (by decide)))
  have f11_47 : Arv Z h11 c1 kc (.array .long) (1 : Int32) [(.ref b5)] .null := f9_38.other W11 (Ne.symm n_ac)
  have f11_48 : Exa Z h11 b5 "[J" := f9_39.wr W11
  have f11_49 : Arv Z h11 b5 k5 .long (32768 : Int32) [(.long q1)] (.long (0 : Int64)) := f9_41.other W11 (Ne.symm ne_a1_b5)
  have Z11 : n0 ≤ h11.size := by rw [W11.size]; exact Z9
  have f11_51 : Fld Z h11 a1 "com/example/frigg/frigg/ChunkedLongs" "size" "I" (.int (1 : Int32)) := Fld.same W11 f9_37
  have N11 := Fr.snoc X11 N9 g_a
  obtain ⟨fs, hr, hrun, hended, hW, hsame⟩ := X11.leave (v := none) (fun _ => rfl)
  refine ⟨_, _, pre0 _ ?_, hrun, hended, _, _, rfl, ?_, ⟨_, rfl⟩, hW, hsame.mono (by decide) (by decide)⟩
  · show Steps p.tables e below (s₁.setTop (mkF m 0 #[.val (.ref a1), .val (.long q1), .second, .unset] [])) _
    refine XS.aloadN X0.here hx rfl (hb hby d3_0) rfl rfl ?_
    show Steps p.tables e below (s₁.setTop (mkF m 1 #[.val (.ref a1), .val (.long q1), .second, .unset] [(.ref a1)])) _
    refine st1 _ ?_
    show Steps p.tables e below (T1.setTop (mkF m 4 #[.val (.ref a1), .val (.long q1), .second, .unset] [(.int (0 : Int32))])) _
    refine XS.bipush X1.here hx rfl (hb hby d3_4) ?_
    show Steps p.tables e below (T1.setTop (mkF m 6 #[.val (.ref a1), .val (.long q1), .second, .unset] [(.int (15 : Int32)), (.int (0 : Int32))])) _
    refine XS.iushr X1.here hx rfl (hb hby d3_6) rfl ?_
    show Steps p.tables e below (T1.setTop (mkF m 7 #[.val (.ref a1), .val (.long q1), .second, .unset] [(.int (((0 : Int32).toUInt32 >>> ((15 : Int32) &&& 31).toUInt32).toInt32))])) _
    rw [show (((0 : Int32).toUInt32 >>> ((15 : Int32) &&& 31).toUInt32).toInt32) = (0 : Int32) from by decide +kernel]
    show Steps p.tables e below (T1.setTop (mkF m 7 #[.val (.ref a1), .val (.long q1), .second, .unset] [(.int (0 : Int32))])) _
    refine XS.istoreN X1.here hx rfl (hb hby d3_7) rfl (l' := #[.val (.ref a1), .val (.long q1), .second, .val (.int (0 : Int32))]) rfl ?_
    show Steps p.tables e below (T1.setTop (mkF m 8 #[.val (.ref a1), .val (.long q1), .second, .val (.int (0 : Int32))] [])) _
    refine XS.aloadN X1.here hx rfl (hb hby d3_8) rfl rfl ?_
    show Steps p.tables e below (T1.setTop (mkF m 9 #[.val (.ref a1), .val (.long q1), .second, .val (.int (0 : Int32))] [(.ref a1)])) _
    refine st2 _ ?_
    show Steps p.tables e below (T2.setTop (mkF m 12 #[.val (.ref a1), .val (.long q1), .second, .val (.int (0 : Int32))] [(.int (0 : Int32))])) _
    refine XS.sipush X2.here hx rfl (hb hby d3_12) ?_
    show Steps p.tables e below (T2.setTop (mkF m 15 #[.val (.ref a1), .val (.long q1), .second, .val (.int (0 : Int32))] [(.int (32767 : Int32)), (.int (0 : Int32))])) _
    refine XS.iand X2.here hx rfl (hb hby d3_15) rfl ?_
    show Steps p.tables e below (T2.setTop (mkF m 16 #[.val (.ref a1), .val (.long q1), .second, .val (.int (0 : Int32))] [(.int ((0 : Int32) &&& (32767 : Int32)))])) _
    refine XS.ifNo X2.here hx rfl (hb hby d3_16) rfl ((if0 _ _).trans (teq (by decide +kernel)).2) ?_
    show Steps p.tables e below (T2.setTop (mkF m 19 #[.val (.ref a1), .val (.long q1), .second, .val (.int (0 : Int32))] [])) _
    refine XS.iloadN X2.here hx rfl (hb hby d3_19) rfl ?_
    show Steps p.tables e below (T2.setTop (mkF m 20 #[.val (.ref a1), .val (.long q1), .second, .val (.int (0 : Int32))] [(.int (0 : Int32))])) _
    refine XS.aloadN X2.here hx rfl (hb hby d3_20) rfl rfl ?_
    show Steps p.tables e below (T2.setTop (mkF m 21 #[.val (.ref a1), .val (.long q1), .second, .val (.int (0 : Int32))] [(.ref a1), (.int (0 : Int32))])) _
    refine st3 _ ?_
    show Steps p.tables e below (T3.setTop (mkF m 24 #[.val (.ref a1), .val (.long q1), .second, .val (.int (0 : Int32))] [(.ref c1), (.int (0 : Int32))])) _
    refine X3.arraylength hx (by rw [e3]; exact Arl3.1) (State.isArrayOf_alike hZ.alike Arl3.2.1) (g := (mkF m 24 #[.val (.ref a1), .val (.long q1), .second, .val (.int (0 : Int32))] [(.ref c1), (.int (0 : Int32))])) rfl rfl (hb hby d3_24) _ ?_
    rw [len_of Sl3 Ml3]
    show Steps p.tables e below (T3.setTop (mkF m 25 #[.val (.ref a1), .val (.long q1), .second, .val (.int (0 : Int32))] [(.int (1 : Int32)), (.int (0 : Int32))])) _
    refine XS.icmpYes X3.here hx rfl (pc0 := 25) (pc' := 49) rfl (hb hby d3_25) rfl (feq (by decide +kernel)).2 (by decide) (by decide) ?_
    show Steps p.tables e below (T3.setTop (mkF m 49 #[.val (.ref a1), .val (.long q1), .second, .val (.int (0 : Int32))] [])) _
    refine XS.aloadN X3.here hx rfl (hb hby d3_49) rfl rfl ?_
    show Steps p.tables e below (T3.setTop (mkF m 50 #[.val (.ref a1), .val (.long q1), .second, .val (.int (0 : Int32))] [(.ref a1)])) _
    refine st4 _ ?_
    show Steps p.tables e below (T4.setTop (mkF m 53 #[.val (.ref a1), .val (.long q1), .second, .val (.int (0 : Int32))] [(.ref c1)])) _
    refine XS.iloadN X4.here hx rfl (hb hby d3_53) rfl ?_
    show Steps p.tables e below (T4.setTop (mkF m 54 #[.val (.ref a1), .val (.long q1), .second, .val (.int (0 : Int32))] [(.int (0 : Int32)), (.ref c1)])) _
    refine X4.ldcInt hx hown (mvT hZ (hw _ (List.mem_of_getElem? (i := 20) rfl))) (g := (mkF m 54 #[.val (.ref a1), .val (.long q1), .second, .val (.int (0 : Int32))] [(.int (0 : Int32)), (.ref c1)])) rfl (hb hby d3_54) _ ?_
    show Steps p.tables e below (T4.setTop (mkF m 56 #[.val (.ref a1), .val (.long q1), .second, .val (.int (0 : Int32))] [(.int (32768 : Int32)), (.int (0 : Int32)), (.ref c1)])) _
    refine st5 _ ?_
    show Steps p.tables e below (T5.setTop (mkF m 58 #[.val (.ref a1), .val (.long q1), .second, .val (.int (0 : Int32))] [(.ref b5), (.int (0 : Int32)), (.ref c1)])) _
    refine st6 _ ?_
    show Steps p.tables e below (T6.setTop (mkF m 59 #[.val (.ref a1), .val (.long q1), .second, .val (.int (0 : Int32))] [])) _
    refine XS.aloadN X6.here hx rfl (hb hby d3_59) rfl rfl ?_
    show Steps p.tables e below (T6.setTop (mkF m 60 #[.val (.ref a1), .val (.long q1), .second, .val (.int (0 : Int32))] [(.ref a1)])) _
    refine st7 _ ?_
    show Steps p.tables e below (T7.setTop (mkF m 63 #[.val (.ref a1), .val (.long q1), .second, .val (.int (0 : Int32))] [(.ref c1)])) _
    refine XS.iloadN X7.here hx rfl (hb hby d3_63) rfl ?_
    show Steps p.tables e below (T7.setTop (mkF m 64 #[.val (.ref a1), .val (.long q1), .second, .val (.int (0 : Int32))] [(.int (0 : Int32)), (.ref c1)])) _
    refine X7.aaload hx (j := (0 : Int32)) (v := (.ref b5)) (by rw [e7]; exact Arr30.1) (State.isArrayOf_alike hZ.alike Arr30.2.1) rfl Arr30.2.2 (inb_of Sr30 ⟨by decide, by decide⟩) (Hr30.at (inb_of Sr30 ⟨by decide, by decide⟩) rfl) (g := (mkF m 64 #[.val (.ref a1), .val (.long q1), .second, .val (.int (0 : Int32))] [(.int (0 : Int32)), (.ref c1)])) rfl rfl (hb hby d3_64) _ ?_
    show Steps p.tables e below (T7.setTop (mkF m 65 #[.val (.ref a1), .val (.long q1), .second, .val (.int (0 : Int32))] [(.ref b5)])) _
    refine XS.aloadN X7.here hx rfl (hb hby d3_65) rfl rfl ?_
    show Steps p.tables e below (T7.setTop (mkF m 66 #[.val (.ref a1), .val (.long q1), .second, .val (.int (0 : Int32))] [(.ref a1), (.ref b5)])) _
    refine st8 _ ?_
    show Steps p.tables e below (T8.setTop (mkF m 69 #[.val (.ref a1), .val (.long q1), .second, .val (.int (0 : Int32))] [(.int (0 : Int32)), (.ref b5)])) _
    refine XS.sipush X8.here hx rfl (hb hby d3_69) ?_
    show Steps p.tables e below (T8.setTop (mkF m 72 #[.val (.ref a1), .val (.long q1), .second, .val (.int (0 : Int32))] [(.int (32767 : Int32)), (.int (0 : Int32)), (.ref b5)])) _
    refine XS.iand X8.here hx rfl (hb hby d3_72) rfl ?_
    show Steps p.tables e below (T8.setTop (mkF m 73 #[.val (.ref a1), .val (.long q1), .second, .val (.int (0 : Int32))] [(.int ((0 : Int32) &&& (32767 : Int32))), (.ref b5)])) _
    rw [show ((0 : Int32) &&& (32767 : Int32)) = (0 : Int32) from by decide +kernel]
    show Steps p.tables e below (T8.setTop (mkF m 73 #[.val (.ref a1), .val (.long q1), .second, .val (.int (0 : Int32))] [(.int (0 : Int32)), (.ref b5)])) _
    refine XS.lloadN X8.here hx rfl (hb hby d3_73) rfl ?_
    show Steps p.tables e below (T8.setTop (mkF m 74 #[.val (.ref a1), .val (.long q1), .second, .val (.int (0 : Int32))] [(.long q1), (.int (0 : Int32)), (.ref b5)])) _
    refine st9 _ ?_
    show Steps p.tables e below (T9.setTop (mkF m 75 #[.val (.ref a1), .val (.long q1), .second, .val (.int (0 : Int32))] [])) _
    refine XS.aloadN X9.here hx rfl (hb hby d3_75) rfl rfl ?_
    show Steps p.tables e below (T9.setTop (mkF m 76 #[.val (.ref a1), .val (.long q1), .second, .val (.int (0 : Int32))] [(.ref a1)])) _
    refine XS.dup X9.here hx rfl (hb hby d3_76) rfl rfl ?_
    show Steps p.tables e below (T9.setTop (mkF m 77 #[.val (.ref a1), .val (.long q1), .second, .val (.int (0 : Int32))] [(.ref a1), (.ref a1)])) _
    refine st10 _ ?_
    show Steps p.tables e below (T10.setTop (mkF m 80 #[.val (.ref a1), .val (.long q1), .second, .val (.int (0 : Int32))] [(.int (0 : Int32)), (.ref a1)])) _
    refine XS.iconst X10.here hx rfl (hb hby d3_80) ?_
    show Steps p.tables e below (T10.setTop (mkF m 81 #[.val (.ref a1), .val (.long q1), .second, .val (.int (0 : Int32))] [(.int (1 : Int32)), (.int (0 : Int32)), (.ref a1)])) _
    refine XS.iadd X10.here hx rfl (hb hby d3_81) rfl ?_
    show Steps p.tables e below (T10.setTop (mkF m 82 #[.val (.ref a1), .val (.long q1), .second, .val (.int (0 : Int32))] [(.int ((0 : Int32) + (1 : Int32))), (.ref a1)])) _
    rw [show ((0 : Int32) + (1 : Int32)) = (1 : Int32) from by decide +kernel]
    show Steps p.tables e below (T10.setTop (mkF m 82 #[.val (.ref a1), .val (.long q1), .second, .val (.int (0 : Int32))] [(.int (1 : Int32)), (.ref a1)])) _
    refine st11 _ ?_
    show Steps p.tables e below (T11.setTop (mkF m 85 #[.val (.ref a1), .val (.long q1), .second, .val (.int (0 : Int32))] [])) _
    exact X11.returnOut hx Bd.returns (hb hby d3_85) hr
  · show Q3_0 Z a1 q1 c1 kc h0 n0 _ T11.heap _
    rw [e11]
    exact ⟨rfl, N11, b5, k5, f11_45, f11_46, f11_51, f11_47, f11_49, fr_b5, ne_a1_b5, ne_c1_b5, Z11⟩
def Q3_1 (Z : State) (a1 : Addr) (q1 : Int64) (c1 k1 : Addr) (kc kk : ClassId) (x0 : Int64) (h0 : Heap) (n0 : Nat) (v : Option Value) (h : Heap) (L : List Loc) : Prop := v = none ∧ Fr n0 L ∧ Exa Z h a1 "com/example/frigg/frigg/ChunkedLongs" ∧ Fld Z h a1 "com/example/frigg/frigg/ChunkedLongs" "chunks" "[[J" (.ref c1) ∧ Fld Z h a1 "com/example/frigg/frigg/ChunkedLongs" "size" "I" (.int (2 : Int32)) ∧ Arv Z h c1 kc (.array .long) (1 : Int32) [(.ref k1)] .null ∧ Arv Z h k1 kk .long (32768 : Int32) [(.long x0), (.long q1)] (.long (0 : Int64)) ∧ n0 ≤ h.size
set_option maxRecDepth 65536 in
set_option maxHeartbeats 40000000 in
theorem rm3_1 (l : Launch) (Z : State) (a0 : Array Value) (hw : ∀ d ∈ tables_1, d.before a0 Z = true) (ws : List Jvm.Cond) (a1 : Addr) (q1 : Int64) (c1 k1 : Addr) (kc kk : ClassId) (x0 : Int64) (h0 : Heap) (n0 : Nat) (Z0 : n0 ≤ h0.size) (E_a : Exa Z h0 a1 "com/example/frigg/frigg/ChunkedLongs") (F_ch : Fld Z h0 a1 "com/example/frigg/frigg/ChunkedLongs" "chunks" "[[J" (.ref c1)) (F_sz : Fld Z h0 a1 "com/example/frigg/frigg/ChunkedLongs" "size" "I" (.int (1 : Int32))) (V_c : Arv Z h0 c1 kc (.array .long) (1 : Int32) [(.ref k1)] .null) (V_k : Arv Z h0 k1 kk .long (32768 : Int32) [(.long x0)] (.long (0 : Int64))) (g_a : n0 ≤ a1) (g_c : n0 ≤ c1) (g_k : n0 ≤ k1) (n_ac : a1 ≠ c1) (n_ak : a1 ≠ k1) (n_ck : c1 ≠ k1) :
    MetFree l (⟨"com/example/frigg/frigg/ChunkedLongs", "add", "(J)V"⟩ : MethodName) (head1 (Jvm.Cond.code (⟨"com/example/frigg/frigg/ChunkedLongs", "add", "(J)V"⟩ : MethodName) prog_8_method_5_code 4 none :: ws) ({ frames := 0, cells := 0, slots := 0, locals := 0 } : Room)) (fun a U => a = #[(.ref a1), (.long q1)] ∧ Z.Warmed39 U.vm ∧ U.heap = h0) (fun _ _ _ _ _ => True) (fun _ U o U' => ∃ v L, o = .returned v ∧ Q3_1 Z a1 q1 c1 k1 kc kk x0 h0 n0 v U'.heap L ∧ FrameEnd U o U' L ({ frames := 0, cells := 0, slots := 0, locals := 0 } : Room).cells ({ frames := 0, cells := 0, slots := 0, locals := 0 } : Room).slots) := by
  refine MetFree.of_bodySF (plainFor_of_name pn_ChunkedLongs) hisR ?_
  intro p e s m args below meth c s₁ Bd hml0 hP hK
  obtain ⟨rfl, hZ, hh⟩ := hP
  have hx := Bd.exec
  have hby := Bd.bytes
  have hml : c.maxLocals = 4 := hml0
  have hown : s.vm.findClass "com/example/frigg/frigg/ChunkedLongs" = some m.cls := findClass_of_methodNamed Bd.named
  have hnm := (name_of_methodNamed Bd.named Bd.method).1
  have X0 : Stand p l e ({ frames := 0, cells := 0, slots := 0, locals := 0 } : Room) s m #[(.ref a1), (.long q1)] below meth c s₁ [] 0 0 := Stand.of_body Bd
  have e0 : s₁.heap = h0 := by rw [← hh, Bd.state]; rfl
  have N0 := Fr.nil n0
  have pre0 : ∀ t, Steps p.tables e below (s₁.setTop (mkF m 0 #[.val (.ref a1), .val (.long q1), .second, .unset] [])) t → Steps p.tables e below (s₁.setTop (entryFrame m #[(.ref a1), (.long q1)] 4)) t := fun t k => castTop (ef_3 m a1 q1) k
  obtain ⟨T1, X1, e1, st1⟩ := getF X0 hx hZ hown (host := "") (Or.inl (hw _ (List.mem_of_getElem? (i := 18) rfl))) Via.refl e0 F_sz (g := (mkF m 1 #[.val (.ref a1), .val (.long q1), .second, .unset] [(.ref a1)])) rfl rfl (hb hby d3_1)
  obtain ⟨T2, X2, e2, st2⟩ := getF X1 hx hZ hown (host := "") (Or.inl (hw _ (List.mem_of_getElem? (i := 18) rfl))) Via.refl e1 F_sz (g := (mkF m 9 #[.val (.ref a1), .val (.long q1), .second, .val (.int (0 : Int32))] [(.ref a1)])) rfl rfl (hb hby d3_9)
  obtain ⟨T3, X3, e3, st3⟩ := getF X2 hx hZ hown (host := "") (Or.inl (hw _ (List.mem_of_getElem? (i := 11) rfl))) Via.refl e2 F_ch (g := (mkF m 60 #[.val (.ref a1), .val (.long q1), .second, .val (.int (0 : Int32))] [(.ref a1)])) rfl rfl (hb hby d3_60)
  obtain ⟨clr3, Arr3, qr3, Sr3, Mr3, Hr3, Gr3⟩ := id V_c
  obtain ⟨T4, X4, e4, st4⟩ := getF X3 hx hZ hown (host := "") (Or.inl (hw _ (List.mem_of_getElem? (i := 18) rfl))) Via.refl e3 F_sz (g := (mkF m 66 #[.val (.ref a1), .val (.long q1), .second, .val (.int (0 : Int32))] [(.ref a1), (.ref k1)])) rfl rfl (hb hby d3_66)
  have pad5 : Arv Z h0 k1 kk .long (32768 : Int32) [(.long x0), (.long (0 : Int64))] (.long (0 : Int64)) := Arv.pad V_k (pad_rep [(.long x0)] (.long (0 : Int64)) 1)
  obtain ⟨cls6, Ars6, qs6, Ss6, Ms6, Hs6, Gs6⟩ := id pad5
  obtain ⟨T5, h5, X5, e5, W5, st5⟩ := stJ X4 hx hZ e4 Ars6 (j := (1 : Int32)) (inb_of Ss6 ⟨by decide, by decide⟩) (g := (mkF m 74 #[.val (.ref a1), .val (.long q1), .second, .val (.int (0 : Int32))] [(.long q1), (.int (1 : Int32)), (.ref k1)])) rfl rfl (hb hby d3_74)
  have f5_8 : Exa Z h5 a1 "com/example/frigg/frigg/ChunkedLongs" := E_a.wr W5
  have f5_9 : Fld Z h5 a1 "com/example/frigg/frigg/ChunkedLongs" "chunks" "[[J" (.ref c1) := Fld.other W5 F_ch (Or.inl n_ak)
  have f5_10 : Fld Z h5 a1 "com/example/frigg/frigg/ChunkedLongs" "size" "I" (.int (1 : Int32)) := Fld.other W5 F_sz (Or.inl n_ak)
  have f5_11 : Arv Z h5 c1 kc (.array .long) (1 : Int32) [(.ref k1)] .null := V_c.other W5 n_ck
  have Z5 : n0 ≤ h5.size := by rw [W5.size]; exact Z0
  have f5_13 : Arv Z h5 k1 kk .long (32768 : Int32) [(.long x0), (.long q1)] (.long (0 : Int64)) := Arv.set Ars6 qs6 Ss6 Ms6 Hs6 Gs6 rfl W5 1 rfl (Nat.le_of_ble_eq_true rfl)
  have N5 := Fr.snoc X5 N0 g_k
  obtain ⟨T6, X6, e6, st6⟩ := getF X5 hx hZ hown (host := "") (Or.inl (hw _ (List.mem_of_getElem? (i := 18) rfl))) Via.refl e5 f5_10 (g := (mkF m 77 #[.val (.ref a1), .val (.long q1), .second, .val (.int (0 : Int32))] [(.ref a1), (.ref a1)])) rfl rfl (hb hby d3_77)
  obtain ⟨T7, h7, X7, e7, W7, st7⟩ := putF X6 hx hZ hown (host := "") (Or.inl (hw _ (List.mem_of_getElem? (i := 18) rfl))) Via.refl e6 f5_10 f5_8 (Or.inl (hw _ (List.mem_of_getElem? (i := 19) rfl))) (hw _ (List.mem_of_getElem? (i := 1) rfl)) (ty := .int) (by decide) rfl rfl (g := (mkF m 82 #[.val (.ref a1), .val (.long q1), .second, .val (.int (0 : Int32))] [(.int (2 : Int32)), (.ref a1)])) rfl rfl (hb hby d3_82)
  have f7_17 : Exa Z h7 a1 "com/example/frigg/frigg/ChunkedLongs" := f5_8.wr W7
  have f7_18 : Fld Z h7 a1 "com/example/frigg/frigg/ChunkedLongs" "chunks" "[[J" (.ref c1) := Fld.other W7 f5_9 (Or.inr (slot_ne (Or.inl (hw _ (List.mem_of_getElem? (i := 12) rfl))) (Or.inl (hw _ (List.mem_of_getElem? (i := 19) rfl))) (by decide) (t := (.array (.array .long))) (t' := .int) (by decide) (by decide)))
  have f7_19 : Arv Z h7 c1 kc (.array .long) (1 : Int32) [(.ref k1)] .null := f5_11.other W7 (Ne.symm n_ac)
  have f7_20 : Arv Z h7 k1 kk .long (32768 : Int32) [(.long x0), (.long q1)] (.long (0 : Int64)) := f5_13.other W7 (Ne.symm n_ak)
  have Z7 : n0 ≤ h7.size := by rw [W7.size]; exact Z5
  have f7_22 : Fld Z h7 a1 "com/example/frigg/frigg/ChunkedLongs" "size" "I" (.int (2 : Int32)) := Fld.same W7 f5_10
  have N7 := Fr.snoc X7 N5 g_a
  obtain ⟨fs, hr, hrun, hended, hW, hsame⟩ := X7.leave (v := none) (fun _ => rfl)
  refine ⟨_, _, pre0 _ ?_, hrun, hended, _, _, rfl, ?_, ⟨_, rfl⟩, hW, hsame.mono (by decide) (by decide)⟩
  · show Steps p.tables e below (s₁.setTop (mkF m 0 #[.val (.ref a1), .val (.long q1), .second, .unset] [])) _
    refine XS.aloadN X0.here hx rfl (hb hby d3_0) rfl rfl ?_
    show Steps p.tables e below (s₁.setTop (mkF m 1 #[.val (.ref a1), .val (.long q1), .second, .unset] [(.ref a1)])) _
    refine st1 _ ?_
    show Steps p.tables e below (T1.setTop (mkF m 4 #[.val (.ref a1), .val (.long q1), .second, .unset] [(.int (1 : Int32))])) _
    refine XS.bipush X1.here hx rfl (hb hby d3_4) ?_
    show Steps p.tables e below (T1.setTop (mkF m 6 #[.val (.ref a1), .val (.long q1), .second, .unset] [(.int (15 : Int32)), (.int (1 : Int32))])) _
    refine XS.iushr X1.here hx rfl (hb hby d3_6) rfl ?_
    show Steps p.tables e below (T1.setTop (mkF m 7 #[.val (.ref a1), .val (.long q1), .second, .unset] [(.int (((1 : Int32).toUInt32 >>> ((15 : Int32) &&& 31).toUInt32).toInt32))])) _
    rw [show (((1 : Int32).toUInt32 >>> ((15 : Int32) &&& 31).toUInt32).toInt32) = (0 : Int32) from by decide +kernel]
    show Steps p.tables e below (T1.setTop (mkF m 7 #[.val (.ref a1), .val (.long q1), .second, .unset] [(.int (0 : Int32))])) _
    refine XS.istoreN X1.here hx rfl (hb hby d3_7) rfl (l' := #[.val (.ref a1), .val (.long q1), .second, .val (.int (0 : Int32))]) rfl ?_
    show Steps p.tables e below (T1.setTop (mkF m 8 #[.val (.ref a1), .val (.long q1), .second, .val (.int (0 : Int32))] [])) _
    refine XS.aloadN X1.here hx rfl (hb hby d3_8) rfl rfl ?_
    show Steps p.tables e below (T1.setTop (mkF m 9 #[.val (.ref a1), .val (.long q1), .second, .val (.int (0 : Int32))] [(.ref a1)])) _
    refine st2 _ ?_
    show Steps p.tables e below (T2.setTop (mkF m 12 #[.val (.ref a1), .val (.long q1), .second, .val (.int (0 : Int32))] [(.int (1 : Int32))])) _
    refine XS.sipush X2.here hx rfl (hb hby d3_12) ?_
    show Steps p.tables e below (T2.setTop (mkF m 15 #[.val (.ref a1), .val (.long q1), .second, .val (.int (0 : Int32))] [(.int (32767 : Int32)), (.int (1 : Int32))])) _
    refine XS.iand X2.here hx rfl (hb hby d3_15) rfl ?_
    show Steps p.tables e below (T2.setTop (mkF m 16 #[.val (.ref a1), .val (.long q1), .second, .val (.int (0 : Int32))] [(.int ((1 : Int32) &&& (32767 : Int32)))])) _
    refine XS.ifYes X2.here hx rfl (pc0 := 16) (pc' := 59) rfl (hb hby d3_16) rfl ((if0 _ _).trans (feq (by decide +kernel)).2) (by decide) (by decide) ?_
    show Steps p.tables e below (T2.setTop (mkF m 59 #[.val (.ref a1), .val (.long q1), .second, .val (.int (0 : Int32))] [])) _
    refine XS.aloadN X2.here hx rfl (hb hby d3_59) rfl rfl ?_
    show Steps p.tables e below (T2.setTop (mkF m 60 #[.val (.ref a1), .val (.long q1), .second, .val (.int (0 : Int32))] [(.ref a1)])) _
    refine st3 _ ?_
    show Steps p.tables e below (T3.setTop (mkF m 63 #[.val (.ref a1), .val (.long q1), .second, .val (.int (0 : Int32))] [(.ref c1)])) _
    refine XS.iloadN X3.here hx rfl (hb hby d3_63) rfl ?_
    show Steps p.tables e below (T3.setTop (mkF m 64 #[.val (.ref a1), .val (.long q1), .second, .val (.int (0 : Int32))] [(.int (0 : Int32)), (.ref c1)])) _
    refine X3.aaload hx (j := (0 : Int32)) (v := (.ref k1)) (by rw [e3]; exact Arr3.1) (State.isArrayOf_alike hZ.alike Arr3.2.1) rfl Arr3.2.2 (inb_of Sr3 ⟨by decide, by decide⟩) (Hr3.at (inb_of Sr3 ⟨by decide, by decide⟩) rfl) (g := (mkF m 64 #[.val (.ref a1), .val (.long q1), .second, .val (.int (0 : Int32))] [(.int (0 : Int32)), (.ref c1)])) rfl rfl (hb hby d3_64) _ ?_
    show Steps p.tables e below (T3.setTop (mkF m 65 #[.val (.ref a1), .val (.long q1), .second, .val (.int (0 : Int32))] [(.ref k1)])) _
    refine XS.aloadN X3.here hx rfl (hb hby d3_65) rfl rfl ?_
    show Steps p.tables e below (T3.setTop (mkF m 66 #[.val (.ref a1), .val (.long q1), .second, .val (.int (0 : Int32))] [(.ref a1), (.ref k1)])) _
    refine st4 _ ?_
    show Steps p.tables e below (T4.setTop (mkF m 69 #[.val (.ref a1), .val (.long q1), .second, .val (.int (0 : Int32))] [(.int (1 : Int32)), (.ref k1)])) _
    refine XS.sipush X4.here hx rfl (hb hby d3_69) ?_
    show Steps p.tables e below (T4.setTop (mkF m 72 #[.val (.ref a1), .val (.long q1), .second, .val (.int (0 : Int32))] [(.int (32767 : Int32)), (.int (1 : Int32)), (.ref k1)])) _
    refine XS.iand X4.here hx rfl (hb hby d3_72) rfl ?_
    show Steps p.tables e below (T4.setTop (mkF m 73 #[.val (.ref a1), .val (.long q1), .second, .val (.int (0 : Int32))] [(.int ((1 : Int32) &&& (32767 : Int32))), (.ref k1)])) _
    rw [show ((1 : Int32) &&& (32767 : Int32)) = (1 : Int32) from by decide +kernel]
    show Steps p.tables e below (T4.setTop (mkF m 73 #[.val (.ref a1), .val (.long q1), .second, .val (.int (0 : Int32))] [(.int (1 : Int32)), (.ref k1)])) _
    refine XS.lloadN X4.here hx rfl (hb hby d3_73) rfl ?_
    show Steps p.tables e below (T4.setTop (mkF m 74 #[.val (.ref a1), .val (.long q1), .second, .val (.int (0 : Int32))] [(.long q1), (.int (1 : Int32)), (.ref k1)])) _
    refine st5 _ ?_
    show Steps p.tables e below (T5.setTop (mkF m 75 #[.val (.ref a1), .val (.long q1), .second, .val (.int (0 : Int32))] [])) _
    refine XS.aloadN X5.here hx rfl (hb hby d3_75) rfl rfl ?_
    show Steps p.tables e below (T5.setTop (mkF m 76 #[.val (.ref a1), .val (.long q1), .second, .val (.int (0 : Int32))] [(.ref a1)])) _
    refine XS.dup X5.here hx rfl (hb hby d3_76) rfl rfl ?_
    show Steps p.tables e below (T5.setTop (mkF m 77 #[.val (.ref a1), .val (.long q1), .second, .val (.int (0 : Int32))] [(.ref a1), (.ref a1)])) _
    refine st6 _ ?_
    show Steps p.tables e below (T6.setTop (mkF m 80 #[.val (.ref a1), .val (.long q1), .second, .val (.int (0 : Int32))] [(.int (1 : Int32)), (.ref a1)])) _
    refine XS.iconst X6.here hx rfl (hb hby d3_80) ?_
    show Steps p.tables e below (T6.setTop (mkF m 81 #[.val (.ref a1), .val (.long q1), .second, .val (.int (0 : Int32))] [(.int (1 : Int32)), (.int (1 : Int32)), (.ref a1)])) _
    refine XS.iadd X6.here hx rfl (hb hby d3_81) rfl ?_
    show Steps p.tables e below (T6.setTop (mkF m 82 #[.val (.ref a1), .val (.long q1), .second, .val (.int (0 : Int32))] [(.int ((1 : Int32) + (1 : Int32))), (.ref a1)])) _
    rw [show ((1 : Int32) + (1 : Int32)) = (2 : Int32) from by decide +kernel]
    show Steps p.tables e below (T6.setTop (mkF m 82 #[.val (.ref a1), .val (.long q1), .second, .val (.int (0 : Int32))] [(.int (2 : Int32)), (.ref a1)])) _
    refine st7 _ ?_
    show Steps p.tables e below (T7.setTop (mkF m 85 #[.val (.ref a1), .val (.long q1), .second, .val (.int (0 : Int32))] [])) _
    exact X7.returnOut hx Bd.returns (hb hby d3_85) hr
  · show Q3_1 Z a1 q1 c1 k1 kc kk x0 h0 n0 _ T7.heap _
    rw [e7]
    exact ⟨rfl, N7, f7_17, f7_18, f7_22, f7_19, f7_20, Z7⟩
def Q3_2 (Z : State) (a1 : Addr) (q1 : Int64) (c1 k1 : Addr) (kc kk : ClassId) (x0 x1 : Int64) (h0 : Heap) (n0 : Nat) (v : Option Value) (h : Heap) (L : List Loc) : Prop := v = none ∧ Fr n0 L ∧ Exa Z h a1 "com/example/frigg/frigg/ChunkedLongs" ∧ Fld Z h a1 "com/example/frigg/frigg/ChunkedLongs" "chunks" "[[J" (.ref c1) ∧ Fld Z h a1 "com/example/frigg/frigg/ChunkedLongs" "size" "I" (.int (3 : Int32)) ∧ Arv Z h c1 kc (.array .long) (1 : Int32) [(.ref k1)] .null ∧ Arv Z h k1 kk .long (32768 : Int32) [(.long x0), (.long x1), (.long q1)] (.long (0 : Int64)) ∧ n0 ≤ h.size
set_option maxRecDepth 65536 in
set_option maxHeartbeats 40000000 in
theorem rm3_2 (l : Launch) (Z : State) (a0 : Array Value) (hw : ∀ d ∈ tables_1, d.before a0 Z = true) (ws : List Jvm.Cond) (a1 : Addr) (q1 : Int64) (c1 k1 : Addr) (kc kk : ClassId) (x0 x1 : Int64) (h0 : Heap) (n0 : Nat) (Z0 : n0 ≤ h0.size) (E_a : Exa Z h0 a1 "com/example/frigg/frigg/ChunkedLongs") (F_ch : Fld Z h0 a1 "com/example/frigg/frigg/ChunkedLongs" "chunks" "[[J" (.ref c1)) (F_sz : Fld Z h0 a1 "com/example/frigg/frigg/ChunkedLongs" "size" "I" (.int (2 : Int32))) (V_c : Arv Z h0 c1 kc (.array .long) (1 : Int32) [(.ref k1)] .null) (V_k : Arv Z h0 k1 kk .long (32768 : Int32) [(.long x0), (.long x1)] (.long (0 : Int64))) (g_a : n0 ≤ a1) (g_c : n0 ≤ c1) (g_k : n0 ≤ k1) (n_ac : a1 ≠ c1) (n_ak : a1 ≠ k1) (n_ck : c1 ≠ k1) :
    MetFree l (⟨"com/example/frigg/frigg/ChunkedLongs", "add", "(J)V"⟩ : MethodName) (head1 (Jvm.Cond.code (⟨"com/example/frigg/frigg/ChunkedLongs", "add", "(J)V"⟩ : MethodName) prog_8_method_5_code 4 none :: ws) ({ frames := 0, cells := 0, slots := 0, locals := 0 } : Room)) (fun a U => a = #[(.ref a1), (.long q1)] ∧ Z.Warmed39 U.vm ∧ U.heap = h0) (fun _ _ _ _ _ => True) (fun _ U o U' => ∃ v L, o = .returned v ∧ Q3_2 Z a1 q1 c1 k1 kc kk x0 x1 h0 n0 v U'.heap L ∧ FrameEnd U o U' L ({ frames := 0, cells := 0, slots := 0, locals := 0 } : Room).cells ({ frames := 0, cells := 0, slots := 0, locals := 0 } : Room).slots) := by
  refine MetFree.of_bodySF (plainFor_of_name pn_ChunkedLongs) hisR ?_
  intro p e s m args below meth c s₁ Bd hml0 hP hK
  obtain ⟨rfl, hZ, hh⟩ := hP
  have hx := Bd.exec
  have hby := Bd.bytes
  have hml : c.maxLocals = 4 := hml0
  have hown : s.vm.findClass "com/example/frigg/frigg/ChunkedLongs" = some m.cls := findClass_of_methodNamed Bd.named
  have hnm := (name_of_methodNamed Bd.named Bd.method).1
  have X0 : Stand p l e ({ frames := 0, cells := 0, slots := 0, locals := 0 } : Room) s m #[(.ref a1), (.long q1)] below meth c s₁ [] 0 0 := Stand.of_body Bd
  have e0 : s₁.heap = h0 := by rw [← hh, Bd.state]; rfl
  have N0 := Fr.nil n0
  have pre0 : ∀ t, Steps p.tables e below (s₁.setTop (mkF m 0 #[.val (.ref a1), .val (.long q1), .second, .unset] [])) t → Steps p.tables e below (s₁.setTop (entryFrame m #[(.ref a1), (.long q1)] 4)) t := fun t k => castTop (ef_3 m a1 q1) k
  obtain ⟨T1, X1, e1, st1⟩ := getF X0 hx hZ hown (host := "") (Or.inl (hw _ (List.mem_of_getElem? (i := 18) rfl))) Via.refl e0 F_sz (g := (mkF m 1 #[.val (.ref a1), .val (.long q1), .second, .unset] [(.ref a1)])) rfl rfl (hb hby d3_1)
  obtain ⟨T2, X2, e2, st2⟩ := getF X1 hx hZ hown (host := "") (Or.inl (hw _ (List.mem_of_getElem? (i := 18) rfl))) Via.refl e1 F_sz (g := (mkF m 9 #[.val (.ref a1), .val (.long q1), .second, .val (.int (0 : Int32))] [(.ref a1)])) rfl rfl (hb hby d3_9)
  obtain ⟨T3, X3, e3, st3⟩ := getF X2 hx hZ hown (host := "") (Or.inl (hw _ (List.mem_of_getElem? (i := 11) rfl))) Via.refl e2 F_ch (g := (mkF m 60 #[.val (.ref a1), .val (.long q1), .second, .val (.int (0 : Int32))] [(.ref a1)])) rfl rfl (hb hby d3_60)
  obtain ⟨clr3, Arr3, qr3, Sr3, Mr3, Hr3, Gr3⟩ := id V_c
  obtain ⟨T4, X4, e4, st4⟩ := getF X3 hx hZ hown (host := "") (Or.inl (hw _ (List.mem_of_getElem? (i := 18) rfl))) Via.refl e3 F_sz (g := (mkF m 66 #[.val (.ref a1), .val (.long q1), .second, .val (.int (0 : Int32))] [(.ref a1), (.ref k1)])) rfl rfl (hb hby d3_66)
  have pad5 : Arv Z h0 k1 kk .long (32768 : Int32) [(.long x0), (.long x1), (.long (0 : Int64))] (.long (0 : Int64)) := Arv.pad V_k (pad_rep [(.long x0), (.long x1)] (.long (0 : Int64)) 1)
  obtain ⟨cls6, Ars6, qs6, Ss6, Ms6, Hs6, Gs6⟩ := id pad5
  obtain ⟨T5, h5, X5, e5, W5, st5⟩ := stJ X4 hx hZ e4 Ars6 (j := (2 : Int32)) (inb_of Ss6 ⟨by decide, by decide⟩) (g := (mkF m 74 #[.val (.ref a1), .val (.long q1), .second, .val (.int (0 : Int32))] [(.long q1), (.int (2 : Int32)), (.ref k1)])) rfl rfl (hb hby d3_74)
  have f5_8 : Exa Z h5 a1 "com/example/frigg/frigg/ChunkedLongs" := E_a.wr W5
  have f5_9 : Fld Z h5 a1 "com/example/frigg/frigg/ChunkedLongs" "chunks" "[[J" (.ref c1) := Fld.other W5 F_ch (Or.inl n_ak)
  have f5_10 : Fld Z h5 a1 "com/example/frigg/frigg/ChunkedLongs" "size" "I" (.int (2 : Int32)) := Fld.other W5 F_sz (Or.inl n_ak)
  have f5_11 : Arv Z h5 c1 kc (.array .long) (1 : Int32) [(.ref k1)] .null := V_c.other W5 n_ck
  have Z5 : n0 ≤ h5.size := by rw [W5.size]; exact Z0
  have f5_13 : Arv Z h5 k1 kk .long (32768 : Int32) [(.long x0), (.long x1), (.long q1)] (.long (0 : Int64)) := Arv.set Ars6 qs6 Ss6 Ms6 Hs6 Gs6 rfl W5 2 rfl (Nat.le_of_ble_eq_true rfl)
  have N5 := Fr.snoc X5 N0 g_k
  obtain ⟨T6, X6, e6, st6⟩ := getF X5 hx hZ hown (host := "") (Or.inl (hw _ (List.mem_of_getElem? (i := 18) rfl))) Via.refl e5 f5_10 (g := (mkF m 77 #[.val (.ref a1), .val (.long q1), .second, .val (.int (0 : Int32))] [(.ref a1), (.ref a1)])) rfl rfl (hb hby d3_77)
  obtain ⟨T7, h7, X7, e7, W7, st7⟩ := putF X6 hx hZ hown (host := "") (Or.inl (hw _ (List.mem_of_getElem? (i := 18) rfl))) Via.refl e6 f5_10 f5_8 (Or.inl (hw _ (List.mem_of_getElem? (i := 19) rfl))) (hw _ (List.mem_of_getElem? (i := 1) rfl)) (ty := .int) (by decide) rfl rfl (g := (mkF m 82 #[.val (.ref a1), .val (.long q1), .second, .val (.int (0 : Int32))] [(.int (3 : Int32)), (.ref a1)])) rfl rfl (hb hby d3_82)
  have f7_17 : Exa Z h7 a1 "com/example/frigg/frigg/ChunkedLongs" := f5_8.wr W7
  have f7_18 : Fld Z h7 a1 "com/example/frigg/frigg/ChunkedLongs" "chunks" "[[J" (.ref c1) := Fld.other W7 f5_9 (Or.inr (slot_ne (Or.inl (hw _ (List.mem_of_getElem? (i := 12) rfl))) (Or.inl (hw _ (List.mem_of_getElem? (i := 19) rfl))) (by decide) (t := (.array (.array .long))) (t' := .int) (by decide) (by decide)))
  have f7_19 : Arv Z h7 c1 kc (.array .long) (1 : Int32) [(.ref k1)] .null := f5_11.other W7 (Ne.symm n_ac)
  have f7_20 : Arv Z h7 k1 kk .long (32768 : Int32) [(.long x0), (.long x1), (.long q1)] (.long (0 : Int64)) := f5_13.other W7 (Ne.symm n_ak)
  have Z7 : n0 ≤ h7.size := by rw [W7.size]; exact Z5
  have f7_22 : Fld Z h7 a1 "com/example/frigg/frigg/ChunkedLongs" "size" "I" (.int (3 : Int32)) := Fld.same W7 f5_10
  have N7 := Fr.snoc X7 N5 g_a
  obtain ⟨fs, hr, hrun, hended, hW, hsame⟩ := X7.leave (v := none) (fun _ => rfl)
  refine ⟨_, _, pre0 _ ?_, hrun, hended, _, _, rfl, ?_, ⟨_, rfl⟩, hW, hsame.mono (by decide) (by decide)⟩
  · show Steps p.tables e below (s₁.setTop (mkF m 0 #[.val (.ref a1), .val (.long q1), .second, .unset] [])) _
    refine XS.aloadN X0.here hx rfl (hb hby d3_0) rfl rfl ?_
    show Steps p.tables e below (s₁.setTop (mkF m 1 #[.val (.ref a1), .val (.long q1), .second, .unset] [(.ref a1)])) _
    refine st1 _ ?_
    show Steps p.tables e below (T1.setTop (mkF m 4 #[.val (.ref a1), .val (.long q1), .second, .unset] [(.int (2 : Int32))])) _
    refine XS.bipush X1.here hx rfl (hb hby d3_4) ?_
    show Steps p.tables e below (T1.setTop (mkF m 6 #[.val (.ref a1), .val (.long q1), .second, .unset] [(.int (15 : Int32)), (.int (2 : Int32))])) _
    refine XS.iushr X1.here hx rfl (hb hby d3_6) rfl ?_
    show Steps p.tables e below (T1.setTop (mkF m 7 #[.val (.ref a1), .val (.long q1), .second, .unset] [(.int (((2 : Int32).toUInt32 >>> ((15 : Int32) &&& 31).toUInt32).toInt32))])) _
    rw [show (((2 : Int32).toUInt32 >>> ((15 : Int32) &&& 31).toUInt32).toInt32) = (0 : Int32) from by decide +kernel]
    show Steps p.tables e below (T1.setTop (mkF m 7 #[.val (.ref a1), .val (.long q1), .second, .unset] [(.int (0 : Int32))])) _
    refine XS.istoreN X1.here hx rfl (hb hby d3_7) rfl (l' := #[.val (.ref a1), .val (.long q1), .second, .val (.int (0 : Int32))]) rfl ?_
    show Steps p.tables e below (T1.setTop (mkF m 8 #[.val (.ref a1), .val (.long q1), .second, .val (.int (0 : Int32))] [])) _
    refine XS.aloadN X1.here hx rfl (hb hby d3_8) rfl rfl ?_
    show Steps p.tables e below (T1.setTop (mkF m 9 #[.val (.ref a1), .val (.long q1), .second, .val (.int (0 : Int32))] [(.ref a1)])) _
    refine st2 _ ?_
    show Steps p.tables e below (T2.setTop (mkF m 12 #[.val (.ref a1), .val (.long q1), .second, .val (.int (0 : Int32))] [(.int (2 : Int32))])) _
    refine XS.sipush X2.here hx rfl (hb hby d3_12) ?_
    show Steps p.tables e below (T2.setTop (mkF m 15 #[.val (.ref a1), .val (.long q1), .second, .val (.int (0 : Int32))] [(.int (32767 : Int32)), (.int (2 : Int32))])) _
    refine XS.iand X2.here hx rfl (hb hby d3_15) rfl ?_
    show Steps p.tables e below (T2.setTop (mkF m 16 #[.val (.ref a1), .val (.long q1), .second, .val (.int (0 : Int32))] [(.int ((2 : Int32) &&& (32767 : Int32)))])) _
    refine XS.ifYes X2.here hx rfl (pc0 := 16) (pc' := 59) rfl (hb hby d3_16) rfl ((if0 _ _).trans (feq (by decide +kernel)).2) (by decide) (by decide) ?_
    show Steps p.tables e below (T2.setTop (mkF m 59 #[.val (.ref a1), .val (.long q1), .second, .val (.int (0 : Int32))] [])) _
    refine XS.aloadN X2.here hx rfl (hb hby d3_59) rfl rfl ?_
    show Steps p.tables e below (T2.setTop (mkF m 60 #[.val (.ref a1), .val (.long q1), .second, .val (.int (0 : Int32))] [(.ref a1)])) _
    refine st3 _ ?_
    show Steps p.tables e below (T3.setTop (mkF m 63 #[.val (.ref a1), .val (.long q1), .second, .val (.int (0 : Int32))] [(.ref c1)])) _
    refine XS.iloadN X3.here hx rfl (hb hby d3_63) rfl ?_
    show Steps p.tables e below (T3.setTop (mkF m 64 #[.val (.ref a1), .val (.long q1), .second, .val (.int (0 : Int32))] [(.int (0 : Int32)), (.ref c1)])) _
    refine X3.aaload hx (j := (0 : Int32)) (v := (.ref k1)) (by rw [e3]; exact Arr3.1) (State.isArrayOf_alike hZ.alike Arr3.2.1) rfl Arr3.2.2 (inb_of Sr3 ⟨by decide, by decide⟩) (Hr3.at (inb_of Sr3 ⟨by decide, by decide⟩) rfl) (g := (mkF m 64 #[.val (.ref a1), .val (.long q1), .second, .val (.int (0 : Int32))] [(.int (0 : Int32)), (.ref c1)])) rfl rfl (hb hby d3_64) _ ?_
    show Steps p.tables e below (T3.setTop (mkF m 65 #[.val (.ref a1), .val (.long q1), .second, .val (.int (0 : Int32))] [(.ref k1)])) _
    refine XS.aloadN X3.here hx rfl (hb hby d3_65) rfl rfl ?_
    show Steps p.tables e below (T3.setTop (mkF m 66 #[.val (.ref a1), .val (.long q1), .second, .val (.int (0 : Int32))] [(.ref a1), (.ref k1)])) _
    refine st4 _ ?_
    show Steps p.tables e below (T4.setTop (mkF m 69 #[.val (.ref a1), .val (.long q1), .second, .val (.int (0 : Int32))] [(.int (2 : Int32)), (.ref k1)])) _
    refine XS.sipush X4.here hx rfl (hb hby d3_69) ?_
    show Steps p.tables e below (T4.setTop (mkF m 72 #[.val (.ref a1), .val (.long q1), .second, .val (.int (0 : Int32))] [(.int (32767 : Int32)), (.int (2 : Int32)), (.ref k1)])) _
    refine XS.iand X4.here hx rfl (hb hby d3_72) rfl ?_
    show Steps p.tables e below (T4.setTop (mkF m 73 #[.val (.ref a1), .val (.long q1), .second, .val (.int (0 : Int32))] [(.int ((2 : Int32) &&& (32767 : Int32))), (.ref k1)])) _
    rw [show ((2 : Int32) &&& (32767 : Int32)) = (2 : Int32) from by decide +kernel]
    show Steps p.tables e below (T4.setTop (mkF m 73 #[.val (.ref a1), .val (.long q1), .second, .val (.int (0 : Int32))] [(.int (2 : Int32)), (.ref k1)])) _
    refine XS.lloadN X4.here hx rfl (hb hby d3_73) rfl ?_
    show Steps p.tables e below (T4.setTop (mkF m 74 #[.val (.ref a1), .val (.long q1), .second, .val (.int (0 : Int32))] [(.long q1), (.int (2 : Int32)), (.ref k1)])) _
    refine st5 _ ?_
    show Steps p.tables e below (T5.setTop (mkF m 75 #[.val (.ref a1), .val (.long q1), .second, .val (.int (0 : Int32))] [])) _
    refine XS.aloadN X5.here hx rfl (hb hby d3_75) rfl rfl ?_
    show Steps p.tables e below (T5.setTop (mkF m 76 #[.val (.ref a1), .val (.long q1), .second, .val (.int (0 : Int32))] [(.ref a1)])) _
    refine XS.dup X5.here hx rfl (hb hby d3_76) rfl rfl ?_
    show Steps p.tables e below (T5.setTop (mkF m 77 #[.val (.ref a1), .val (.long q1), .second, .val (.int (0 : Int32))] [(.ref a1), (.ref a1)])) _
    refine st6 _ ?_
    show Steps p.tables e below (T6.setTop (mkF m 80 #[.val (.ref a1), .val (.long q1), .second, .val (.int (0 : Int32))] [(.int (2 : Int32)), (.ref a1)])) _
    refine XS.iconst X6.here hx rfl (hb hby d3_80) ?_
    show Steps p.tables e below (T6.setTop (mkF m 81 #[.val (.ref a1), .val (.long q1), .second, .val (.int (0 : Int32))] [(.int (1 : Int32)), (.int (2 : Int32)), (.ref a1)])) _
    refine XS.iadd X6.here hx rfl (hb hby d3_81) rfl ?_
    show Steps p.tables e below (T6.setTop (mkF m 82 #[.val (.ref a1), .val (.long q1), .second, .val (.int (0 : Int32))] [(.int ((2 : Int32) + (1 : Int32))), (.ref a1)])) _
    rw [show ((2 : Int32) + (1 : Int32)) = (3 : Int32) from by decide +kernel]
    show Steps p.tables e below (T6.setTop (mkF m 82 #[.val (.ref a1), .val (.long q1), .second, .val (.int (0 : Int32))] [(.int (3 : Int32)), (.ref a1)])) _
    refine st7 _ ?_
    show Steps p.tables e below (T7.setTop (mkF m 85 #[.val (.ref a1), .val (.long q1), .second, .val (.int (0 : Int32))] [])) _
    exact X7.returnOut hx Bd.returns (hb hby d3_85) hr
  · show Q3_2 Z a1 q1 c1 k1 kc kk x0 x1 h0 n0 _ T7.heap _
    rw [e7]
    exact ⟨rfl, N7, f7_17, f7_18, f7_22, f7_19, f7_20, Z7⟩
theorem d4_0 : decode prog_8_method_4_code 0 = .ok (.aload_n 0, 1) := by decide +kernel
theorem d4_1 : decode prog_8_method_4_code 1 = .ok (.getfield 11, 3) := by decide +kernel
theorem d4_4 : decode prog_8_method_4_code 4 = .ok (.iload_n 1, 1) := by decide +kernel
theorem d4_5 : decode prog_8_method_4_code 5 = .ok (.bipush 15, 2) := by decide +kernel
theorem d4_7 : decode prog_8_method_4_code 7 = .ok (.iushr, 1) := by decide +kernel
theorem d4_8 : decode prog_8_method_4_code 8 = .ok (.aaload, 1) := by decide +kernel
theorem d4_9 : decode prog_8_method_4_code 9 = .ok (.iload_n 1, 1) := by decide +kernel
theorem d4_10 : decode prog_8_method_4_code 10 = .ok (.sipush 32767, 3) := by decide +kernel
theorem d4_13 : decode prog_8_method_4_code 13 = .ok (.iand, 1) := by decide +kernel
theorem d4_14 : decode prog_8_method_4_code 14 = .ok (.lload_n 2, 1) := by decide +kernel
theorem d4_15 : decode prog_8_method_4_code 15 = .ok (.lastore, 1) := by decide +kernel
theorem d4_16 : decode prog_8_method_4_code 16 = .ok (.return_, 1) := by decide +kernel
theorem ef_4 (m : MethodId) (x0 : Addr) (x1 : Int32) (x2 : Int64) : entryFrame m #[(.ref x0), (.int x1), (.long x2)] 4 = mkF m 0 #[.val (.ref x0), .val (.int x1), .val (.long x2), .second] [] := by first | (simp [entryFrame, mkF, argsToLocals, Value.category]; done) | rfl
def Q4_0 (Z : State) (a1 : Addr) (q1 : Int64) (c1 k1 : Addr) (kc kk : ClassId) (x0 x1 x2 : Int64) (h0 : Heap) (n0 : Nat) (v : Option Value) (h : Heap) (L : List Loc) : Prop := v = none ∧ Fr n0 L ∧ Exa Z h a1 "com/example/frigg/frigg/ChunkedLongs" ∧ Fld Z h a1 "com/example/frigg/frigg/ChunkedLongs" "chunks" "[[J" (.ref c1) ∧ Fld Z h a1 "com/example/frigg/frigg/ChunkedLongs" "size" "I" (.int (3 : Int32)) ∧ Arv Z h c1 kc (.array .long) (1 : Int32) [(.ref k1)] .null ∧ Arv Z h k1 kk .long (32768 : Int32) [(.long q1), (.long x1), (.long x2)] (.long (0 : Int64)) ∧ n0 ≤ h.size
set_option maxRecDepth 65536 in
set_option maxHeartbeats 40000000 in
theorem rm4_0 (l : Launch) (Z : State) (a0 : Array Value) (hw : ∀ d ∈ tables_1, d.before a0 Z = true) (ws : List Jvm.Cond) (a1 : Addr) (q1 : Int64) (c1 k1 : Addr) (kc kk : ClassId) (x0 x1 x2 : Int64) (h0 : Heap) (n0 : Nat) (Z0 : n0 ≤ h0.size) (E_a : Exa Z h0 a1 "com/example/frigg/frigg/ChunkedLongs") (F_ch : Fld Z h0 a1 "com/example/frigg/frigg/ChunkedLongs" "chunks" "[[J" (.ref c1)) (F_sz : Fld Z h0 a1 "com/example/frigg/frigg/ChunkedLongs" "size" "I" (.int (3 : Int32))) (V_c : Arv Z h0 c1 kc (.array .long) (1 : Int32) [(.ref k1)] .null) (V_k : Arv Z h0 k1 kk .long (32768 : Int32) [(.long x0), (.long x1), (.long x2)] (.long (0 : Int64))) (g_a : n0 ≤ a1) (g_c : n0 ≤ c1) (g_k : n0 ≤ k1) (n_ac : a1 ≠ c1) (n_ak : a1 ≠ k1) (n_ck : c1 ≠ k1) :
    MetFree l (⟨"com/example/frigg/frigg/ChunkedLongs", "set", "(IJ)V"⟩ : MethodName) (head1 (Jvm.Cond.code (⟨"com/example/frigg/frigg/ChunkedLongs", "set", "(IJ)V"⟩ : MethodName) prog_8_method_4_code 4 none :: ws) ({ frames := 0, cells := 0, slots := 0, locals := 0 } : Room)) (fun a U => a = #[(.ref a1), (.int (0 : Int32)), (.long q1)] ∧ Z.Warmed39 U.vm ∧ U.heap = h0) (fun _ _ _ _ _ => True) (fun _ U o U' => ∃ v L, o = .returned v ∧ Q4_0 Z a1 q1 c1 k1 kc kk x0 x1 x2 h0 n0 v U'.heap L ∧ FrameEnd U o U' L ({ frames := 0, cells := 0, slots := 0, locals := 0 } : Room).cells ({ frames := 0, cells := 0, slots := 0, locals := 0 } : Room).slots) := by
  refine MetFree.of_bodySF (plainFor_of_name pn_ChunkedLongs) hisR ?_
  intro p e s m args below meth c s₁ Bd hml0 hP hK
  obtain ⟨rfl, hZ, hh⟩ := hP
  have hx := Bd.exec
  have hby := Bd.bytes
  have hml : c.maxLocals = 4 := hml0
  have hown : s.vm.findClass "com/example/frigg/frigg/ChunkedLongs" = some m.cls := findClass_of_methodNamed Bd.named
  have hnm := (name_of_methodNamed Bd.named Bd.method).1
  have X0 : Stand p l e ({ frames := 0, cells := 0, slots := 0, locals := 0 } : Room) s m #[(.ref a1), (.int (0 : Int32)), (.long q1)] below meth c s₁ [] 0 0 := Stand.of_body Bd
  have e0 : s₁.heap = h0 := by rw [← hh, Bd.state]; rfl
  have N0 := Fr.nil n0
  have pre0 : ∀ t, Steps p.tables e below (s₁.setTop (mkF m 0 #[.val (.ref a1), .val (.int (0 : Int32)), .val (.long q1), .second] [])) t → Steps p.tables e below (s₁.setTop (entryFrame m #[(.ref a1), (.int (0 : Int32)), (.long q1)] 4)) t := fun t k => castTop (ef_4 m a1 (0 : Int32) q1) k
  obtain ⟨T1, X1, e1, st1⟩ := getF X0 hx hZ hown (host := "") (Or.inl (hw _ (List.mem_of_getElem? (i := 11) rfl))) Via.refl e0 F_ch (g := (mkF m 1 #[.val (.ref a1), .val (.int (0 : Int32)), .val (.long q1), .second] [(.ref a1)])) rfl rfl (hb hby d4_1)
  obtain ⟨clr1, Arr1, qr1, Sr1, Mr1, Hr1, Gr1⟩ := id V_c
  obtain ⟨cls2, Ars2, qs2, Ss2, Ms2, Hs2, Gs2⟩ := id V_k
  obtain ⟨T2, h2, X2, e2, W2, st2⟩ := stJ X1 hx hZ e1 Ars2 (j := (0 : Int32)) (inb_of Ss2 ⟨by decide, by decide⟩) (g := (mkF m 15 #[.val (.ref a1), .val (.int (0 : Int32)), .val (.long q1), .second] [(.long q1), (.int (0 : Int32)), (.ref k1)])) rfl rfl (hb hby d4_15)
  have f2_4 : Exa Z h2 a1 "com/example/frigg/frigg/ChunkedLongs" := E_a.wr W2
  have f2_5 : Fld Z h2 a1 "com/example/frigg/frigg/ChunkedLongs" "chunks" "[[J" (.ref c1) := Fld.other W2 F_ch (Or.inl n_ak)
  have f2_6 : Fld Z h2 a1 "com/example/frigg/frigg/ChunkedLongs" "size" "I" (.int (3 : Int32)) := Fld.other W2 F_sz (Or.inl n_ak)
  have f2_7 : Arv Z h2 c1 kc (.array .long) (1 : Int32) [(.ref k1)] .null := V_c.other W2 n_ck
  have Z2 : n0 ≤ h2.size := by rw [W2.size]; exact Z0
  have f2_9 : Arv Z h2 k1 kk .long (32768 : Int32) [(.long q1), (.long x1), (.long x2)] (.long (0 : Int64)) := Arv.set Ars2 qs2 Ss2 Ms2 Hs2 Gs2 rfl W2 0 rfl (Nat.le_of_ble_eq_true rfl)
  have N2 := Fr.snoc X2 N0 g_k
  obtain ⟨fs, hr, hrun, hended, hW, hsame⟩ := X2.leave (v := none) (fun _ => rfl)
  refine ⟨_, _, pre0 _ ?_, hrun, hended, _, _, rfl, ?_, ⟨_, rfl⟩, hW, hsame.mono (by decide) (by decide)⟩
  · show Steps p.tables e below (s₁.setTop (mkF m 0 #[.val (.ref a1), .val (.int (0 : Int32)), .val (.long q1), .second] [])) _
    refine XS.aloadN X0.here hx rfl (hb hby d4_0) rfl rfl ?_
    show Steps p.tables e below (s₁.setTop (mkF m 1 #[.val (.ref a1), .val (.int (0 : Int32)), .val (.long q1), .second] [(.ref a1)])) _
    refine st1 _ ?_
    show Steps p.tables e below (T1.setTop (mkF m 4 #[.val (.ref a1), .val (.int (0 : Int32)), .val (.long q1), .second] [(.ref c1)])) _
    refine XS.iloadN X1.here hx rfl (hb hby d4_4) rfl ?_
    show Steps p.tables e below (T1.setTop (mkF m 5 #[.val (.ref a1), .val (.int (0 : Int32)), .val (.long q1), .second] [(.int (0 : Int32)), (.ref c1)])) _
    refine XS.bipush X1.here hx rfl (hb hby d4_5) ?_
    show Steps p.tables e below (T1.setTop (mkF m 7 #[.val (.ref a1), .val (.int (0 : Int32)), .val (.long q1), .second] [(.int (15 : Int32)), (.int (0 : Int32)), (.ref c1)])) _
    refine XS.iushr X1.here hx rfl (hb hby d4_7) rfl ?_
    show Steps p.tables e below (T1.setTop (mkF m 8 #[.val (.ref a1), .val (.int (0 : Int32)), .val (.long q1), .second] [(.int (((0 : Int32).toUInt32 >>> ((15 : Int32) &&& 31).toUInt32).toInt32)), (.ref c1)])) _
    rw [show (((0 : Int32).toUInt32 >>> ((15 : Int32) &&& 31).toUInt32).toInt32) = (0 : Int32) from by decide +kernel]
    show Steps p.tables e below (T1.setTop (mkF m 8 #[.val (.ref a1), .val (.int (0 : Int32)), .val (.long q1), .second] [(.int (0 : Int32)), (.ref c1)])) _
    refine X1.aaload hx (j := (0 : Int32)) (v := (.ref k1)) (by rw [e1]; exact Arr1.1) (State.isArrayOf_alike hZ.alike Arr1.2.1) rfl Arr1.2.2 (inb_of Sr1 ⟨by decide, by decide⟩) (Hr1.at (inb_of Sr1 ⟨by decide, by decide⟩) rfl) (g := (mkF m 8 #[.val (.ref a1), .val (.int (0 : Int32)), .val (.long q1), .second] [(.int (0 : Int32)), (.ref c1)])) rfl rfl (hb hby d4_8) _ ?_
    show Steps p.tables e below (T1.setTop (mkF m 9 #[.val (.ref a1), .val (.int (0 : Int32)), .val (.long q1), .second] [(.ref k1)])) _
    refine XS.iloadN X1.here hx rfl (hb hby d4_9) rfl ?_
    show Steps p.tables e below (T1.setTop (mkF m 10 #[.val (.ref a1), .val (.int (0 : Int32)), .val (.long q1), .second] [(.int (0 : Int32)), (.ref k1)])) _
    refine XS.sipush X1.here hx rfl (hb hby d4_10) ?_
    show Steps p.tables e below (T1.setTop (mkF m 13 #[.val (.ref a1), .val (.int (0 : Int32)), .val (.long q1), .second] [(.int (32767 : Int32)), (.int (0 : Int32)), (.ref k1)])) _
    refine XS.iand X1.here hx rfl (hb hby d4_13) rfl ?_
    show Steps p.tables e below (T1.setTop (mkF m 14 #[.val (.ref a1), .val (.int (0 : Int32)), .val (.long q1), .second] [(.int ((0 : Int32) &&& (32767 : Int32))), (.ref k1)])) _
    rw [show ((0 : Int32) &&& (32767 : Int32)) = (0 : Int32) from by decide +kernel]
    show Steps p.tables e below (T1.setTop (mkF m 14 #[.val (.ref a1), .val (.int (0 : Int32)), .val (.long q1), .second] [(.int (0 : Int32)), (.ref k1)])) _
    refine XS.lloadN X1.here hx rfl (hb hby d4_14) rfl ?_
    show Steps p.tables e below (T1.setTop (mkF m 15 #[.val (.ref a1), .val (.int (0 : Int32)), .val (.long q1), .second] [(.long q1), (.int (0 : Int32)), (.ref k1)])) _
    refine st2 _ ?_
    show Steps p.tables e below (T2.setTop (mkF m 16 #[.val (.ref a1), .val (.int (0 : Int32)), .val (.long q1), .second] [])) _
    exact X2.returnOut hx Bd.returns (hb hby d4_16) hr
  · show Q4_0 Z a1 q1 c1 k1 kc kk x0 x1 x2 h0 n0 _ T2.heap _
    rw [e2]
    exact ⟨rfl, N2, f2_4, f2_5, f2_6, f2_7, f2_9, Z2⟩
def Q4_1 (Z : State) (a1 : Addr) (q1 : Int64) (c1 k1 : Addr) (kc kk : ClassId) (x0 x1 x2 : Int64) (h0 : Heap) (n0 : Nat) (v : Option Value) (h : Heap) (L : List Loc) : Prop := v = none ∧ Fr n0 L ∧ Exa Z h a1 "com/example/frigg/frigg/ChunkedLongs" ∧ Fld Z h a1 "com/example/frigg/frigg/ChunkedLongs" "chunks" "[[J" (.ref c1) ∧ Fld Z h a1 "com/example/frigg/frigg/ChunkedLongs" "size" "I" (.int (3 : Int32)) ∧ Arv Z h c1 kc (.array .long) (1 : Int32) [(.ref k1)] .null ∧ Arv Z h k1 kk .long (32768 : Int32) [(.long x0), (.long q1), (.long x2)] (.long (0 : Int64)) ∧ n0 ≤ h.size
set_option maxRecDepth 65536 in
set_option maxHeartbeats 40000000 in
theorem rm4_1 (l : Launch) (Z : State) (a0 : Array Value) (hw : ∀ d ∈ tables_1, d.before a0 Z = true) (ws : List Jvm.Cond) (a1 : Addr) (q1 : Int64) (c1 k1 : Addr) (kc kk : ClassId) (x0 x1 x2 : Int64) (h0 : Heap) (n0 : Nat) (Z0 : n0 ≤ h0.size) (E_a : Exa Z h0 a1 "com/example/frigg/frigg/ChunkedLongs") (F_ch : Fld Z h0 a1 "com/example/frigg/frigg/ChunkedLongs" "chunks" "[[J" (.ref c1)) (F_sz : Fld Z h0 a1 "com/example/frigg/frigg/ChunkedLongs" "size" "I" (.int (3 : Int32))) (V_c : Arv Z h0 c1 kc (.array .long) (1 : Int32) [(.ref k1)] .null) (V_k : Arv Z h0 k1 kk .long (32768 : Int32) [(.long x0), (.long x1), (.long x2)] (.long (0 : Int64))) (g_a : n0 ≤ a1) (g_c : n0 ≤ c1) (g_k : n0 ≤ k1) (n_ac : a1 ≠ c1) (n_ak : a1 ≠ k1) (n_ck : c1 ≠ k1) :
    MetFree l (⟨"com/example/frigg/frigg/ChunkedLongs", "set", "(IJ)V"⟩ : MethodName) (head1 (Jvm.Cond.code (⟨"com/example/frigg/frigg/ChunkedLongs", "set", "(IJ)V"⟩ : MethodName) prog_8_method_4_code 4 none :: ws) ({ frames := 0, cells := 0, slots := 0, locals := 0 } : Room)) (fun a U => a = #[(.ref a1), (.int (1 : Int32)), (.long q1)] ∧ Z.Warmed39 U.vm ∧ U.heap = h0) (fun _ _ _ _ _ => True) (fun _ U o U' => ∃ v L, o = .returned v ∧ Q4_1 Z a1 q1 c1 k1 kc kk x0 x1 x2 h0 n0 v U'.heap L ∧ FrameEnd U o U' L ({ frames := 0, cells := 0, slots := 0, locals := 0 } : Room).cells ({ frames := 0, cells := 0, slots := 0, locals := 0 } : Room).slots) := by
  refine MetFree.of_bodySF (plainFor_of_name pn_ChunkedLongs) hisR ?_
  intro p e s m args below meth c s₁ Bd hml0 hP hK
  obtain ⟨rfl, hZ, hh⟩ := hP
  have hx := Bd.exec
  have hby := Bd.bytes
  have hml : c.maxLocals = 4 := hml0
  have hown : s.vm.findClass "com/example/frigg/frigg/ChunkedLongs" = some m.cls := findClass_of_methodNamed Bd.named
  have hnm := (name_of_methodNamed Bd.named Bd.method).1
  have X0 : Stand p l e ({ frames := 0, cells := 0, slots := 0, locals := 0 } : Room) s m #[(.ref a1), (.int (1 : Int32)), (.long q1)] below meth c s₁ [] 0 0 := Stand.of_body Bd
  have e0 : s₁.heap = h0 := by rw [← hh, Bd.state]; rfl
  have N0 := Fr.nil n0
  have pre0 : ∀ t, Steps p.tables e below (s₁.setTop (mkF m 0 #[.val (.ref a1), .val (.int (1 : Int32)), .val (.long q1), .second] [])) t → Steps p.tables e below (s₁.setTop (entryFrame m #[(.ref a1), (.int (1 : Int32)), (.long q1)] 4)) t := fun t k => castTop (ef_4 m a1 (1 : Int32) q1) k
  obtain ⟨T1, X1, e1, st1⟩ := getF X0 hx hZ hown (host := "") (Or.inl (hw _ (List.mem_of_getElem? (i := 11) rfl))) Via.refl e0 F_ch (g := (mkF m 1 #[.val (.ref a1), .val (.int (1 : Int32)), .val (.long q1), .second] [(.ref a1)])) rfl rfl (hb hby d4_1)
  obtain ⟨clr1, Arr1, qr1, Sr1, Mr1, Hr1, Gr1⟩ := id V_c
  obtain ⟨cls2, Ars2, qs2, Ss2, Ms2, Hs2, Gs2⟩ := id V_k
  obtain ⟨T2, h2, X2, e2, W2, st2⟩ := stJ X1 hx hZ e1 Ars2 (j := (1 : Int32)) (inb_of Ss2 ⟨by decide, by decide⟩) (g := (mkF m 15 #[.val (.ref a1), .val (.int (1 : Int32)), .val (.long q1), .second] [(.long q1), (.int (1 : Int32)), (.ref k1)])) rfl rfl (hb hby d4_15)
  have f2_4 : Exa Z h2 a1 "com/example/frigg/frigg/ChunkedLongs" := E_a.wr W2
  have f2_5 : Fld Z h2 a1 "com/example/frigg/frigg/ChunkedLongs" "chunks" "[[J" (.ref c1) := Fld.other W2 F_ch (Or.inl n_ak)
  have f2_6 : Fld Z h2 a1 "com/example/frigg/frigg/ChunkedLongs" "size" "I" (.int (3 : Int32)) := Fld.other W2 F_sz (Or.inl n_ak)
  have f2_7 : Arv Z h2 c1 kc (.array .long) (1 : Int32) [(.ref k1)] .null := V_c.other W2 n_ck
  have Z2 : n0 ≤ h2.size := by rw [W2.size]; exact Z0
  have f2_9 : Arv Z h2 k1 kk .long (32768 : Int32) [(.long x0), (.long q1), (.long x2)] (.long (0 : Int64)) := Arv.set Ars2 qs2 Ss2 Ms2 Hs2 Gs2 rfl W2 1 rfl (Nat.le_of_ble_eq_true rfl)
  have N2 := Fr.snoc X2 N0 g_k
  obtain ⟨fs, hr, hrun, hended, hW, hsame⟩ := X2.leave (v := none) (fun _ => rfl)
  refine ⟨_, _, pre0 _ ?_, hrun, hended, _, _, rfl, ?_, ⟨_, rfl⟩, hW, hsame.mono (by decide) (by decide)⟩
  · show Steps p.tables e below (s₁.setTop (mkF m 0 #[.val (.ref a1), .val (.int (1 : Int32)), .val (.long q1), .second] [])) _
    refine XS.aloadN X0.here hx rfl (hb hby d4_0) rfl rfl ?_
    show Steps p.tables e below (s₁.setTop (mkF m 1 #[.val (.ref a1), .val (.int (1 : Int32)), .val (.long q1), .second] [(.ref a1)])) _
    refine st1 _ ?_
    show Steps p.tables e below (T1.setTop (mkF m 4 #[.val (.ref a1), .val (.int (1 : Int32)), .val (.long q1), .second] [(.ref c1)])) _
    refine XS.iloadN X1.here hx rfl (hb hby d4_4) rfl ?_
    show Steps p.tables e below (T1.setTop (mkF m 5 #[.val (.ref a1), .val (.int (1 : Int32)), .val (.long q1), .second] [(.int (1 : Int32)), (.ref c1)])) _
    refine XS.bipush X1.here hx rfl (hb hby d4_5) ?_
    show Steps p.tables e below (T1.setTop (mkF m 7 #[.val (.ref a1), .val (.int (1 : Int32)), .val (.long q1), .second] [(.int (15 : Int32)), (.int (1 : Int32)), (.ref c1)])) _
    refine XS.iushr X1.here hx rfl (hb hby d4_7) rfl ?_
    show Steps p.tables e below (T1.setTop (mkF m 8 #[.val (.ref a1), .val (.int (1 : Int32)), .val (.long q1), .second] [(.int (((1 : Int32).toUInt32 >>> ((15 : Int32) &&& 31).toUInt32).toInt32)), (.ref c1)])) _
    rw [show (((1 : Int32).toUInt32 >>> ((15 : Int32) &&& 31).toUInt32).toInt32) = (0 : Int32) from by decide +kernel]
    show Steps p.tables e below (T1.setTop (mkF m 8 #[.val (.ref a1), .val (.int (1 : Int32)), .val (.long q1), .second] [(.int (0 : Int32)), (.ref c1)])) _
    refine X1.aaload hx (j := (0 : Int32)) (v := (.ref k1)) (by rw [e1]; exact Arr1.1) (State.isArrayOf_alike hZ.alike Arr1.2.1) rfl Arr1.2.2 (inb_of Sr1 ⟨by decide, by decide⟩) (Hr1.at (inb_of Sr1 ⟨by decide, by decide⟩) rfl) (g := (mkF m 8 #[.val (.ref a1), .val (.int (1 : Int32)), .val (.long q1), .second] [(.int (0 : Int32)), (.ref c1)])) rfl rfl (hb hby d4_8) _ ?_
    show Steps p.tables e below (T1.setTop (mkF m 9 #[.val (.ref a1), .val (.int (1 : Int32)), .val (.long q1), .second] [(.ref k1)])) _
    refine XS.iloadN X1.here hx rfl (hb hby d4_9) rfl ?_
    show Steps p.tables e below (T1.setTop (mkF m 10 #[.val (.ref a1), .val (.int (1 : Int32)), .val (.long q1), .second] [(.int (1 : Int32)), (.ref k1)])) _
    refine XS.sipush X1.here hx rfl (hb hby d4_10) ?_
    show Steps p.tables e below (T1.setTop (mkF m 13 #[.val (.ref a1), .val (.int (1 : Int32)), .val (.long q1), .second] [(.int (32767 : Int32)), (.int (1 : Int32)), (.ref k1)])) _
    refine XS.iand X1.here hx rfl (hb hby d4_13) rfl ?_
    show Steps p.tables e below (T1.setTop (mkF m 14 #[.val (.ref a1), .val (.int (1 : Int32)), .val (.long q1), .second] [(.int ((1 : Int32) &&& (32767 : Int32))), (.ref k1)])) _
    rw [show ((1 : Int32) &&& (32767 : Int32)) = (1 : Int32) from by decide +kernel]
    show Steps p.tables e below (T1.setTop (mkF m 14 #[.val (.ref a1), .val (.int (1 : Int32)), .val (.long q1), .second] [(.int (1 : Int32)), (.ref k1)])) _
    refine XS.lloadN X1.here hx rfl (hb hby d4_14) rfl ?_
    show Steps p.tables e below (T1.setTop (mkF m 15 #[.val (.ref a1), .val (.int (1 : Int32)), .val (.long q1), .second] [(.long q1), (.int (1 : Int32)), (.ref k1)])) _
    refine st2 _ ?_
    show Steps p.tables e below (T2.setTop (mkF m 16 #[.val (.ref a1), .val (.int (1 : Int32)), .val (.long q1), .second] [])) _
    exact X2.returnOut hx Bd.returns (hb hby d4_16) hr
  · show Q4_1 Z a1 q1 c1 k1 kc kk x0 x1 x2 h0 n0 _ T2.heap _
    rw [e2]
    exact ⟨rfl, N2, f2_4, f2_5, f2_6, f2_7, f2_9, Z2⟩
def Q4_2 (Z : State) (a1 : Addr) (q1 : Int64) (c1 k1 : Addr) (kc kk : ClassId) (x0 x1 x2 : Int64) (h0 : Heap) (n0 : Nat) (v : Option Value) (h : Heap) (L : List Loc) : Prop := v = none ∧ Fr n0 L ∧ Exa Z h a1 "com/example/frigg/frigg/ChunkedLongs" ∧ Fld Z h a1 "com/example/frigg/frigg/ChunkedLongs" "chunks" "[[J" (.ref c1) ∧ Fld Z h a1 "com/example/frigg/frigg/ChunkedLongs" "size" "I" (.int (3 : Int32)) ∧ Arv Z h c1 kc (.array .long) (1 : Int32) [(.ref k1)] .null ∧ Arv Z h k1 kk .long (32768 : Int32) [(.long x0), (.long x1), (.long q1)] (.long (0 : Int64)) ∧ n0 ≤ h.size
set_option maxRecDepth 65536 in
set_option maxHeartbeats 40000000 in
theorem rm4_2 (l : Launch) (Z : State) (a0 : Array Value) (hw : ∀ d ∈ tables_1, d.before a0 Z = true) (ws : List Jvm.Cond) (a1 : Addr) (q1 : Int64) (c1 k1 : Addr) (kc kk : ClassId) (x0 x1 x2 : Int64) (h0 : Heap) (n0 : Nat) (Z0 : n0 ≤ h0.size) (E_a : Exa Z h0 a1 "com/example/frigg/frigg/ChunkedLongs") (F_ch : Fld Z h0 a1 "com/example/frigg/frigg/ChunkedLongs" "chunks" "[[J" (.ref c1)) (F_sz : Fld Z h0 a1 "com/example/frigg/frigg/ChunkedLongs" "size" "I" (.int (3 : Int32))) (V_c : Arv Z h0 c1 kc (.array .long) (1 : Int32) [(.ref k1)] .null) (V_k : Arv Z h0 k1 kk .long (32768 : Int32) [(.long x0), (.long x1), (.long x2)] (.long (0 : Int64))) (g_a : n0 ≤ a1) (g_c : n0 ≤ c1) (g_k : n0 ≤ k1) (n_ac : a1 ≠ c1) (n_ak : a1 ≠ k1) (n_ck : c1 ≠ k1) :
    MetFree l (⟨"com/example/frigg/frigg/ChunkedLongs", "set", "(IJ)V"⟩ : MethodName) (head1 (Jvm.Cond.code (⟨"com/example/frigg/frigg/ChunkedLongs", "set", "(IJ)V"⟩ : MethodName) prog_8_method_4_code 4 none :: ws) ({ frames := 0, cells := 0, slots := 0, locals := 0 } : Room)) (fun a U => a = #[(.ref a1), (.int (2 : Int32)), (.long q1)] ∧ Z.Warmed39 U.vm ∧ U.heap = h0) (fun _ _ _ _ _ => True) (fun _ U o U' => ∃ v L, o = .returned v ∧ Q4_2 Z a1 q1 c1 k1 kc kk x0 x1 x2 h0 n0 v U'.heap L ∧ FrameEnd U o U' L ({ frames := 0, cells := 0, slots := 0, locals := 0 } : Room).cells ({ frames := 0, cells := 0, slots := 0, locals := 0 } : Room).slots) := by
  refine MetFree.of_bodySF (plainFor_of_name pn_ChunkedLongs) hisR ?_
  intro p e s m args below meth c s₁ Bd hml0 hP hK
  obtain ⟨rfl, hZ, hh⟩ := hP
  have hx := Bd.exec
  have hby := Bd.bytes
  have hml : c.maxLocals = 4 := hml0
  have hown : s.vm.findClass "com/example/frigg/frigg/ChunkedLongs" = some m.cls := findClass_of_methodNamed Bd.named
  have hnm := (name_of_methodNamed Bd.named Bd.method).1
  have X0 : Stand p l e ({ frames := 0, cells := 0, slots := 0, locals := 0 } : Room) s m #[(.ref a1), (.int (2 : Int32)), (.long q1)] below meth c s₁ [] 0 0 := Stand.of_body Bd
  have e0 : s₁.heap = h0 := by rw [← hh, Bd.state]; rfl
  have N0 := Fr.nil n0
  have pre0 : ∀ t, Steps p.tables e below (s₁.setTop (mkF m 0 #[.val (.ref a1), .val (.int (2 : Int32)), .val (.long q1), .second] [])) t → Steps p.tables e below (s₁.setTop (entryFrame m #[(.ref a1), (.int (2 : Int32)), (.long q1)] 4)) t := fun t k => castTop (ef_4 m a1 (2 : Int32) q1) k
  obtain ⟨T1, X1, e1, st1⟩ := getF X0 hx hZ hown (host := "") (Or.inl (hw _ (List.mem_of_getElem? (i := 11) rfl))) Via.refl e0 F_ch (g := (mkF m 1 #[.val (.ref a1), .val (.int (2 : Int32)), .val (.long q1), .second] [(.ref a1)])) rfl rfl (hb hby d4_1)
  obtain ⟨clr1, Arr1, qr1, Sr1, Mr1, Hr1, Gr1⟩ := id V_c
  obtain ⟨cls2, Ars2, qs2, Ss2, Ms2, Hs2, Gs2⟩ := id V_k
  obtain ⟨T2, h2, X2, e2, W2, st2⟩ := stJ X1 hx hZ e1 Ars2 (j := (2 : Int32)) (inb_of Ss2 ⟨by decide, by decide⟩) (g := (mkF m 15 #[.val (.ref a1), .val (.int (2 : Int32)), .val (.long q1), .second] [(.long q1), (.int (2 : Int32)), (.ref k1)])) rfl rfl (hb hby d4_15)
  have f2_4 : Exa Z h2 a1 "com/example/frigg/frigg/ChunkedLongs" := E_a.wr W2
  have f2_5 : Fld Z h2 a1 "com/example/frigg/frigg/ChunkedLongs" "chunks" "[[J" (.ref c1) := Fld.other W2 F_ch (Or.inl n_ak)
  have f2_6 : Fld Z h2 a1 "com/example/frigg/frigg/ChunkedLongs" "size" "I" (.int (3 : Int32)) := Fld.other W2 F_sz (Or.inl n_ak)
  have f2_7 : Arv Z h2 c1 kc (.array .long) (1 : Int32) [(.ref k1)] .null := V_c.other W2 n_ck
  have Z2 : n0 ≤ h2.size := by rw [W2.size]; exact Z0
  have f2_9 : Arv Z h2 k1 kk .long (32768 : Int32) [(.long x0), (.long x1), (.long q1)] (.long (0 : Int64)) := Arv.set Ars2 qs2 Ss2 Ms2 Hs2 Gs2 rfl W2 2 rfl (Nat.le_of_ble_eq_true rfl)
  have N2 := Fr.snoc X2 N0 g_k
  obtain ⟨fs, hr, hrun, hended, hW, hsame⟩ := X2.leave (v := none) (fun _ => rfl)
  refine ⟨_, _, pre0 _ ?_, hrun, hended, _, _, rfl, ?_, ⟨_, rfl⟩, hW, hsame.mono (by decide) (by decide)⟩
  · show Steps p.tables e below (s₁.setTop (mkF m 0 #[.val (.ref a1), .val (.int (2 : Int32)), .val (.long q1), .second] [])) _
    refine XS.aloadN X0.here hx rfl (hb hby d4_0) rfl rfl ?_
    show Steps p.tables e below (s₁.setTop (mkF m 1 #[.val (.ref a1), .val (.int (2 : Int32)), .val (.long q1), .second] [(.ref a1)])) _
    refine st1 _ ?_
    show Steps p.tables e below (T1.setTop (mkF m 4 #[.val (.ref a1), .val (.int (2 : Int32)), .val (.long q1), .second] [(.ref c1)])) _
    refine XS.iloadN X1.here hx rfl (hb hby d4_4) rfl ?_
    show Steps p.tables e below (T1.setTop (mkF m 5 #[.val (.ref a1), .val (.int (2 : Int32)), .val (.long q1), .second] [(.int (2 : Int32)), (.ref c1)])) _
    refine XS.bipush X1.here hx rfl (hb hby d4_5) ?_
    show Steps p.tables e below (T1.setTop (mkF m 7 #[.val (.ref a1), .val (.int (2 : Int32)), .val (.long q1), .second] [(.int (15 : Int32)), (.int (2 : Int32)), (.ref c1)])) _
    refine XS.iushr X1.here hx rfl (hb hby d4_7) rfl ?_
    show Steps p.tables e below (T1.setTop (mkF m 8 #[.val (.ref a1), .val (.int (2 : Int32)), .val (.long q1), .second] [(.int (((2 : Int32).toUInt32 >>> ((15 : Int32) &&& 31).toUInt32).toInt32)), (.ref c1)])) _
    rw [show (((2 : Int32).toUInt32 >>> ((15 : Int32) &&& 31).toUInt32).toInt32) = (0 : Int32) from by decide +kernel]
    show Steps p.tables e below (T1.setTop (mkF m 8 #[.val (.ref a1), .val (.int (2 : Int32)), .val (.long q1), .second] [(.int (0 : Int32)), (.ref c1)])) _
    refine X1.aaload hx (j := (0 : Int32)) (v := (.ref k1)) (by rw [e1]; exact Arr1.1) (State.isArrayOf_alike hZ.alike Arr1.2.1) rfl Arr1.2.2 (inb_of Sr1 ⟨by decide, by decide⟩) (Hr1.at (inb_of Sr1 ⟨by decide, by decide⟩) rfl) (g := (mkF m 8 #[.val (.ref a1), .val (.int (2 : Int32)), .val (.long q1), .second] [(.int (0 : Int32)), (.ref c1)])) rfl rfl (hb hby d4_8) _ ?_
    show Steps p.tables e below (T1.setTop (mkF m 9 #[.val (.ref a1), .val (.int (2 : Int32)), .val (.long q1), .second] [(.ref k1)])) _
    refine XS.iloadN X1.here hx rfl (hb hby d4_9) rfl ?_
    show Steps p.tables e below (T1.setTop (mkF m 10 #[.val (.ref a1), .val (.int (2 : Int32)), .val (.long q1), .second] [(.int (2 : Int32)), (.ref k1)])) _
    refine XS.sipush X1.here hx rfl (hb hby d4_10) ?_
    show Steps p.tables e below (T1.setTop (mkF m 13 #[.val (.ref a1), .val (.int (2 : Int32)), .val (.long q1), .second] [(.int (32767 : Int32)), (.int (2 : Int32)), (.ref k1)])) _
    refine XS.iand X1.here hx rfl (hb hby d4_13) rfl ?_
    show Steps p.tables e below (T1.setTop (mkF m 14 #[.val (.ref a1), .val (.int (2 : Int32)), .val (.long q1), .second] [(.int ((2 : Int32) &&& (32767 : Int32))), (.ref k1)])) _
    rw [show ((2 : Int32) &&& (32767 : Int32)) = (2 : Int32) from by decide +kernel]
    show Steps p.tables e below (T1.setTop (mkF m 14 #[.val (.ref a1), .val (.int (2 : Int32)), .val (.long q1), .second] [(.int (2 : Int32)), (.ref k1)])) _
    refine XS.lloadN X1.here hx rfl (hb hby d4_14) rfl ?_
    show Steps p.tables e below (T1.setTop (mkF m 15 #[.val (.ref a1), .val (.int (2 : Int32)), .val (.long q1), .second] [(.long q1), (.int (2 : Int32)), (.ref k1)])) _
    refine st2 _ ?_
    show Steps p.tables e below (T2.setTop (mkF m 16 #[.val (.ref a1), .val (.int (2 : Int32)), .val (.long q1), .second] [])) _
    exact X2.returnOut hx Bd.returns (hb hby d4_16) hr
  · show Q4_2 Z a1 q1 c1 k1 kc kk x0 x1 x2 h0 n0 _ T2.heap _
    rw [e2]
    exact ⟨rfl, N2, f2_4, f2_5, f2_6, f2_7, f2_9, Z2⟩
theorem d5_0 : decode prog_8_method_3_code 0 = .ok (.aload_n 0, 1) := by decide +kernel
theorem d5_1 : decode prog_8_method_3_code 1 = .ok (.getfield 11, 3) := by decide +kernel
theorem d5_4 : decode prog_8_method_3_code 4 = .ok (.iload_n 1, 1) := by decide +kernel
theorem d5_5 : decode prog_8_method_3_code 5 = .ok (.bipush 15, 2) := by decide +kernel
theorem d5_7 : decode prog_8_method_3_code 7 = .ok (.iushr, 1) := by decide +kernel
theorem d5_8 : decode prog_8_method_3_code 8 = .ok (.aaload, 1) := by decide +kernel
theorem d5_9 : decode prog_8_method_3_code 9 = .ok (.iload_n 1, 1) := by decide +kernel
theorem d5_10 : decode prog_8_method_3_code 10 = .ok (.sipush 32767, 3) := by decide +kernel
theorem d5_13 : decode prog_8_method_3_code 13 = .ok (.iand, 1) := by decide +kernel
theorem d5_14 : decode prog_8_method_3_code 14 = .ok (.laload, 1) := by decide +kernel
theorem d5_15 : decode prog_8_method_3_code 15 = .ok (.lreturn, 1) := by decide +kernel
theorem ef_5 (m : MethodId) (x0 : Addr) (x1 : Int32) : entryFrame m #[(.ref x0), (.int x1)] 2 = mkF m 0 #[.val (.ref x0), .val (.int x1)] [] := by first | (simp [entryFrame, mkF, argsToLocals, Value.category]; done) | rfl
def Q5_0 (Z : State) (a1 : Addr) (c1 k1 : Addr) (kc kk : ClassId) (x0 x1 x2 : Int64) (h0 : Heap) (n0 : Nat) (v : Option Value) (h : Heap) (L : List Loc) : Prop := v = some (.long x0) ∧ Fr n0 L ∧ h = h0
set_option maxRecDepth 65536 in
set_option maxHeartbeats 40000000 in
theorem rm5_0 (l : Launch) (Z : State) (a0 : Array Value) (hw : ∀ d ∈ tables_1, d.before a0 Z = true) (ws : List Jvm.Cond) (a1 : Addr) (c1 k1 : Addr) (kc kk : ClassId) (x0 x1 x2 : Int64) (h0 : Heap) (n0 : Nat) (Z0 : n0 ≤ h0.size) (F_ch : Fld Z h0 a1 "com/example/frigg/frigg/ChunkedLongs" "chunks" "[[J" (.ref c1)) (V_c : Arv Z h0 c1 kc (.array .long) (1 : Int32) [(.ref k1)] .null) (V_k : Arv Z h0 k1 kk .long (32768 : Int32) [(.long x0), (.long x1), (.long x2)] (.long (0 : Int64))) :
    MetFree l (⟨"com/example/frigg/frigg/ChunkedLongs", "get", "(I)J"⟩ : MethodName) (head1 (Jvm.Cond.code (⟨"com/example/frigg/frigg/ChunkedLongs", "get", "(I)J"⟩ : MethodName) prog_8_method_3_code 2 (some .long) :: ws) ({ frames := 0, cells := 0, slots := 0, locals := 0 } : Room)) (fun a U => a = #[(.ref a1), (.int (0 : Int32))] ∧ Z.Warmed39 U.vm ∧ U.heap = h0) (fun _ _ _ _ _ => True) (fun _ U o U' => ∃ v L, o = .returned v ∧ Q5_0 Z a1 c1 k1 kc kk x0 x1 x2 h0 n0 v U'.heap L ∧ FrameEnd U o U' L ({ frames := 0, cells := 0, slots := 0, locals := 0 } : Room).cells ({ frames := 0, cells := 0, slots := 0, locals := 0 } : Room).slots) := by
  refine MetFree.of_bodySF (plainFor_of_name pn_ChunkedLongs) hisR ?_
  intro p e s m args below meth c s₁ Bd hml0 hP hK
  obtain ⟨rfl, hZ, hh⟩ := hP
  have hx := Bd.exec
  have hby := Bd.bytes
  have hml : c.maxLocals = 2 := hml0
  have hown : s.vm.findClass "com/example/frigg/frigg/ChunkedLongs" = some m.cls := findClass_of_methodNamed Bd.named
  have hnm := (name_of_methodNamed Bd.named Bd.method).1
  have X0 : Stand p l e ({ frames := 0, cells := 0, slots := 0, locals := 0 } : Room) s m #[(.ref a1), (.int (0 : Int32))] below meth c s₁ [] 0 0 := Stand.of_body Bd
  have e0 : s₁.heap = h0 := by rw [← hh, Bd.state]; rfl
  have N0 := Fr.nil n0
  have pre0 : ∀ t, Steps p.tables e below (s₁.setTop (mkF m 0 #[.val (.ref a1), .val (.int (0 : Int32))] [])) t → Steps p.tables e below (s₁.setTop (entryFrame m #[(.ref a1), (.int (0 : Int32))] 2)) t := fun t k => castTop (ef_5 m a1 (0 : Int32)) k
  obtain ⟨T1, X1, e1, st1⟩ := getF X0 hx hZ hown (host := "") (Or.inl (hw _ (List.mem_of_getElem? (i := 11) rfl))) Via.refl e0 F_ch (g := (mkF m 1 #[.val (.ref a1), .val (.int (0 : Int32))] [(.ref a1)])) rfl rfl (hb hby d5_1)
  obtain ⟨clr1, Arr1, qr1, Sr1, Mr1, Hr1, Gr1⟩ := id V_c
  obtain ⟨clr2, Arr2, qr2, Sr2, Mr2, Hr2, Gr2⟩ := id V_k
  obtain ⟨fs, hr, hrun, hended, hW, hsame⟩ := X1.leave (v := some (.long x0)) (fun h => by rw [Bd.returns] at h; cases h)
  refine ⟨_, _, pre0 _ ?_, hrun, hended, _, _, rfl, ?_, ⟨_, rfl⟩, hW, hsame.mono (by decide) (by decide)⟩
  · show Steps p.tables e below (s₁.setTop (mkF m 0 #[.val (.ref a1), .val (.int (0 : Int32))] [])) _
    refine XS.aloadN X0.here hx rfl (hb hby d5_0) rfl rfl ?_
    show Steps p.tables e below (s₁.setTop (mkF m 1 #[.val (.ref a1), .val (.int (0 : Int32))] [(.ref a1)])) _
    refine st1 _ ?_
    show Steps p.tables e below (T1.setTop (mkF m 4 #[.val (.ref a1), .val (.int (0 : Int32))] [(.ref c1)])) _
    refine XS.iloadN X1.here hx rfl (hb hby d5_4) rfl ?_
    show Steps p.tables e below (T1.setTop (mkF m 5 #[.val (.ref a1), .val (.int (0 : Int32))] [(.int (0 : Int32)), (.ref c1)])) _
    refine XS.bipush X1.here hx rfl (hb hby d5_5) ?_
    show Steps p.tables e below (T1.setTop (mkF m 7 #[.val (.ref a1), .val (.int (0 : Int32))] [(.int (15 : Int32)), (.int (0 : Int32)), (.ref c1)])) _
    refine XS.iushr X1.here hx rfl (hb hby d5_7) rfl ?_
    show Steps p.tables e below (T1.setTop (mkF m 8 #[.val (.ref a1), .val (.int (0 : Int32))] [(.int (((0 : Int32).toUInt32 >>> ((15 : Int32) &&& 31).toUInt32).toInt32)), (.ref c1)])) _
    rw [show (((0 : Int32).toUInt32 >>> ((15 : Int32) &&& 31).toUInt32).toInt32) = (0 : Int32) from by decide +kernel]
    show Steps p.tables e below (T1.setTop (mkF m 8 #[.val (.ref a1), .val (.int (0 : Int32))] [(.int (0 : Int32)), (.ref c1)])) _
    refine X1.aaload hx (j := (0 : Int32)) (v := (.ref k1)) (by rw [e1]; exact Arr1.1) (State.isArrayOf_alike hZ.alike Arr1.2.1) rfl Arr1.2.2 (inb_of Sr1 ⟨by decide, by decide⟩) (Hr1.at (inb_of Sr1 ⟨by decide, by decide⟩) rfl) (g := (mkF m 8 #[.val (.ref a1), .val (.int (0 : Int32))] [(.int (0 : Int32)), (.ref c1)])) rfl rfl (hb hby d5_8) _ ?_
    show Steps p.tables e below (T1.setTop (mkF m 9 #[.val (.ref a1), .val (.int (0 : Int32))] [(.ref k1)])) _
    refine XS.iloadN X1.here hx rfl (hb hby d5_9) rfl ?_
    show Steps p.tables e below (T1.setTop (mkF m 10 #[.val (.ref a1), .val (.int (0 : Int32))] [(.int (0 : Int32)), (.ref k1)])) _
    refine XS.sipush X1.here hx rfl (hb hby d5_10) ?_
    show Steps p.tables e below (T1.setTop (mkF m 13 #[.val (.ref a1), .val (.int (0 : Int32))] [(.int (32767 : Int32)), (.int (0 : Int32)), (.ref k1)])) _
    refine XS.iand X1.here hx rfl (hb hby d5_13) rfl ?_
    show Steps p.tables e below (T1.setTop (mkF m 14 #[.val (.ref a1), .val (.int (0 : Int32))] [(.int ((0 : Int32) &&& (32767 : Int32))), (.ref k1)])) _
    rw [show ((0 : Int32) &&& (32767 : Int32)) = (0 : Int32) from by decide +kernel]
    show Steps p.tables e below (T1.setTop (mkF m 14 #[.val (.ref a1), .val (.int (0 : Int32))] [(.int (0 : Int32)), (.ref k1)])) _
    refine X1.laload hx (j := (0 : Int32)) (v := (.long x0)) (by rw [e1]; exact Arr2.1) (State.isArrayOf_alike hZ.alike Arr2.2.1) Arr2.2.2 (inb_of Sr2 ⟨by decide, by decide⟩) (Hr2.at (inb_of Sr2 ⟨by decide, by decide⟩) rfl) (g := (mkF m 14 #[.val (.ref a1), .val (.int (0 : Int32))] [(.int (0 : Int32)), (.ref k1)])) rfl rfl (hb hby d5_14) _ ?_
    show Steps p.tables e below (T1.setTop (mkF m 15 #[.val (.ref a1), .val (.int (0 : Int32))] [(.long x0)])) _
    exact X1.lreturnOut hx Bd.returns (hb hby d5_15) hr
  · show Q5_0 Z a1 c1 k1 kc kk x0 x1 x2 h0 n0 _ T1.heap _
    rw [e1]
    exact ⟨rfl, N0, rfl⟩
def Q5_1 (Z : State) (a1 : Addr) (c1 k1 : Addr) (kc kk : ClassId) (x0 x1 x2 : Int64) (h0 : Heap) (n0 : Nat) (v : Option Value) (h : Heap) (L : List Loc) : Prop := v = some (.long x1) ∧ Fr n0 L ∧ h = h0
set_option maxRecDepth 65536 in
set_option maxHeartbeats 40000000 in
theorem rm5_1 (l : Launch) (Z : State) (a0 : Array Value) (hw : ∀ d ∈ tables_1, d.before a0 Z = true) (ws : List Jvm.Cond) (a1 : Addr) (c1 k1 : Addr) (kc kk : ClassId) (x0 x1 x2 : Int64) (h0 : Heap) (n0 : Nat) (Z0 : n0 ≤ h0.size) (F_ch : Fld Z h0 a1 "com/example/frigg/frigg/ChunkedLongs" "chunks" "[[J" (.ref c1)) (V_c : Arv Z h0 c1 kc (.array .long) (1 : Int32) [(.ref k1)] .null) (V_k : Arv Z h0 k1 kk .long (32768 : Int32) [(.long x0), (.long x1), (.long x2)] (.long (0 : Int64))) :
    MetFree l (⟨"com/example/frigg/frigg/ChunkedLongs", "get", "(I)J"⟩ : MethodName) (head1 (Jvm.Cond.code (⟨"com/example/frigg/frigg/ChunkedLongs", "get", "(I)J"⟩ : MethodName) prog_8_method_3_code 2 (some .long) :: ws) ({ frames := 0, cells := 0, slots := 0, locals := 0 } : Room)) (fun a U => a = #[(.ref a1), (.int (1 : Int32))] ∧ Z.Warmed39 U.vm ∧ U.heap = h0) (fun _ _ _ _ _ => True) (fun _ U o U' => ∃ v L, o = .returned v ∧ Q5_1 Z a1 c1 k1 kc kk x0 x1 x2 h0 n0 v U'.heap L ∧ FrameEnd U o U' L ({ frames := 0, cells := 0, slots := 0, locals := 0 } : Room).cells ({ frames := 0, cells := 0, slots := 0, locals := 0 } : Room).slots) := by
  refine MetFree.of_bodySF (plainFor_of_name pn_ChunkedLongs) hisR ?_
  intro p e s m args below meth c s₁ Bd hml0 hP hK
  obtain ⟨rfl, hZ, hh⟩ := hP
  have hx := Bd.exec
  have hby := Bd.bytes
  have hml : c.maxLocals = 2 := hml0
  have hown : s.vm.findClass "com/example/frigg/frigg/ChunkedLongs" = some m.cls := findClass_of_methodNamed Bd.named
  have hnm := (name_of_methodNamed Bd.named Bd.method).1
  have X0 : Stand p l e ({ frames := 0, cells := 0, slots := 0, locals := 0 } : Room) s m #[(.ref a1), (.int (1 : Int32))] below meth c s₁ [] 0 0 := Stand.of_body Bd
  have e0 : s₁.heap = h0 := by rw [← hh, Bd.state]; rfl
  have N0 := Fr.nil n0
  have pre0 : ∀ t, Steps p.tables e below (s₁.setTop (mkF m 0 #[.val (.ref a1), .val (.int (1 : Int32))] [])) t → Steps p.tables e below (s₁.setTop (entryFrame m #[(.ref a1), (.int (1 : Int32))] 2)) t := fun t k => castTop (ef_5 m a1 (1 : Int32)) k
  obtain ⟨T1, X1, e1, st1⟩ := getF X0 hx hZ hown (host := "") (Or.inl (hw _ (List.mem_of_getElem? (i := 11) rfl))) Via.refl e0 F_ch (g := (mkF m 1 #[.val (.ref a1), .val (.int (1 : Int32))] [(.ref a1)])) rfl rfl (hb hby d5_1)
  obtain ⟨clr1, Arr1, qr1, Sr1, Mr1, Hr1, Gr1⟩ := id V_c
  obtain ⟨clr2, Arr2, qr2, Sr2, Mr2, Hr2, Gr2⟩ := id V_k
  obtain ⟨fs, hr, hrun, hended, hW, hsame⟩ := X1.leave (v := some (.long x1)) (fun h => by rw [Bd.returns] at h; cases h)
  refine ⟨_, _, pre0 _ ?_, hrun, hended, _, _, rfl, ?_, ⟨_, rfl⟩, hW, hsame.mono (by decide) (by decide)⟩
  · show Steps p.tables e below (s₁.setTop (mkF m 0 #[.val (.ref a1), .val (.int (1 : Int32))] [])) _
    refine XS.aloadN X0.here hx rfl (hb hby d5_0) rfl rfl ?_
    show Steps p.tables e below (s₁.setTop (mkF m 1 #[.val (.ref a1), .val (.int (1 : Int32))] [(.ref a1)])) _
    refine st1 _ ?_
    show Steps p.tables e below (T1.setTop (mkF m 4 #[.val (.ref a1), .val (.int (1 : Int32))] [(.ref c1)])) _
    refine XS.iloadN X1.here hx rfl (hb hby d5_4) rfl ?_
    show Steps p.tables e below (T1.setTop (mkF m 5 #[.val (.ref a1), .val (.int (1 : Int32))] [(.int (1 : Int32)), (.ref c1)])) _
    refine XS.bipush X1.here hx rfl (hb hby d5_5) ?_
    show Steps p.tables e below (T1.setTop (mkF m 7 #[.val (.ref a1), .val (.int (1 : Int32))] [(.int (15 : Int32)), (.int (1 : Int32)), (.ref c1)])) _
    refine XS.iushr X1.here hx rfl (hb hby d5_7) rfl ?_
    show Steps p.tables e below (T1.setTop (mkF m 8 #[.val (.ref a1), .val (.int (1 : Int32))] [(.int (((1 : Int32).toUInt32 >>> ((15 : Int32) &&& 31).toUInt32).toInt32)), (.ref c1)])) _
    rw [show (((1 : Int32).toUInt32 >>> ((15 : Int32) &&& 31).toUInt32).toInt32) = (0 : Int32) from by decide +kernel]
    show Steps p.tables e below (T1.setTop (mkF m 8 #[.val (.ref a1), .val (.int (1 : Int32))] [(.int (0 : Int32)), (.ref c1)])) _
    refine X1.aaload hx (j := (0 : Int32)) (v := (.ref k1)) (by rw [e1]; exact Arr1.1) (State.isArrayOf_alike hZ.alike Arr1.2.1) rfl Arr1.2.2 (inb_of Sr1 ⟨by decide, by decide⟩) (Hr1.at (inb_of Sr1 ⟨by decide, by decide⟩) rfl) (g := (mkF m 8 #[.val (.ref a1), .val (.int (1 : Int32))] [(.int (0 : Int32)), (.ref c1)])) rfl rfl (hb hby d5_8) _ ?_
    show Steps p.tables e below (T1.setTop (mkF m 9 #[.val (.ref a1), .val (.int (1 : Int32))] [(.ref k1)])) _
    refine XS.iloadN X1.here hx rfl (hb hby d5_9) rfl ?_
    show Steps p.tables e below (T1.setTop (mkF m 10 #[.val (.ref a1), .val (.int (1 : Int32))] [(.int (1 : Int32)), (.ref k1)])) _
    refine XS.sipush X1.here hx rfl (hb hby d5_10) ?_
    show Steps p.tables e below (T1.setTop (mkF m 13 #[.val (.ref a1), .val (.int (1 : Int32))] [(.int (32767 : Int32)), (.int (1 : Int32)), (.ref k1)])) _
    refine XS.iand X1.here hx rfl (hb hby d5_13) rfl ?_
    show Steps p.tables e below (T1.setTop (mkF m 14 #[.val (.ref a1), .val (.int (1 : Int32))] [(.int ((1 : Int32) &&& (32767 : Int32))), (.ref k1)])) _
    rw [show ((1 : Int32) &&& (32767 : Int32)) = (1 : Int32) from by decide +kernel]
    show Steps p.tables e below (T1.setTop (mkF m 14 #[.val (.ref a1), .val (.int (1 : Int32))] [(.int (1 : Int32)), (.ref k1)])) _
    refine X1.laload hx (j := (1 : Int32)) (v := (.long x1)) (by rw [e1]; exact Arr2.1) (State.isArrayOf_alike hZ.alike Arr2.2.1) Arr2.2.2 (inb_of Sr2 ⟨by decide, by decide⟩) (Hr2.at (inb_of Sr2 ⟨by decide, by decide⟩) rfl) (g := (mkF m 14 #[.val (.ref a1), .val (.int (1 : Int32))] [(.int (1 : Int32)), (.ref k1)])) rfl rfl (hb hby d5_14) _ ?_
    show Steps p.tables e below (T1.setTop (mkF m 15 #[.val (.ref a1), .val (.int (1 : Int32))] [(.long x1)])) _
    exact X1.lreturnOut hx Bd.returns (hb hby d5_15) hr
  · show Q5_1 Z a1 c1 k1 kc kk x0 x1 x2 h0 n0 _ T1.heap _
    rw [e1]
    exact ⟨rfl, N0, rfl⟩
def Q5_2 (Z : State) (a1 : Addr) (c1 k1 : Addr) (kc kk : ClassId) (x0 x1 x2 : Int64) (h0 : Heap) (n0 : Nat) (v : Option Value) (h : Heap) (L : List Loc) : Prop := v = some (.long x2) ∧ Fr n0 L ∧ h = h0
set_option maxRecDepth 65536 in
set_option maxHeartbeats 40000000 in
theorem rm5_2 (l : Launch) (Z : State) (a0 : Array Value) (hw : ∀ d ∈ tables_1, d.before a0 Z = true) (ws : List Jvm.Cond) (a1 : Addr) (c1 k1 : Addr) (kc kk : ClassId) (x0 x1 x2 : Int64) (h0 : Heap) (n0 : Nat) (Z0 : n0 ≤ h0.size) (F_ch : Fld Z h0 a1 "com/example/frigg/frigg/ChunkedLongs" "chunks" "[[J" (.ref c1)) (V_c : Arv Z h0 c1 kc (.array .long) (1 : Int32) [(.ref k1)] .null) (V_k : Arv Z h0 k1 kk .long (32768 : Int32) [(.long x0), (.long x1), (.long x2)] (.long (0 : Int64))) :
    MetFree l (⟨"com/example/frigg/frigg/ChunkedLongs", "get", "(I)J"⟩ : MethodName) (head1 (Jvm.Cond.code (⟨"com/example/frigg/frigg/ChunkedLongs", "get", "(I)J"⟩ : MethodName) prog_8_method_3_code 2 (some .long) :: ws) ({ frames := 0, cells := 0, slots := 0, locals := 0 } : Room)) (fun a U => a = #[(.ref a1), (.int (2 : Int32))] ∧ Z.Warmed39 U.vm ∧ U.heap = h0) (fun _ _ _ _ _ => True) (fun _ U o U' => ∃ v L, o = .returned v ∧ Q5_2 Z a1 c1 k1 kc kk x0 x1 x2 h0 n0 v U'.heap L ∧ FrameEnd U o U' L ({ frames := 0, cells := 0, slots := 0, locals := 0 } : Room).cells ({ frames := 0, cells := 0, slots := 0, locals := 0 } : Room).slots) := by
  refine MetFree.of_bodySF (plainFor_of_name pn_ChunkedLongs) hisR ?_
  intro p e s m args below meth c s₁ Bd hml0 hP hK
  obtain ⟨rfl, hZ, hh⟩ := hP
  have hx := Bd.exec
  have hby := Bd.bytes
  have hml : c.maxLocals = 2 := hml0
  have hown : s.vm.findClass "com/example/frigg/frigg/ChunkedLongs" = some m.cls := findClass_of_methodNamed Bd.named
  have hnm := (name_of_methodNamed Bd.named Bd.method).1
  have X0 : Stand p l e ({ frames := 0, cells := 0, slots := 0, locals := 0 } : Room) s m #[(.ref a1), (.int (2 : Int32))] below meth c s₁ [] 0 0 := Stand.of_body Bd
  have e0 : s₁.heap = h0 := by rw [← hh, Bd.state]; rfl
  have N0 := Fr.nil n0
  have pre0 : ∀ t, Steps p.tables e below (s₁.setTop (mkF m 0 #[.val (.ref a1), .val (.int (2 : Int32))] [])) t → Steps p.tables e below (s₁.setTop (entryFrame m #[(.ref a1), (.int (2 : Int32))] 2)) t := fun t k => castTop (ef_5 m a1 (2 : Int32)) k
  obtain ⟨T1, X1, e1, st1⟩ := getF X0 hx hZ hown (host := "") (Or.inl (hw _ (List.mem_of_getElem? (i := 11) rfl))) Via.refl e0 F_ch (g := (mkF m 1 #[.val (.ref a1), .val (.int (2 : Int32))] [(.ref a1)])) rfl rfl (hb hby d5_1)
  obtain ⟨clr1, Arr1, qr1, Sr1, Mr1, Hr1, Gr1⟩ := id V_c
  obtain ⟨clr2, Arr2, qr2, Sr2, Mr2, Hr2, Gr2⟩ := id V_k
  obtain ⟨fs, hr, hrun, hended, hW, hsame⟩ := X1.leave (v := some (.long x2)) (fun h => by rw [Bd.returns] at h; cases h)
  refine ⟨_, _, pre0 _ ?_, hrun, hended, _, _, rfl, ?_, ⟨_, rfl⟩, hW, hsame.mono (by decide) (by decide)⟩
  · show Steps p.tables e below (s₁.setTop (mkF m 0 #[.val (.ref a1), .val (.int (2 : Int32))] [])) _
    refine XS.aloadN X0.here hx rfl (hb hby d5_0) rfl rfl ?_
    show Steps p.tables e below (s₁.setTop (mkF m 1 #[.val (.ref a1), .val (.int (2 : Int32))] [(.ref a1)])) _
    refine st1 _ ?_
    show Steps p.tables e below (T1.setTop (mkF m 4 #[.val (.ref a1), .val (.int (2 : Int32))] [(.ref c1)])) _
    refine XS.iloadN X1.here hx rfl (hb hby d5_4) rfl ?_
    show Steps p.tables e below (T1.setTop (mkF m 5 #[.val (.ref a1), .val (.int (2 : Int32))] [(.int (2 : Int32)), (.ref c1)])) _
    refine XS.bipush X1.here hx rfl (hb hby d5_5) ?_
    show Steps p.tables e below (T1.setTop (mkF m 7 #[.val (.ref a1), .val (.int (2 : Int32))] [(.int (15 : Int32)), (.int (2 : Int32)), (.ref c1)])) _
    refine XS.iushr X1.here hx rfl (hb hby d5_7) rfl ?_
    show Steps p.tables e below (T1.setTop (mkF m 8 #[.val (.ref a1), .val (.int (2 : Int32))] [(.int (((2 : Int32).toUInt32 >>> ((15 : Int32) &&& 31).toUInt32).toInt32)), (.ref c1)])) _
    rw [show (((2 : Int32).toUInt32 >>> ((15 : Int32) &&& 31).toUInt32).toInt32) = (0 : Int32) from by decide +kernel]
    show Steps p.tables e below (T1.setTop (mkF m 8 #[.val (.ref a1), .val (.int (2 : Int32))] [(.int (0 : Int32)), (.ref c1)])) _
    refine X1.aaload hx (j := (0 : Int32)) (v := (.ref k1)) (by rw [e1]; exact Arr1.1) (State.isArrayOf_alike hZ.alike Arr1.2.1) rfl Arr1.2.2 (inb_of Sr1 ⟨by decide, by decide⟩) (Hr1.at (inb_of Sr1 ⟨by decide, by decide⟩) rfl) (g := (mkF m 8 #[.val (.ref a1), .val (.int (2 : Int32))] [(.int (0 : Int32)), (.ref c1)])) rfl rfl (hb hby d5_8) _ ?_
    show Steps p.tables e below (T1.setTop (mkF m 9 #[.val (.ref a1), .val (.int (2 : Int32))] [(.ref k1)])) _
    refine XS.iloadN X1.here hx rfl (hb hby d5_9) rfl ?_
    show Steps p.tables e below (T1.setTop (mkF m 10 #[.val (.ref a1), .val (.int (2 : Int32))] [(.int (2 : Int32)), (.ref k1)])) _
    refine XS.sipush X1.here hx rfl (hb hby d5_10) ?_
    show Steps p.tables e below (T1.setTop (mkF m 13 #[.val (.ref a1), .val (.int (2 : Int32))] [(.int (32767 : Int32)), (.int (2 : Int32)), (.ref k1)])) _
    refine XS.iand X1.here hx rfl (hb hby d5_13) rfl ?_
    show Steps p.tables e below (T1.setTop (mkF m 14 #[.val (.ref a1), .val (.int (2 : Int32))] [(.int ((2 : Int32) &&& (32767 : Int32))), (.ref k1)])) _
    rw [show ((2 : Int32) &&& (32767 : Int32)) = (2 : Int32) from by decide +kernel]
    show Steps p.tables e below (T1.setTop (mkF m 14 #[.val (.ref a1), .val (.int (2 : Int32))] [(.int (2 : Int32)), (.ref k1)])) _
    refine X1.laload hx (j := (2 : Int32)) (v := (.long x2)) (by rw [e1]; exact Arr2.1) (State.isArrayOf_alike hZ.alike Arr2.2.1) Arr2.2.2 (inb_of Sr2 ⟨by decide, by decide⟩) (Hr2.at (inb_of Sr2 ⟨by decide, by decide⟩) rfl) (g := (mkF m 14 #[.val (.ref a1), .val (.int (2 : Int32))] [(.int (2 : Int32)), (.ref k1)])) rfl rfl (hb hby d5_14) _ ?_
    show Steps p.tables e below (T1.setTop (mkF m 15 #[.val (.ref a1), .val (.int (2 : Int32))] [(.long x2)])) _
    exact X1.lreturnOut hx Bd.returns (hb hby d5_15) hr
  · show Q5_2 Z a1 c1 k1 kc kk x0 x1 x2 h0 n0 _ T1.heap _
    rw [e1]
    exact ⟨rfl, N0, rfl⟩
theorem d6_0 : decode prog_8_method_2_code 0 = .ok (.aload_n 0, 1) := by decide +kernel
theorem d6_1 : decode prog_8_method_2_code 1 = .ok (.getfield 15, 3) := by decide +kernel
theorem d6_4 : decode prog_8_method_2_code 4 = .ok (.ireturn, 1) := by decide +kernel
theorem ef_6 (m : MethodId) (x0 : Addr) : entryFrame m #[(.ref x0)] 1 = mkF m 0 #[.val (.ref x0)] [] := by first | (simp [entryFrame, mkF, argsToLocals, Value.category]; done) | rfl
def Q6 (Z : State) (a1 : Addr) (h0 : Heap) (n0 : Nat) (v : Option Value) (h : Heap) (L : List Loc) : Prop := v = some (.int (3 : Int32)) ∧ Fr n0 L ∧ h = h0
set_option maxRecDepth 65536 in
set_option maxHeartbeats 40000000 in
theorem rm6 (l : Launch) (Z : State) (a0 : Array Value) (hw : ∀ d ∈ tables_1, d.before a0 Z = true) (ws : List Jvm.Cond) (a1 : Addr) (h0 : Heap) (n0 : Nat) (Z0 : n0 ≤ h0.size) (F_sz : Fld Z h0 a1 "com/example/frigg/frigg/ChunkedLongs" "size" "I" (.int (3 : Int32))) :
    MetFree l (⟨"com/example/frigg/frigg/ChunkedLongs", "size", "()I"⟩ : MethodName) (head1 (Jvm.Cond.code (⟨"com/example/frigg/frigg/ChunkedLongs", "size", "()I"⟩ : MethodName) prog_8_method_2_code 1 (some .int) :: ws) ({ frames := 0, cells := 0, slots := 0, locals := 0 } : Room)) (fun a U => a = #[(.ref a1)] ∧ Z.Warmed39 U.vm ∧ U.heap = h0) (fun _ _ _ _ _ => True) (fun _ U o U' => ∃ v L, o = .returned v ∧ Q6 Z a1 h0 n0 v U'.heap L ∧ FrameEnd U o U' L ({ frames := 0, cells := 0, slots := 0, locals := 0 } : Room).cells ({ frames := 0, cells := 0, slots := 0, locals := 0 } : Room).slots) := by
  refine MetFree.of_bodySF (plainFor_of_name pn_ChunkedLongs) hisR ?_
  intro p e s m args below meth c s₁ Bd hml0 hP hK
  obtain ⟨rfl, hZ, hh⟩ := hP
  have hx := Bd.exec
  have hby := Bd.bytes
  have hml : c.maxLocals = 1 := hml0
  have hown : s.vm.findClass "com/example/frigg/frigg/ChunkedLongs" = some m.cls := findClass_of_methodNamed Bd.named
  have hnm := (name_of_methodNamed Bd.named Bd.method).1
  have X0 : Stand p l e ({ frames := 0, cells := 0, slots := 0, locals := 0 } : Room) s m #[(.ref a1)] below meth c s₁ [] 0 0 := Stand.of_body Bd
  have e0 : s₁.heap = h0 := by rw [← hh, Bd.state]; rfl
  have N0 := Fr.nil n0
  have pre0 : ∀ t, Steps p.tables e below (s₁.setTop (mkF m 0 #[.val (.ref a1)] [])) t → Steps p.tables e below (s₁.setTop (entryFrame m #[(.ref a1)] 1)) t := fun t k => castTop (ef_6 m a1) k
  obtain ⟨T1, X1, e1, st1⟩ := getF X0 hx hZ hown (host := "") (Or.inl (hw _ (List.mem_of_getElem? (i := 18) rfl))) Via.refl e0 F_sz (g := (mkF m 1 #[.val (.ref a1)] [(.ref a1)])) rfl rfl (hb hby d6_1)
  obtain ⟨fs, hr, hrun, hended, hW, hsame⟩ := X1.leave (v := some (.int (3 : Int32))) (fun h => by rw [Bd.returns] at h; cases h)
  refine ⟨_, _, pre0 _ ?_, hrun, hended, _, _, rfl, ?_, ⟨_, rfl⟩, hW, hsame.mono (by decide) (by decide)⟩
  · show Steps p.tables e below (s₁.setTop (mkF m 0 #[.val (.ref a1)] [])) _
    refine XS.aloadN X0.here hx rfl (hb hby d6_0) rfl rfl ?_
    show Steps p.tables e below (s₁.setTop (mkF m 1 #[.val (.ref a1)] [(.ref a1)])) _
    refine st1 _ ?_
    show Steps p.tables e below (T1.setTop (mkF m 4 #[.val (.ref a1)] [(.int (3 : Int32))])) _
    exact retI X1 hx Bd.returns (hb hby d6_4) hr
  · show Q6 Z a1 h0 n0 _ T1.heap _
    rw [e1]
    exact ⟨rfl, N0, rfl⟩
theorem pd_0 : parseMethodDescriptor "()V" = some ⟨[], none⟩ := by decide +kernel
theorem pd_1 : parseMethodDescriptor "(J)V" = some ⟨[.long], none⟩ := by decide +kernel
theorem pd_2 : parseMethodDescriptor "(IJ)V" = some ⟨[.int, .long], none⟩ := by decide +kernel
theorem pd_3 : parseMethodDescriptor "(I)J" = some ⟨[.int], some .long⟩ := by decide +kernel
theorem pd_4 : parseMethodDescriptor "()I" = some ⟨[], some .int⟩ := by decide +kernel
theorem pn_ChunkedLongsSetPinLaw : plainName "com/example/frigg/frigg/ChunkedLongsSetPinLaw" = true := by first | (simp [plainName, overriddenIn]; done) | decide +kernel
theorem ef_0 (m : MethodId) (x0 : Int32) (x1 : Int64) (x2 : Int64) (x3 : Int64) (x4 : Int64) : entryFrame m #[(.int x0), (.long x1), (.long x2), (.long x3), (.long x4)] maxLocals = mkF m 0 #[.val (.int x0), .val (.long x1), .second, .val (.long x2), .second, .val (.long x3), .second, .val (.long x4), .second, .unset, .unset, .unset, .unset, .unset, .unset, .unset, .unset, .unset, .unset, .unset, .unset, .unset, .unset] [] := by first | (simp [entryFrame, mkF, argsToLocals, Value.category, maxLocals]; done) | rfl
def Q0 (Z : State) (p1 : Int32) (q2 q3 q4 q5 : Int64) (h0 : Heap) (n0 : Nat) (v : Option Value) (h : Heap) (L : List Loc) : Prop := v = some (.int 1) ∧ Fr n0 L
set_option maxRecDepth 65536 in
set_option maxHeartbeats 40000000 in
theorem rm0 (l : Launch) (Z : State) (a0 : Array Value) (hw : ∀ d ∈ tables_1, d.before a0 Z = true) (ws : List Jvm.Cond) (p1 : Int32) (q2 q3 q4 q5 : Int64) (h0 : Heap) (n0 : Nat) (Z0 : n0 ≤ h0.size) :
    MetFree l x (head1 (Jvm.Cond.code x code maxLocals ret :: ws) room_1) (fun a U => a = #[(.int p1), (.long q2), (.long q3), (.long q4), (.long q5)] ∧ Z.Warmed39 U.vm ∧ U.heap = h0) (fun _ _ _ _ _ => True) (fun _ U o U' => ∃ v L, o = .returned v ∧ Q0 Z p1 q2 q3 q4 q5 h0 n0 v U'.heap L ∧ FrameEnd U o U' L room_1.cells room_1.slots) := by
  refine MetFree.of_bodySF (plainFor_of_name pn_ChunkedLongsSetPinLaw) hisR ?_
  intro p e s m args below meth c s₁ Bd hml0 hP hK
  obtain ⟨rfl, hZ, hh⟩ := hP
  have hx := Bd.exec
  have hby := Bd.bytes
  have hml : c.maxLocals = 23 := hml0
  have hown : s.vm.findClass "com/example/frigg/frigg/ChunkedLongsSetPinLaw" = some m.cls := findClass_of_methodNamed Bd.named
  have hnm := (name_of_methodNamed Bd.named Bd.method).1
  have X0 : Stand p l e room_1 s m #[(.int p1), (.long q2), (.long q3), (.long q4), (.long q5)] below meth c s₁ [] 0 0 := Stand.of_body Bd
  have e0 : s₁.heap = h0 := by rw [← hh, Bd.state]; rfl
  have N0 := Fr.nil n0
  have pre0 : ∀ t, Steps p.tables e below (s₁.setTop (mkF m 0 #[.val (.int p1), .val (.long q2), .second, .val (.long q3), .second, .val (.long q4), .second, .val (.long q5), .second, .unset, .unset, .unset, .unset, .unset, .unset, .unset, .unset, .unset, .unset, .unset, .unset, .unset, .unset] [])) t → Steps p.tables e below (s₁.setTop (entryFrame m #[(.int p1), (.long q2), (.long q3), (.long q4), (.long q5)] maxLocals)) t := fun t k => castTop (ef_0 m p1 q2 q3 q4 q5) k
  rcases own_k p1 with hk | hk | hk
  · obtain ⟨T1, h1, X1, e1, E1, A1, D1, -, st1⟩ := newO X0 hx hZ hown (hw _ (List.mem_of_getElem? (i := 0) rfl)) (hw _ (List.mem_of_getElem? (i := 1) rfl)) (hw _ (List.mem_of_getElem? (i := 2) rfl)) e0 (g := (mkF m 0 #[.val (.int p1), .val (.long q2), .second, .val (.long q3), .second, .val (.long q4), .second, .val (.long q5), .second, .unset, .unset, .unset, .unset, .unset, .unset, .unset, .unset, .unset, .unset, .unset, .unset, .unset, .unset] [])) rfl (hb hby at_0) (by decide) (by decide)
    obtain ⟨b1, g1⟩ : ∃ z, z = h0.size := ⟨_, rfl⟩
    rw [← g1] at A1 st1 D1
    have fr_b1 : n0 ≤ b1 := Nat.le_trans Z0 (Nat.le_of_eq g1.symm)
    have Z1 : n0 ≤ h1.size := Nat.le_trans Z0 E1.1
    have f1_5 : Exa Z h1 b1 "com/example/frigg/frigg/ChunkedLongs" := A1
    have f1_6 : Fld Z h1 b1 "com/example/frigg/frigg/ChunkedLongs" "chunks" "[[J" .null := D1 (Or.inl (hw _ (List.mem_of_getElem? (i := 12) rfl))) (ty := (.array (.array .long))) (by decide)
    have f1_7 : Fld Z h1 b1 "com/example/frigg/frigg/ChunkedLongs" "size" "I" (.int (0 : Int32)) := D1 (Or.inl (hw _ (List.mem_of_getElem? (i := 19) rfl))) (ty := .int) (by decide)
    obtain ⟨_, _, ⟨T2, L2, k2, n2⟩, -, X2, ⟨Lc2, hQ2, l2, y2, z2⟩, st2⟩ := X1.specialBack hx (y := (⟨"com/example/frigg/frigg/ChunkedLongs", "<init>", "()V"⟩ : MethodName)) rfl hown (mvT hZ (hw _ (List.mem_of_getElem? (i := 3) rfl))) (mvT hZ (hw _ (List.mem_of_getElem? (i := 4) rfl))) (mvT hZ (hw _ (List.mem_of_getElem? (i := 5) rfl))) (by decide) (backOf (W := 1) (rm1 l Z a0 hw [] b1 h1 n0 Z1 f1_5 f1_6 f1_7 fr_b1) hZ (hw _ (List.mem_of_getElem? (i := 5) rfl)) (hw _ (List.mem_of_getElem? (i := 2) rfl)) (by decide) (by decide)) (g := (mkF m 4 #[.val (.int p1), .val (.long q2), .second, .val (.long q3), .second, .val (.long q4), .second, .val (.long q5), .second, .unset, .unset, .unset, .unset, .unset, .unset, .unset, .unset, .unset, .unset, .unset, .unset, .unset, .unset] [(.ref b1), (.ref b1)])) rfl (by rw [hml]; rfl) (Steps.refl _) (a := b1) (argsL := []) (rest := [(.ref b1)]) (lenOf pd_0 rfl) rfl (by show 2 * 0 + _ ≤ _; exact Nat.le_of_eq rfl) (hb hby at_4) (fun _ _ => ⟨rfl, e1, (by decide : 1 + 1 ≤ _), (by decide : 2 + 1 ≤ _)⟩)
    dsimp only [Pt.U, Pt.locs, Pt.cells, Pt.slots] at X2 l2 y2 z2 st2 hQ2
    subst l2 y2 z2
    obtain ⟨rfl, N2q, c1, kc, E1, F1, G1, V1, O1, gc, nac, Z1c⟩ := hQ2
    have N2 := Fr.app N0 N2q
    obtain ⟨cq3, kq3, q3a, q3b, q3c⟩ := isOf hZ rfl E1
    obtain ⟨_, _, ⟨T3, L3, k3, n3⟩, -, X3, ⟨Lc3, hQ3, l3, y3, z3⟩, st3⟩ := X2.virtualBack hx (y := (⟨"com/example/frigg/frigg/ChunkedLongs", "add", "(J)V"⟩ : MethodName)) (z := (⟨"com/example/frigg/frigg/ChunkedLongs", "add", "(J)V"⟩ : MethodName)) hown (mvT hZ (hw _ (List.mem_of_getElem? (i := 13) rfl))) (mvT hZ (hw _ (List.mem_of_getElem? (i := 14) rfl))) (notFace_of_selects (args := #[]) (mvT hZ (hw _ (List.mem_of_getElem? (i := 16) rfl)))) (mvT hZ (hw _ (List.mem_of_getElem? (i := 16) rfl))) (mvT hZ (hw _ (List.mem_of_getElem? (i := 15) rfl))) (by decide) (backOf (W := 0) (rm3_0 l Z a0 hw [] b1 q3 c1 kc T2.heap n0 Z1c E1 F1 G1 V1 O1 fr_b1 gc nac) hZ (hw _ (List.mem_of_getElem? (i := 17) rfl)) (hw _ (List.mem_of_getElem? (i := 2) rfl)) (by decide) (by decide)) q3a q3c (g := (mkF m 12 #[.val (.int p1), .val (.long q2), .second, .val (.long q3), .second, .val (.long q4), .second, .val (.long q5), .second, .val (.ref b1), .unset, .unset, .unset, .unset, .unset, .unset, .unset, .unset, .unset, .unset, .unset, .unset, .unset] [(.long q3), (.ref b1)])) rfl (by rw [hml]; rfl) (Steps.refl _) (argsL := [(.long q3)]) (rest := []) (lenOf pd_1 rfl) rfl (by show 2 * 0 + _ ≤ _; exact Nat.le_of_eq rfl) (hb hby at_12) (fun _ _ => ⟨rfl, rfl, (by decide : 2 + 1 ≤ _), (by decide : 3 + 32768 ≤ _)⟩)
    dsimp only [Pt.U, Pt.locs, Pt.cells, Pt.slots] at X3 l3 y3 z3 st3 hQ3
    subst l3 y3 z3
    obtain ⟨rfl, N3q, k1, kk, E2, F2, G2, V2, U2, gk, nak, nck, Z2c⟩ := hQ3
    have N3 := Fr.app N2 N3q
    obtain ⟨cq4, kq4, q4a, q4b, q4c⟩ := isOf hZ rfl E2
    obtain ⟨_, _, ⟨T4, L4, k4, n4⟩, -, X4, ⟨Lc4, hQ4, l4, y4, z4⟩, st4⟩ := X3.virtualBack hx (y := (⟨"com/example/frigg/frigg/ChunkedLongs", "add", "(J)V"⟩ : MethodName)) (z := (⟨"com/example/frigg/frigg/ChunkedLongs", "add", "(J)V"⟩ : MethodName)) hown (mvT hZ (hw _ (List.mem_of_getElem? (i := 13) rfl))) (mvT hZ (hw _ (List.mem_of_getElem? (i := 14) rfl))) (notFace_of_selects (args := #[]) (mvT hZ (hw _ (List.mem_of_getElem? (i := 16) rfl)))) (mvT hZ (hw _ (List.mem_of_getElem? (i := 16) rfl))) (mvT hZ (hw _ (List.mem_of_getElem? (i := 15) rfl))) (by decide) (backOf (W := 0) (rm3_1 l Z a0 hw [] b1 q4 c1 k1 kc kk q3 T3.heap n0 Z2c E2 F2 G2 V2 U2 fr_b1 gc gk nac nak nck) hZ (hw _ (List.mem_of_getElem? (i := 17) rfl)) (hw _ (List.mem_of_getElem? (i := 2) rfl)) (by decide) (by decide)) q4a q4c (g := (mkF m 19 #[.val (.int p1), .val (.long q2), .second, .val (.long q3), .second, .val (.long q4), .second, .val (.long q5), .second, .val (.ref b1), .unset, .unset, .unset, .unset, .unset, .unset, .unset, .unset, .unset, .unset, .unset, .unset, .unset] [(.long q4), (.ref b1)])) rfl (by rw [hml]; rfl) (Steps.refl _) (argsL := [(.long q4)]) (rest := []) (lenOf pd_1 rfl) rfl (by show 2 * 0 + _ ≤ _; exact Nat.le_of_eq rfl) (hb hby at_19) (fun _ _ => ⟨rfl, rfl, (by decide : 3 + 0 ≤ _), (by decide : 32771 + 0 ≤ _)⟩)
    dsimp only [Pt.U, Pt.locs, Pt.cells, Pt.slots] at X4 l4 y4 z4 st4 hQ4
    subst l4 y4 z4
    obtain ⟨rfl, N4q, E3, F3, G3, V3, U3, Z3c⟩ := hQ4
    have N4 := Fr.app N3 N4q
    obtain ⟨cq5, kq5, q5a, q5b, q5c⟩ := isOf hZ rfl E3
    obtain ⟨_, _, ⟨T5, L5, k5, n5⟩, -, X5, ⟨Lc5, hQ5, l5, y5, z5⟩, st5⟩ := X4.virtualBack hx (y := (⟨"com/example/frigg/frigg/ChunkedLongs", "add", "(J)V"⟩ : MethodName)) (z := (⟨"com/example/frigg/frigg/ChunkedLongs", "add", "(J)V"⟩ : MethodName)) hown (mvT hZ (hw _ (List.mem_of_getElem? (i := 13) rfl))) (mvT hZ (hw _ (List.mem_of_getElem? (i := 14) rfl))) (notFace_of_selects (args := #[]) (mvT hZ (hw _ (List.mem_of_getElem? (i := 16) rfl)))) (mvT hZ (hw _ (List.mem_of_getElem? (i := 16) rfl))) (mvT hZ (hw _ (List.mem_of_getElem? (i := 15) rfl))) (by decide) (backOf (W := 0) (rm3_2 l Z a0 hw [] b1 q5 c1 k1 kc kk q3 q4 T4.heap n0 Z3c E3 F3 G3 V3 U3 fr_b1 gc gk nac nak nck) hZ (hw _ (List.mem_of_getElem? (i := 17) rfl)) (hw _ (List.mem_of_getElem? (i := 2) rfl)) (by decide) (by decide)) q5a q5c (g := (mkF m 26 #[.val (.int p1), .val (.long q2), .second, .val (.long q3), .second, .val (.long q4), .second, .val (.long q5), .second, .val (.ref b1), .unset, .unset, .unset, .unset, .unset, .unset, .unset, .unset, .unset, .unset, .unset, .unset, .unset] [(.long q5), (.ref b1)])) rfl (by rw [hml]; rfl) (Steps.refl _) (argsL := [(.long q5)]) (rest := []) (lenOf pd_1 rfl) rfl (by show 2 * 0 + _ ≤ _; exact Nat.le_of_eq rfl) (hb hby at_26) (fun _ _ => ⟨rfl, rfl, (by decide : 3 + 0 ≤ _), (by decide : 32771 + 0 ≤ _)⟩)
    dsimp only [Pt.U, Pt.locs, Pt.cells, Pt.slots] at X5 l5 y5 z5 st5 hQ5
    subst l5 y5 z5
    obtain ⟨rfl, N5q, E4, F4, G4, V4, U4, Z4c⟩ := hQ5
    have N5 := Fr.app N4 N5q
    obtain ⟨cq6, kq6, q6a, q6b, q6c⟩ := isOf hZ rfl E4
    obtain ⟨_, _, ⟨T6, L6, k6, n6⟩, -, X6, ⟨Lc6, hQ6, l6, y6, z6⟩, st6⟩ := X5.virtualBack hx (y := (⟨"com/example/frigg/frigg/ChunkedLongs", "set", "(IJ)V"⟩ : MethodName)) (z := (⟨"com/example/frigg/frigg/ChunkedLongs", "set", "(IJ)V"⟩ : MethodName)) hown (mvT hZ (hw _ (List.mem_of_getElem? (i := 24) rfl))) (mvT hZ (hw _ (List.mem_of_getElem? (i := 25) rfl))) (notFace_of_selects (args := #[]) (mvT hZ (hw _ (List.mem_of_getElem? (i := 27) rfl)))) (mvT hZ (hw _ (List.mem_of_getElem? (i := 27) rfl))) (mvT hZ (hw _ (List.mem_of_getElem? (i := 26) rfl))) (by decide) (backOf (W := 0) (rm4_0 l Z a0 hw [] b1 q2 c1 k1 kc kk q3 q4 q5 T5.heap n0 Z4c E4 F4 G4 V4 U4 fr_b1 gc gk nac nak nck) hZ (hw _ (List.mem_of_getElem? (i := 28) rfl)) (hw _ (List.mem_of_getElem? (i := 2) rfl)) (by decide) (by decide)) q6a q6c (g := (mkF m 42 #[.val (.int p1), .val (.long q2), .second, .val (.long q3), .second, .val (.long q4), .second, .val (.long q5), .second, .val (.ref b1), .val (.int (0 : Int32)), .unset, .unset, .unset, .unset, .unset, .unset, .unset, .unset, .unset, .unset, .unset, .unset] [(.long q2), (.int (0 : Int32)), (.ref b1)])) rfl (by rw [hml]; rfl) (Steps.refl _) (argsL := [(.int (0 : Int32)), (.long q2)]) (rest := []) (lenOf pd_2 rfl) rfl (by show 2 * 0 + _ ≤ _; exact Nat.le_of_eq rfl) (hb hby at_42) (fun _ _ => ⟨rfl, rfl, (by decide : 3 + 0 ≤ _), (by decide : 32771 + 0 ≤ _)⟩)
    dsimp only [Pt.U, Pt.locs, Pt.cells, Pt.slots] at X6 l6 y6 z6 st6 hQ6
    subst l6 y6 z6
    obtain ⟨rfl, N6q, E5, F5, G5, V5, U5, Z5c⟩ := hQ6
    have N6 := Fr.app N5 N6q
    obtain ⟨cq7, kq7, q7a, q7b, q7c⟩ := isOf hZ rfl E5
    obtain ⟨_, _, ⟨T7, L7, k7, n7⟩, -, X7, ⟨Lc7, hQ7, l7, y7, z7⟩, st7⟩ := X6.virtualBack hx (y := (⟨"com/example/frigg/frigg/ChunkedLongs", "get", "(I)J"⟩ : MethodName)) (z := (⟨"com/example/frigg/frigg/ChunkedLongs", "get", "(I)J"⟩ : MethodName)) hown (mvT hZ (hw _ (List.mem_of_getElem? (i := 29) rfl))) (mvT hZ (hw _ (List.mem_of_getElem? (i := 30) rfl))) (notFace_of_selects (args := #[]) (mvT hZ (hw _ (List.mem_of_getElem? (i := 32) rfl)))) (mvT hZ (hw _ (List.mem_of_getElem? (i := 32) rfl))) (mvT hZ (hw _ (List.mem_of_getElem? (i := 31) rfl))) (by decide) (backOf (W := 0) (rm5_0 l Z a0 hw [] b1 c1 k1 kc kk q2 q4 q5 T6.heap n0 Z5c F5 V5 U5) hZ (hw _ (List.mem_of_getElem? (i := 33) rfl)) (hw _ (List.mem_of_getElem? (i := 2) rfl)) (by decide) (by decide)) q7a q7c (g := (mkF m 48 #[.val (.int p1), .val (.long q2), .second, .val (.long q3), .second, .val (.long q4), .second, .val (.long q5), .second, .val (.ref b1), .val (.int (0 : Int32)), .unset, .unset, .unset, .unset, .unset, .unset, .unset, .unset, .unset, .unset, .unset, .unset] [(.int (0 : Int32)), (.ref b1)])) rfl (by rw [hml]; rfl) (Steps.refl _) (argsL := [(.int (0 : Int32))]) (rest := []) (lenOf pd_3 rfl) rfl (by show 2 * 0 + _ ≤ _; exact Nat.le_of_eq rfl) (hb hby at_48) (fun _ _ => ⟨rfl, rfl, (by decide : 3 + 0 ≤ _), (by decide : 32771 + 0 ≤ _)⟩)
    dsimp only [Pt.U, Pt.locs, Pt.cells, Pt.slots] at X7 l7 y7 z7 st7 hQ7
    subst l7 y7 z7
    obtain ⟨rfl, N7q, eq7⟩ := hQ7
    have N7 := Fr.app N6 N7q
    obtain ⟨cq8, kq8, q8a, q8b, q8c⟩ := isOf hZ eq7 E5
    obtain ⟨_, _, ⟨T8, L8, k8, n8⟩, -, X8, ⟨Lc8, hQ8, l8, y8, z8⟩, st8⟩ := X7.virtualBack hx (y := (⟨"com/example/frigg/frigg/ChunkedLongs", "get", "(I)J"⟩ : MethodName)) (z := (⟨"com/example/frigg/frigg/ChunkedLongs", "get", "(I)J"⟩ : MethodName)) hown (mvT hZ (hw _ (List.mem_of_getElem? (i := 29) rfl))) (mvT hZ (hw _ (List.mem_of_getElem? (i := 30) rfl))) (notFace_of_selects (args := #[]) (mvT hZ (hw _ (List.mem_of_getElem? (i := 32) rfl)))) (mvT hZ (hw _ (List.mem_of_getElem? (i := 32) rfl))) (mvT hZ (hw _ (List.mem_of_getElem? (i := 31) rfl))) (by decide) (backOf (W := 0) (rm5_1 l Z a0 hw [] b1 c1 k1 kc kk q2 q4 q5 T6.heap n0 Z5c F5 V5 U5) hZ (hw _ (List.mem_of_getElem? (i := 33) rfl)) (hw _ (List.mem_of_getElem? (i := 2) rfl)) (by decide) (by decide)) q8a q8c (g := (mkF m 56 #[.val (.int p1), .val (.long q2), .second, .val (.long q3), .second, .val (.long q4), .second, .val (.long q5), .second, .val (.ref b1), .val (.int (0 : Int32)), .val (.long q2), .second, .unset, .unset, .unset, .unset, .unset, .unset, .unset, .unset, .unset, .unset] [(.int (1 : Int32)), (.ref b1)])) rfl (by rw [hml]; rfl) (Steps.refl _) (argsL := [(.int (1 : Int32))]) (rest := []) (lenOf pd_3 rfl) rfl (by show 2 * 0 + _ ≤ _; exact Nat.le_of_eq rfl) (hb hby at_56) (fun _ _ => ⟨rfl, eq7, (by decide : 3 + 0 ≤ _), (by decide : 32771 + 0 ≤ _)⟩)
    dsimp only [Pt.U, Pt.locs, Pt.cells, Pt.slots] at X8 l8 y8 z8 st8 hQ8
    subst l8 y8 z8
    obtain ⟨rfl, N8q, eq8⟩ := hQ8
    have N8 := Fr.app N7 N8q
    obtain ⟨cq9, kq9, q9a, q9b, q9c⟩ := isOf hZ eq8 E5
    obtain ⟨_, _, ⟨T9, L9, k9, n9⟩, -, X9, ⟨Lc9, hQ9, l9, y9, z9⟩, st9⟩ := X8.virtualBack hx (y := (⟨"com/example/frigg/frigg/ChunkedLongs", "get", "(I)J"⟩ : MethodName)) (z := (⟨"com/example/frigg/frigg/ChunkedLongs", "get", "(I)J"⟩ : MethodName)) hown (mvT hZ (hw _ (List.mem_of_getElem? (i := 29) rfl))) (mvT hZ (hw _ (List.mem_of_getElem? (i := 30) rfl))) (notFace_of_selects (args := #[]) (mvT hZ (hw _ (List.mem_of_getElem? (i := 32) rfl)))) (mvT hZ (hw _ (List.mem_of_getElem? (i := 32) rfl))) (mvT hZ (hw _ (List.mem_of_getElem? (i := 31) rfl))) (by decide) (backOf (W := 0) (rm5_2 l Z a0 hw [] b1 c1 k1 kc kk q2 q4 q5 T6.heap n0 Z5c F5 V5 U5) hZ (hw _ (List.mem_of_getElem? (i := 33) rfl)) (hw _ (List.mem_of_getElem? (i := 2) rfl)) (by decide) (by decide)) q9a q9c (g := (mkF m 64 #[.val (.int p1), .val (.long q2), .second, .val (.long q3), .second, .val (.long q4), .second, .val (.long q5), .second, .val (.ref b1), .val (.int (0 : Int32)), .val (.long q2), .second, .val (.long q4), .second, .unset, .unset, .unset, .unset, .unset, .unset, .unset, .unset] [(.int (2 : Int32)), (.ref b1)])) rfl (by rw [hml]; rfl) (Steps.refl _) (argsL := [(.int (2 : Int32))]) (rest := []) (lenOf pd_3 rfl) rfl (by show 2 * 0 + _ ≤ _; exact Nat.le_of_eq rfl) (hb hby at_64) (fun _ _ => ⟨rfl, eq8, (by decide : 3 + 0 ≤ _), (by decide : 32771 + 0 ≤ _)⟩)
    dsimp only [Pt.U, Pt.locs, Pt.cells, Pt.slots] at X9 l9 y9 z9 st9 hQ9
    subst l9 y9 z9
    obtain ⟨rfl, N9q, eq9⟩ := hQ9
    have N9 := Fr.app N8 N9q
    obtain ⟨cq10, kq10, q10a, q10b, q10c⟩ := isOf hZ eq9 E5
    obtain ⟨_, _, ⟨T10, L10, k10, n10⟩, -, X10, ⟨Lc10, hQ10, l10, y10, z10⟩, st10⟩ := X9.virtualBack hx (y := (⟨"com/example/frigg/frigg/ChunkedLongs", "size", "()I"⟩ : MethodName)) (z := (⟨"com/example/frigg/frigg/ChunkedLongs", "size", "()I"⟩ : MethodName)) hown (mvT hZ (hw _ (List.mem_of_getElem? (i := 34) rfl))) (mvT hZ (hw _ (List.mem_of_getElem? (i := 35) rfl))) (notFace_of_selects (args := #[]) (mvT hZ (hw _ (List.mem_of_getElem? (i := 37) rfl)))) (mvT hZ (hw _ (List.mem_of_getElem? (i := 37) rfl))) (mvT hZ (hw _ (List.mem_of_getElem? (i := 36) rfl))) (by decide) (backOf (W := 0) (rm6 l Z a0 hw [] b1 T6.heap n0 Z5c G5) hZ (hw _ (List.mem_of_getElem? (i := 38) rfl)) (hw _ (List.mem_of_getElem? (i := 2) rfl)) (by decide) (by decide)) q10a q10c (g := (mkF m 135 #[.val (.int p1), .val (.long q2), .second, .val (.long q3), .second, .val (.long q4), .second, .val (.long q5), .second, .val (.ref b1), .val (.int (0 : Int32)), .val (.long q2), .second, .val (.long q4), .second, .val (.long q5), .second, .val (.long q2), .second, .val (.long q4), .second, .val (.long q5), .second] [(.ref b1)])) rfl (by rw [hml]; rfl) (Steps.refl _) (argsL := []) (rest := []) (lenOf pd_4 rfl) rfl (by show 2 * 0 + _ ≤ _; exact Nat.le_of_eq rfl) (hb hby at_135) (fun _ _ => ⟨rfl, eq9, (by decide : 3 + 0 ≤ _), (by decide : 32771 + 0 ≤ _)⟩)
    dsimp only [Pt.U, Pt.locs, Pt.cells, Pt.slots] at X10 l10 y10 z10 st10 hQ10
    subst l10 y10 z10
    obtain ⟨rfl, N10q, eq10⟩ := hQ10
    have N10 := Fr.app N9 N10q
    obtain ⟨fs, hr, hrun, hended, hW, hsame⟩ := X10.leave (v := some (.int (1 : Int32))) (fun h => by rw [Bd.returns] at h; cases h)
    refine ⟨_, _, pre0 _ ?_, hrun, hended, _, _, rfl, ?_, ⟨_, rfl⟩, hW, hsame.mono (by decide) (by decide)⟩
    · show Steps p.tables e below (s₁.setTop (mkF m 0 #[.val (.int p1), .val (.long q2), .second, .val (.long q3), .second, .val (.long q4), .second, .val (.long q5), .second, .unset, .unset, .unset, .unset, .unset, .unset, .unset, .unset, .unset, .unset, .unset, .unset, .unset, .unset] [])) _
      refine st1 _ ?_
      show Steps p.tables e below (T1.setTop (mkF m 3 #[.val (.int p1), .val (.long q2), .second, .val (.long q3), .second, .val (.long q4), .second, .val (.long q5), .second, .unset, .unset, .unset, .unset, .unset, .unset, .unset, .unset, .unset, .unset, .unset, .unset, .unset, .unset] [(.ref b1)])) _
      refine XS.dup X1.here hx rfl (hb hby at_3) rfl rfl ?_
      show Steps p.tables e below (T1.setTop (mkF m 4 #[.val (.int p1), .val (.long q2), .second, .val (.long q3), .second, .val (.long q4), .second, .val (.long q5), .second, .unset, .unset, .unset, .unset, .unset, .unset, .unset, .unset, .unset, .unset, .unset, .unset, .unset, .unset] [(.ref b1), (.ref b1)])) _
      refine st2.trans ?_
      show Steps p.tables e below (T2.setTop (mkF m 7 #[.val (.int p1), .val (.long q2), .second, .val (.long q3), .second, .val (.long q4), .second, .val (.long q5), .second, .unset, .unset, .unset, .unset, .unset, .unset, .unset, .unset, .unset, .unset, .unset, .unset, .unset, .unset] [(.ref b1)])) _
      refine XS.astore X2.here hx rfl (hb hby at_7) rfl rfl (l' := #[.val (.int p1), .val (.long q2), .second, .val (.long q3), .second, .val (.long q4), .second, .val (.long q5), .second, .val (.ref b1), .unset, .unset, .unset, .unset, .unset, .unset, .unset, .unset, .unset, .unset, .unset, .unset, .unset]) rfl ?_
      show Steps p.tables e below (T2.setTop (mkF m 9 #[.val (.int p1), .val (.long q2), .second, .val (.long q3), .second, .val (.long q4), .second, .val (.long q5), .second, .val (.ref b1), .unset, .unset, .unset, .unset, .unset, .unset, .unset, .unset, .unset, .unset, .unset, .unset, .unset] [])) _
      refine XS.aload X2.here hx rfl (hb hby at_9) rfl rfl ?_
      show Steps p.tables e below (T2.setTop (mkF m 11 #[.val (.int p1), .val (.long q2), .second, .val (.long q3), .second, .val (.long q4), .second, .val (.long q5), .second, .val (.ref b1), .unset, .unset, .unset, .unset, .unset, .unset, .unset, .unset, .unset, .unset, .unset, .unset, .unset] [(.ref b1)])) _
      refine XS.lloadN X2.here hx rfl (hb hby at_11) rfl ?_
      show Steps p.tables e below (T2.setTop (mkF m 12 #[.val (.int p1), .val (.long q2), .second, .val (.long q3), .second, .val (.long q4), .second, .val (.long q5), .second, .val (.ref b1), .unset, .unset, .unset, .unset, .unset, .unset, .unset, .unset, .unset, .unset, .unset, .unset, .unset] [(.long q3), (.ref b1)])) _
      refine st3.trans ?_
      show Steps p.tables e below (T3.setTop (mkF m 15 #[.val (.int p1), .val (.long q2), .second, .val (.long q3), .second, .val (.long q4), .second, .val (.long q5), .second, .val (.ref b1), .unset, .unset, .unset, .unset, .unset, .unset, .unset, .unset, .unset, .unset, .unset, .unset, .unset] [])) _
      refine XS.aload X3.here hx rfl (hb hby at_15) rfl rfl ?_
      show Steps p.tables e below (T3.setTop (mkF m 17 #[.val (.int p1), .val (.long q2), .second, .val (.long q3), .second, .val (.long q4), .second, .val (.long q5), .second, .val (.ref b1), .unset, .unset, .unset, .unset, .unset, .unset, .unset, .unset, .unset, .unset, .unset, .unset, .unset] [(.ref b1)])) _
      refine XS.lload X3.here hx rfl (hb hby at_17) rfl ?_
      show Steps p.tables e below (T3.setTop (mkF m 19 #[.val (.int p1), .val (.long q2), .second, .val (.long q3), .second, .val (.long q4), .second, .val (.long q5), .second, .val (.ref b1), .unset, .unset, .unset, .unset, .unset, .unset, .unset, .unset, .unset, .unset, .unset, .unset, .unset] [(.long q4), (.ref b1)])) _
      refine st4.trans ?_
      show Steps p.tables e below (T4.setTop (mkF m 22 #[.val (.int p1), .val (.long q2), .second, .val (.long q3), .second, .val (.long q4), .second, .val (.long q5), .second, .val (.ref b1), .unset, .unset, .unset, .unset, .unset, .unset, .unset, .unset, .unset, .unset, .unset, .unset, .unset] [])) _
      refine XS.aload X4.here hx rfl (hb hby at_22) rfl rfl ?_
      show Steps p.tables e below (T4.setTop (mkF m 24 #[.val (.int p1), .val (.long q2), .second, .val (.long q3), .second, .val (.long q4), .second, .val (.long q5), .second, .val (.ref b1), .unset, .unset, .unset, .unset, .unset, .unset, .unset, .unset, .unset, .unset, .unset, .unset, .unset] [(.ref b1)])) _
      refine XS.lload X4.here hx rfl (hb hby at_24) rfl ?_
      show Steps p.tables e below (T4.setTop (mkF m 26 #[.val (.int p1), .val (.long q2), .second, .val (.long q3), .second, .val (.long q4), .second, .val (.long q5), .second, .val (.ref b1), .unset, .unset, .unset, .unset, .unset, .unset, .unset, .unset, .unset, .unset, .unset, .unset, .unset] [(.long q5), (.ref b1)])) _
      refine st5.trans ?_
      show Steps p.tables e below (T5.setTop (mkF m 29 #[.val (.int p1), .val (.long q2), .second, .val (.long q3), .second, .val (.long q4), .second, .val (.long q5), .second, .val (.ref b1), .unset, .unset, .unset, .unset, .unset, .unset, .unset, .unset, .unset, .unset, .unset, .unset, .unset] [])) _
      refine XS.iloadN X5.here hx rfl (hb hby at_29) rfl ?_
      show Steps p.tables e below (T5.setTop (mkF m 30 #[.val (.int p1), .val (.long q2), .second, .val (.long q3), .second, .val (.long q4), .second, .val (.long q5), .second, .val (.ref b1), .unset, .unset, .unset, .unset, .unset, .unset, .unset, .unset, .unset, .unset, .unset, .unset, .unset] [(.int p1)])) _
      refine X5.ldcInt hx hown (mvT hZ (hw _ (List.mem_of_getElem? (i := 23) rfl))) (g := (mkF m 30 #[.val (.int p1), .val (.long q2), .second, .val (.long q3), .second, .val (.long q4), .second, .val (.long q5), .second, .val (.ref b1), .unset, .unset, .unset, .unset, .unset, .unset, .unset, .unset, .unset, .unset, .unset, .unset, .unset] [(.int p1)])) rfl (hb hby at_30) _ ?_
      show Steps p.tables e below (T5.setTop (mkF m 32 #[.val (.int p1), .val (.long q2), .second, .val (.long q3), .second, .val (.long q4), .second, .val (.long q5), .second, .val (.ref b1), .unset, .unset, .unset, .unset, .unset, .unset, .unset, .unset, .unset, .unset, .unset, .unset, .unset] [(.int (2147483647 : Int32)), (.int p1)])) _
      refine XS.iand X5.here hx rfl (hb hby at_32) rfl ?_
      show Steps p.tables e below (T5.setTop (mkF m 33 #[.val (.int p1), .val (.long q2), .second, .val (.long q3), .second, .val (.long q4), .second, .val (.long q5), .second, .val (.ref b1), .unset, .unset, .unset, .unset, .unset, .unset, .unset, .unset, .unset, .unset, .unset, .unset, .unset] [(.int (p1 &&& (2147483647 : Int32)))])) _
      refine XS.iconst X5.here hx rfl (hb hby at_33) ?_
      show Steps p.tables e below (T5.setTop (mkF m 34 #[.val (.int p1), .val (.long q2), .second, .val (.long q3), .second, .val (.long q4), .second, .val (.long q5), .second, .val (.ref b1), .unset, .unset, .unset, .unset, .unset, .unset, .unset, .unset, .unset, .unset, .unset, .unset, .unset] [(.int (3 : Int32)), (.int (p1 &&& (2147483647 : Int32)))])) _
      refine iremM X5 hx (g := (mkF m 34 #[.val (.int p1), .val (.long q2), .second, .val (.long q3), .second, .val (.long q4), .second, .val (.long q5), .second, .val (.ref b1), .unset, .unset, .unset, .unset, .unset, .unset, .unset, .unset, .unset, .unset, .unset, .unset, .unset] [(.int (3 : Int32)), (.int (p1 &&& (2147483647 : Int32)))])) rfl (hb hby at_34) rfl (by decide +kernel) ?_
      show Steps p.tables e below (T5.setTop (mkF m 35 #[.val (.int p1), .val (.long q2), .second, .val (.long q3), .second, .val (.long q4), .second, .val (.long q5), .second, .val (.ref b1), .unset, .unset, .unset, .unset, .unset, .unset, .unset, .unset, .unset, .unset, .unset, .unset, .unset] [(.int ((p1 &&& (2147483647 : Int32)) % (3 : Int32)))])) _
      rw [hk]
      show Steps p.tables e below (T5.setTop (mkF m 35 #[.val (.int p1), .val (.long q2), .second, .val (.long q3), .second, .val (.long q4), .second, .val (.long q5), .second, .val (.ref b1), .unset, .unset, .unset, .unset, .unset, .unset, .unset, .unset, .unset, .unset, .unset, .unset, .unset] [(.int (0 : Int32))])) _
      refine XS.istore X5.here hx rfl (hb hby at_35) rfl (l' := #[.val (.int p1), .val (.long q2), .second, .val (.long q3), .second, .val (.long q4), .second, .val (.long q5), .second, .val (.ref b1), .val (.int (0 : Int32)), .unset, .unset, .unset, .unset, .unset, .unset, .unset, .unset, .unset, .unset, .unset, .unset]) rfl ?_
      show Steps p.tables e below (T5.setTop (mkF m 37 #[.val (.int p1), .val (.long q2), .second, .val (.long q3), .second, .val (.long q4), .second, .val (.long q5), .second, .val (.ref b1), .val (.int (0 : Int32)), .unset, .unset, .unset, .unset, .unset, .unset, .unset, .unset, .unset, .unset, .unset, .unset] [])) _
      refine XS.aload X5.here hx rfl (hb hby at_37) rfl rfl ?_
      show Steps p.tables e below (T5.setTop (mkF m 39 #[.val (.int p1), .val (.long q2), .second, .val (.long q3), .second, .val (.long q4), .second, .val (.long q5), .second, .val (.ref b1), .val (.int (0 : Int32)), .unset, .unset, .unset, .unset, .unset, .unset, .unset, .unset, .unset, .unset, .unset, .unset] [(.ref b1)])) _
      refine XS.iload X5.here hx rfl (hb hby at_39) rfl ?_
      show Steps p.tables e below (T5.setTop (mkF m 41 #[.val (.int p1), .val (.long q2), .second, .val (.long q3), .second, .val (.long q4), .second, .val (.long q5), .second, .val (.ref b1), .val (.int (0 : Int32)), .unset, .unset, .unset, .unset, .unset, .unset, .unset, .unset, .unset, .unset, .unset, .unset] [(.int (0 : Int32)), (.ref b1)])) _
      refine XS.lloadN X5.here hx rfl (hb hby at_41) rfl ?_
      show Steps p.tables e below (T5.setTop (mkF m 42 #[.val (.int p1), .val (.long q2), .second, .val (.long q3), .second, .val (.long q4), .second, .val (.long q5), .second, .val (.ref b1), .val (.int (0 : Int32)), .unset, .unset, .unset, .unset, .unset, .unset, .unset, .unset, .unset, .unset, .unset, .unset] [(.long q2), (.int (0 : Int32)), (.ref b1)])) _
      refine st6.trans ?_
      show Steps p.tables e below (T6.setTop (mkF m 45 #[.val (.int p1), .val (.long q2), .second, .val (.long q3), .second, .val (.long q4), .second, .val (.long q5), .second, .val (.ref b1), .val (.int (0 : Int32)), .unset, .unset, .unset, .unset, .unset, .unset, .unset, .unset, .unset, .unset, .unset, .unset] [])) _
      refine XS.aload X6.here hx rfl (hb hby at_45) rfl rfl ?_
      show Steps p.tables e below (T6.setTop (mkF m 47 #[.val (.int p1), .val (.long q2), .second, .val (.long q3), .second, .val (.long q4), .second, .val (.long q5), .second, .val (.ref b1), .val (.int (0 : Int32)), .unset, .unset, .unset, .unset, .unset, .unset, .unset, .unset, .unset, .unset, .unset, .unset] [(.ref b1)])) _
      refine XS.iconst X6.here hx rfl (hb hby at_47) ?_
      show Steps p.tables e below (T6.setTop (mkF m 48 #[.val (.int p1), .val (.long q2), .second, .val (.long q3), .second, .val (.long q4), .second, .val (.long q5), .second, .val (.ref b1), .val (.int (0 : Int32)), .unset, .unset, .unset, .unset, .unset, .unset, .unset, .unset, .unset, .unset, .unset, .unset] [(.int (0 : Int32)), (.ref b1)])) _
      refine st7.trans ?_
      show Steps p.tables e below (T7.setTop (mkF m 51 #[.val (.int p1), .val (.long q2), .second, .val (.long q3), .second, .val (.long q4), .second, .val (.long q5), .second, .val (.ref b1), .val (.int (0 : Int32)), .unset, .unset, .unset, .unset, .unset, .unset, .unset, .unset, .unset, .unset, .unset, .unset] [(.long q2)])) _
      refine XS.lstore X7.here hx rfl (hb hby at_51) rfl (l' := #[.val (.int p1), .val (.long q2), .second, .val (.long q3), .second, .val (.long q4), .second, .val (.long q5), .second, .val (.ref b1), .val (.int (0 : Int32)), .val (.long q2), .second, .unset, .unset, .unset, .unset, .unset, .unset, .unset, .unset, .unset, .unset]) rfl ?_
      show Steps p.tables e below (T7.setTop (mkF m 53 #[.val (.int p1), .val (.long q2), .second, .val (.long q3), .second, .val (.long q4), .second, .val (.long q5), .second, .val (.ref b1), .val (.int (0 : Int32)), .val (.long q2), .second, .unset, .unset, .unset, .unset, .unset, .unset, .unset, .unset, .unset, .unset] [])) _
      refine XS.aload X7.here hx rfl (hb hby at_53) rfl rfl ?_
      show Steps p.tables e below (T7.setTop (mkF m 55 #[.val (.int p1), .val (.long q2), .second, .val (.long q3), .second, .val (.long q4), .second, .val (.long q5), .second, .val (.ref b1), .val (.int (0 : Int32)), .val (.long q2), .second, .unset, .unset, .unset, .unset, .unset, .unset, .unset, .unset, .unset, .unset] [(.ref b1)])) _
      refine XS.iconst X7.here hx rfl (hb hby at_55) ?_
      show Steps p.tables e below (T7.setTop (mkF m 56 #[.val (.int p1), .val (.long q2), .second, .val (.long q3), .second, .val (.long q4), .second, .val (.long q5), .second, .val (.ref b1), .val (.int (0 : Int32)), .val (.long q2), .second, .unset, .unset, .unset, .unset, .unset, .unset, .unset, .unset, .unset, .unset] [(.int (1 : Int32)), (.ref b1)])) _
      refine st8.trans ?_
      show Steps p.tables e below (T8.setTop (mkF m 59 #[.val (.int p1), .val (.long q2), .second, .val (.long q3), .second, .val (.long q4), .second, .val (.long q5), .second, .val (.ref b1), .val (.int (0 : Int32)), .val (.long q2), .second, .unset, .unset, .unset, .unset, .unset, .unset, .unset, .unset, .unset, .unset] [(.long q4)])) _
      refine XS.lstore X8.here hx rfl (hb hby at_59) rfl (l' := #[.val (.int p1), .val (.long q2), .second, .val (.long q3), .second, .val (.long q4), .second, .val (.long q5), .second, .val (.ref b1), .val (.int (0 : Int32)), .val (.long q2), .second, .val (.long q4), .second, .unset, .unset, .unset, .unset, .unset, .unset, .unset, .unset]) rfl ?_
      show Steps p.tables e below (T8.setTop (mkF m 61 #[.val (.int p1), .val (.long q2), .second, .val (.long q3), .second, .val (.long q4), .second, .val (.long q5), .second, .val (.ref b1), .val (.int (0 : Int32)), .val (.long q2), .second, .val (.long q4), .second, .unset, .unset, .unset, .unset, .unset, .unset, .unset, .unset] [])) _
      refine XS.aload X8.here hx rfl (hb hby at_61) rfl rfl ?_
      show Steps p.tables e below (T8.setTop (mkF m 63 #[.val (.int p1), .val (.long q2), .second, .val (.long q3), .second, .val (.long q4), .second, .val (.long q5), .second, .val (.ref b1), .val (.int (0 : Int32)), .val (.long q2), .second, .val (.long q4), .second, .unset, .unset, .unset, .unset, .unset, .unset, .unset, .unset] [(.ref b1)])) _
      refine XS.iconst X8.here hx rfl (hb hby at_63) ?_
      show Steps p.tables e below (T8.setTop (mkF m 64 #[.val (.int p1), .val (.long q2), .second, .val (.long q3), .second, .val (.long q4), .second, .val (.long q5), .second, .val (.ref b1), .val (.int (0 : Int32)), .val (.long q2), .second, .val (.long q4), .second, .unset, .unset, .unset, .unset, .unset, .unset, .unset, .unset] [(.int (2 : Int32)), (.ref b1)])) _
      refine st9.trans ?_
      show Steps p.tables e below (T9.setTop (mkF m 67 #[.val (.int p1), .val (.long q2), .second, .val (.long q3), .second, .val (.long q4), .second, .val (.long q5), .second, .val (.ref b1), .val (.int (0 : Int32)), .val (.long q2), .second, .val (.long q4), .second, .unset, .unset, .unset, .unset, .unset, .unset, .unset, .unset] [(.long q5)])) _
      refine XS.lstore X9.here hx rfl (hb hby at_67) rfl (l' := #[.val (.int p1), .val (.long q2), .second, .val (.long q3), .second, .val (.long q4), .second, .val (.long q5), .second, .val (.ref b1), .val (.int (0 : Int32)), .val (.long q2), .second, .val (.long q4), .second, .val (.long q5), .second, .unset, .unset, .unset, .unset, .unset, .unset]) rfl ?_
      show Steps p.tables e below (T9.setTop (mkF m 69 #[.val (.int p1), .val (.long q2), .second, .val (.long q3), .second, .val (.long q4), .second, .val (.long q5), .second, .val (.ref b1), .val (.int (0 : Int32)), .val (.long q2), .second, .val (.long q4), .second, .val (.long q5), .second, .unset, .unset, .unset, .unset, .unset, .unset] [])) _
      refine XS.iload X9.here hx rfl (hb hby at_69) rfl ?_
      show Steps p.tables e below (T9.setTop (mkF m 71 #[.val (.int p1), .val (.long q2), .second, .val (.long q3), .second, .val (.long q4), .second, .val (.long q5), .second, .val (.ref b1), .val (.int (0 : Int32)), .val (.long q2), .second, .val (.long q4), .second, .val (.long q5), .second, .unset, .unset, .unset, .unset, .unset, .unset] [(.int (0 : Int32))])) _
      refine XS.ifNo X9.here hx rfl (hb hby at_71) rfl ((if0 _ _).trans (teq (by decide +kernel)).2) ?_
      show Steps p.tables e below (T9.setTop (mkF m 74 #[.val (.int p1), .val (.long q2), .second, .val (.long q3), .second, .val (.long q4), .second, .val (.long q5), .second, .val (.ref b1), .val (.int (0 : Int32)), .val (.long q2), .second, .val (.long q4), .second, .val (.long q5), .second, .unset, .unset, .unset, .unset, .unset, .unset] [])) _
      refine XS.lloadN X9.here hx rfl (hb hby at_74) rfl ?_
      show Steps p.tables e below (T9.setTop (mkF m 75 #[.val (.int p1), .val (.long q2), .second, .val (.long q3), .second, .val (.long q4), .second, .val (.long q5), .second, .val (.ref b1), .val (.int (0 : Int32)), .val (.long q2), .second, .val (.long q4), .second, .val (.long q5), .second, .unset, .unset, .unset, .unset, .unset, .unset] [(.long q2)])) _
      refine XS.goto X9.here hx rfl (pc0 := 75) (pc' := 79) rfl (hb hby at_75) (by decide) (by decide) ?_
      show Steps p.tables e below (T9.setTop (mkF m 79 #[.val (.int p1), .val (.long q2), .second, .val (.long q3), .second, .val (.long q4), .second, .val (.long q5), .second, .val (.ref b1), .val (.int (0 : Int32)), .val (.long q2), .second, .val (.long q4), .second, .val (.long q5), .second, .unset, .unset, .unset, .unset, .unset, .unset] [(.long q2)])) _
      refine XS.lstore X9.here hx rfl (hb hby at_79) rfl (l' := #[.val (.int p1), .val (.long q2), .second, .val (.long q3), .second, .val (.long q4), .second, .val (.long q5), .second, .val (.ref b1), .val (.int (0 : Int32)), .val (.long q2), .second, .val (.long q4), .second, .val (.long q5), .second, .val (.long q2), .second, .unset, .unset, .unset, .unset]) rfl ?_
      show Steps p.tables e below (T9.setTop (mkF m 81 #[.val (.int p1), .val (.long q2), .second, .val (.long q3), .second, .val (.long q4), .second, .val (.long q5), .second, .val (.ref b1), .val (.int (0 : Int32)), .val (.long q2), .second, .val (.long q4), .second, .val (.long q5), .second, .val (.long q2), .second, .unset, .unset, .unset, .unset] [])) _
      refine XS.iload X9.here hx rfl (hb hby at_81) rfl ?_
      show Steps p.tables e below (T9.setTop (mkF m 83 #[.val (.int p1), .val (.long q2), .second, .val (.long q3), .second, .val (.long q4), .second, .val (.long q5), .second, .val (.ref b1), .val (.int (0 : Int32)), .val (.long q2), .second, .val (.long q4), .second, .val (.long q5), .second, .val (.long q2), .second, .unset, .unset, .unset, .unset] [(.int (0 : Int32))])) _
      refine XS.iconst X9.here hx rfl (hb hby at_83) ?_
      show Steps p.tables e below (T9.setTop (mkF m 84 #[.val (.int p1), .val (.long q2), .second, .val (.long q3), .second, .val (.long q4), .second, .val (.long q5), .second, .val (.ref b1), .val (.int (0 : Int32)), .val (.long q2), .second, .val (.long q4), .second, .val (.long q5), .second, .val (.long q2), .second, .unset, .unset, .unset, .unset] [(.int (1 : Int32)), (.int (0 : Int32))])) _
      refine XS.icmpYes X9.here hx rfl (pc0 := 84) (pc' := 91) rfl (hb hby at_84) rfl (feq (by decide +kernel)).2 (by decide) (by decide) ?_
      show Steps p.tables e below (T9.setTop (mkF m 91 #[.val (.int p1), .val (.long q2), .second, .val (.long q3), .second, .val (.long q4), .second, .val (.long q5), .second, .val (.ref b1), .val (.int (0 : Int32)), .val (.long q2), .second, .val (.long q4), .second, .val (.long q5), .second, .val (.long q2), .second, .unset, .unset, .unset, .unset] [])) _
      refine XS.lload X9.here hx rfl (hb hby at_91) rfl ?_
      show Steps p.tables e below (T9.setTop (mkF m 93 #[.val (.int p1), .val (.long q2), .second, .val (.long q3), .second, .val (.long q4), .second, .val (.long q5), .second, .val (.ref b1), .val (.int (0 : Int32)), .val (.long q2), .second, .val (.long q4), .second, .val (.long q5), .second, .val (.long q2), .second, .unset, .unset, .unset, .unset] [(.long q4)])) _
      refine XS.lstore X9.here hx rfl (hb hby at_93) rfl (l' := #[.val (.int p1), .val (.long q2), .second, .val (.long q3), .second, .val (.long q4), .second, .val (.long q5), .second, .val (.ref b1), .val (.int (0 : Int32)), .val (.long q2), .second, .val (.long q4), .second, .val (.long q5), .second, .val (.long q2), .second, .val (.long q4), .second, .unset, .unset]) rfl ?_
      show Steps p.tables e below (T9.setTop (mkF m 95 #[.val (.int p1), .val (.long q2), .second, .val (.long q3), .second, .val (.long q4), .second, .val (.long q5), .second, .val (.ref b1), .val (.int (0 : Int32)), .val (.long q2), .second, .val (.long q4), .second, .val (.long q5), .second, .val (.long q2), .second, .val (.long q4), .second, .unset, .unset] [])) _
      refine XS.iload X9.here hx rfl (hb hby at_95) rfl ?_
      show Steps p.tables e below (T9.setTop (mkF m 97 #[.val (.int p1), .val (.long q2), .second, .val (.long q3), .second, .val (.long q4), .second, .val (.long q5), .second, .val (.ref b1), .val (.int (0 : Int32)), .val (.long q2), .second, .val (.long q4), .second, .val (.long q5), .second, .val (.long q2), .second, .val (.long q4), .second, .unset, .unset] [(.int (0 : Int32))])) _
      refine XS.iconst X9.here hx rfl (hb hby at_97) ?_
      show Steps p.tables e below (T9.setTop (mkF m 98 #[.val (.int p1), .val (.long q2), .second, .val (.long q3), .second, .val (.long q4), .second, .val (.long q5), .second, .val (.ref b1), .val (.int (0 : Int32)), .val (.long q2), .second, .val (.long q4), .second, .val (.long q5), .second, .val (.long q2), .second, .val (.long q4), .second, .unset, .unset] [(.int (2 : Int32)), (.int (0 : Int32))])) _
      refine XS.icmpYes X9.here hx rfl (pc0 := 98) (pc' := 105) rfl (hb hby at_98) rfl (feq (by decide +kernel)).2 (by decide) (by decide) ?_
      show Steps p.tables e below (T9.setTop (mkF m 105 #[.val (.int p1), .val (.long q2), .second, .val (.long q3), .second, .val (.long q4), .second, .val (.long q5), .second, .val (.ref b1), .val (.int (0 : Int32)), .val (.long q2), .second, .val (.long q4), .second, .val (.long q5), .second, .val (.long q2), .second, .val (.long q4), .second, .unset, .unset] [])) _
      refine XS.lload X9.here hx rfl (hb hby at_105) rfl ?_
      show Steps p.tables e below (T9.setTop (mkF m 107 #[.val (.int p1), .val (.long q2), .second, .val (.long q3), .second, .val (.long q4), .second, .val (.long q5), .second, .val (.ref b1), .val (.int (0 : Int32)), .val (.long q2), .second, .val (.long q4), .second, .val (.long q5), .second, .val (.long q2), .second, .val (.long q4), .second, .unset, .unset] [(.long q5)])) _
      refine XS.lstore X9.here hx rfl (hb hby at_107) rfl (l' := #[.val (.int p1), .val (.long q2), .second, .val (.long q3), .second, .val (.long q4), .second, .val (.long q5), .second, .val (.ref b1), .val (.int (0 : Int32)), .val (.long q2), .second, .val (.long q4), .second, .val (.long q5), .second, .val (.long q2), .second, .val (.long q4), .second, .val (.long q5), .second]) rfl ?_
      show Steps p.tables e below (T9.setTop (mkF m 109 #[.val (.int p1), .val (.long q2), .second, .val (.long q3), .second, .val (.long q4), .second, .val (.long q5), .second, .val (.ref b1), .val (.int (0 : Int32)), .val (.long q2), .second, .val (.long q4), .second, .val (.long q5), .second, .val (.long q2), .second, .val (.long q4), .second, .val (.long q5), .second] [])) _
      refine XS.lload X9.here hx rfl (hb hby at_109) rfl ?_
      show Steps p.tables e below (T9.setTop (mkF m 111 #[.val (.int p1), .val (.long q2), .second, .val (.long q3), .second, .val (.long q4), .second, .val (.long q5), .second, .val (.ref b1), .val (.int (0 : Int32)), .val (.long q2), .second, .val (.long q4), .second, .val (.long q5), .second, .val (.long q2), .second, .val (.long q4), .second, .val (.long q5), .second] [(.long q2)])) _
      refine XS.lload X9.here hx rfl (hb hby at_111) rfl ?_
      show Steps p.tables e below (T9.setTop (mkF m 113 #[.val (.int p1), .val (.long q2), .second, .val (.long q3), .second, .val (.long q4), .second, .val (.long q5), .second, .val (.ref b1), .val (.int (0 : Int32)), .val (.long q2), .second, .val (.long q4), .second, .val (.long q5), .second, .val (.long q2), .second, .val (.long q4), .second, .val (.long q5), .second] [(.long q2), (.long q2)])) _
      refine XS.lcmp X9.here hx rfl (hb hby at_113) rfl ?_
      show Steps p.tables e below (T9.setTop (mkF m 114 #[.val (.int p1), .val (.long q2), .second, .val (.long q3), .second, .val (.long q4), .second, .val (.long q5), .second, .val (.ref b1), .val (.int (0 : Int32)), .val (.long q2), .second, .val (.long q4), .second, .val (.long q5), .second, .val (.long q2), .second, .val (.long q4), .second, .val (.long q5), .second] [(.int (lcmpW q2 q2))])) _
      refine XS.ifNo X9.here hx rfl (hb hby at_114) rfl ((if0 _ _).trans (teq ((lw_eq _ _).mpr rfl)).2) ?_
      show Steps p.tables e below (T9.setTop (mkF m 117 #[.val (.int p1), .val (.long q2), .second, .val (.long q3), .second, .val (.long q4), .second, .val (.long q5), .second, .val (.ref b1), .val (.int (0 : Int32)), .val (.long q2), .second, .val (.long q4), .second, .val (.long q5), .second, .val (.long q2), .second, .val (.long q4), .second, .val (.long q5), .second] [])) _
      refine XS.lload X9.here hx rfl (hb hby at_117) rfl ?_
      show Steps p.tables e below (T9.setTop (mkF m 119 #[.val (.int p1), .val (.long q2), .second, .val (.long q3), .second, .val (.long q4), .second, .val (.long q5), .second, .val (.ref b1), .val (.int (0 : Int32)), .val (.long q2), .second, .val (.long q4), .second, .val (.long q5), .second, .val (.long q2), .second, .val (.long q4), .second, .val (.long q5), .second] [(.long q4)])) _
      refine XS.lload X9.here hx rfl (hb hby at_119) rfl ?_
      show Steps p.tables e below (T9.setTop (mkF m 121 #[.val (.int p1), .val (.long q2), .second, .val (.long q3), .second, .val (.long q4), .second, .val (.long q5), .second, .val (.ref b1), .val (.int (0 : Int32)), .val (.long q2), .second, .val (.long q4), .second, .val (.long q5), .second, .val (.long q2), .second, .val (.long q4), .second, .val (.long q5), .second] [(.long q4), (.long q4)])) _
      refine XS.lcmp X9.here hx rfl (hb hby at_121) rfl ?_
      show Steps p.tables e below (T9.setTop (mkF m 122 #[.val (.int p1), .val (.long q2), .second, .val (.long q3), .second, .val (.long q4), .second, .val (.long q5), .second, .val (.ref b1), .val (.int (0 : Int32)), .val (.long q2), .second, .val (.long q4), .second, .val (.long q5), .second, .val (.long q2), .second, .val (.long q4), .second, .val (.long q5), .second] [(.int (lcmpW q4 q4))])) _
      refine XS.ifNo X9.here hx rfl (hb hby at_122) rfl ((if0 _ _).trans (teq ((lw_eq _ _).mpr rfl)).2) ?_
      show Steps p.tables e below (T9.setTop (mkF m 125 #[.val (.int p1), .val (.long q2), .second, .val (.long q3), .second, .val (.long q4), .second, .val (.long q5), .second, .val (.ref b1), .val (.int (0 : Int32)), .val (.long q2), .second, .val (.long q4), .second, .val (.long q5), .second, .val (.long q2), .second, .val (.long q4), .second, .val (.long q5), .second] [])) _
      refine XS.lload X9.here hx rfl (hb hby at_125) rfl ?_
      show Steps p.tables e below (T9.setTop (mkF m 127 #[.val (.int p1), .val (.long q2), .second, .val (.long q3), .second, .val (.long q4), .second, .val (.long q5), .second, .val (.ref b1), .val (.int (0 : Int32)), .val (.long q2), .second, .val (.long q4), .second, .val (.long q5), .second, .val (.long q2), .second, .val (.long q4), .second, .val (.long q5), .second] [(.long q5)])) _
      refine XS.lload X9.here hx rfl (hb hby at_127) rfl ?_
      show Steps p.tables e below (T9.setTop (mkF m 129 #[.val (.int p1), .val (.long q2), .second, .val (.long q3), .second, .val (.long q4), .second, .val (.long q5), .second, .val (.ref b1), .val (.int (0 : Int32)), .val (.long q2), .second, .val (.long q4), .second, .val (.long q5), .second, .val (.long q2), .second, .val (.long q4), .second, .val (.long q5), .second] [(.long q5), (.long q5)])) _
      refine XS.lcmp X9.here hx rfl (hb hby at_129) rfl ?_
      show Steps p.tables e below (T9.setTop (mkF m 130 #[.val (.int p1), .val (.long q2), .second, .val (.long q3), .second, .val (.long q4), .second, .val (.long q5), .second, .val (.ref b1), .val (.int (0 : Int32)), .val (.long q2), .second, .val (.long q4), .second, .val (.long q5), .second, .val (.long q2), .second, .val (.long q4), .second, .val (.long q5), .second] [(.int (lcmpW q5 q5))])) _
      refine XS.ifNo X9.here hx rfl (hb hby at_130) rfl ((if0 _ _).trans (teq ((lw_eq _ _).mpr rfl)).2) ?_
      show Steps p.tables e below (T9.setTop (mkF m 133 #[.val (.int p1), .val (.long q2), .second, .val (.long q3), .second, .val (.long q4), .second, .val (.long q5), .second, .val (.ref b1), .val (.int (0 : Int32)), .val (.long q2), .second, .val (.long q4), .second, .val (.long q5), .second, .val (.long q2), .second, .val (.long q4), .second, .val (.long q5), .second] [])) _
      refine XS.aload X9.here hx rfl (hb hby at_133) rfl rfl ?_
      show Steps p.tables e below (T9.setTop (mkF m 135 #[.val (.int p1), .val (.long q2), .second, .val (.long q3), .second, .val (.long q4), .second, .val (.long q5), .second, .val (.ref b1), .val (.int (0 : Int32)), .val (.long q2), .second, .val (.long q4), .second, .val (.long q5), .second, .val (.long q2), .second, .val (.long q4), .second, .val (.long q5), .second] [(.ref b1)])) _
      refine st10.trans ?_
      show Steps p.tables e below (T10.setTop (mkF m 138 #[.val (.int p1), .val (.long q2), .second, .val (.long q3), .second, .val (.long q4), .second, .val (.long q5), .second, .val (.ref b1), .val (.int (0 : Int32)), .val (.long q2), .second, .val (.long q4), .second, .val (.long q5), .second, .val (.long q2), .second, .val (.long q4), .second, .val (.long q5), .second] [(.int (3 : Int32))])) _
      refine XS.iconst X10.here hx rfl (hb hby at_138) ?_
      show Steps p.tables e below (T10.setTop (mkF m 139 #[.val (.int p1), .val (.long q2), .second, .val (.long q3), .second, .val (.long q4), .second, .val (.long q5), .second, .val (.ref b1), .val (.int (0 : Int32)), .val (.long q2), .second, .val (.long q4), .second, .val (.long q5), .second, .val (.long q2), .second, .val (.long q4), .second, .val (.long q5), .second] [(.int (3 : Int32)), (.int (3 : Int32))])) _
      refine XS.icmpNo X10.here hx rfl (hb hby at_139) rfl (teq (by decide +kernel)).2 ?_
      show Steps p.tables e below (T10.setTop (mkF m 142 #[.val (.int p1), .val (.long q2), .second, .val (.long q3), .second, .val (.long q4), .second, .val (.long q5), .second, .val (.ref b1), .val (.int (0 : Int32)), .val (.long q2), .second, .val (.long q4), .second, .val (.long q5), .second, .val (.long q2), .second, .val (.long q4), .second, .val (.long q5), .second] [])) _
      refine XS.iconst X10.here hx rfl (hb hby at_142) ?_
      show Steps p.tables e below (T10.setTop (mkF m 143 #[.val (.int p1), .val (.long q2), .second, .val (.long q3), .second, .val (.long q4), .second, .val (.long q5), .second, .val (.ref b1), .val (.int (0 : Int32)), .val (.long q2), .second, .val (.long q4), .second, .val (.long q5), .second, .val (.long q2), .second, .val (.long q4), .second, .val (.long q5), .second] [(.int (1 : Int32))])) _
      refine XS.goto X10.here hx rfl (pc0 := 143) (pc' := 147) rfl (hb hby at_143) (by decide) (by decide) ?_
      show Steps p.tables e below (T10.setTop (mkF m 147 #[.val (.int p1), .val (.long q2), .second, .val (.long q3), .second, .val (.long q4), .second, .val (.long q5), .second, .val (.ref b1), .val (.int (0 : Int32)), .val (.long q2), .second, .val (.long q4), .second, .val (.long q5), .second, .val (.long q2), .second, .val (.long q4), .second, .val (.long q5), .second] [(.int (1 : Int32))])) _
      exact retN X10 hx (t := .boolean) Bd.returns (by simp) (hb hby at_147) hr
    · show Q0 Z p1 q2 q3 q4 q5 h0 n0 _ T10.heap _
      rw [eq10]
      exact ⟨rfl, N10⟩
  · obtain ⟨T1, h1, X1, e1, E1, A1, D1, -, st1⟩ := newO X0 hx hZ hown (hw _ (List.mem_of_getElem? (i := 0) rfl)) (hw _ (List.mem_of_getElem? (i := 1) rfl)) (hw _ (List.mem_of_getElem? (i := 2) rfl)) e0 (g := (mkF m 0 #[.val (.int p1), .val (.long q2), .second, .val (.long q3), .second, .val (.long q4), .second, .val (.long q5), .second, .unset, .unset, .unset, .unset, .unset, .unset, .unset, .unset, .unset, .unset, .unset, .unset, .unset, .unset] [])) rfl (hb hby at_0) (by decide) (by decide)
    obtain ⟨b1, g1⟩ : ∃ z, z = h0.size := ⟨_, rfl⟩
    rw [← g1] at A1 st1 D1
    have fr_b1 : n0 ≤ b1 := Nat.le_trans Z0 (Nat.le_of_eq g1.symm)
    have Z1 : n0 ≤ h1.size := Nat.le_trans Z0 E1.1
    have f1_5 : Exa Z h1 b1 "com/example/frigg/frigg/ChunkedLongs" := A1
    have f1_6 : Fld Z h1 b1 "com/example/frigg/frigg/ChunkedLongs" "chunks" "[[J" .null := D1 (Or.inl (hw _ (List.mem_of_getElem? (i := 12) rfl))) (ty := (.array (.array .long))) (by decide)
    have f1_7 : Fld Z h1 b1 "com/example/frigg/frigg/ChunkedLongs" "size" "I" (.int (0 : Int32)) := D1 (Or.inl (hw _ (List.mem_of_getElem? (i := 19) rfl))) (ty := .int) (by decide)
    obtain ⟨_, _, ⟨T2, L2, k2, n2⟩, -, X2, ⟨Lc2, hQ2, l2, y2, z2⟩, st2⟩ := X1.specialBack hx (y := (⟨"com/example/frigg/frigg/ChunkedLongs", "<init>", "()V"⟩ : MethodName)) rfl hown (mvT hZ (hw _ (List.mem_of_getElem? (i := 3) rfl))) (mvT hZ (hw _ (List.mem_of_getElem? (i := 4) rfl))) (mvT hZ (hw _ (List.mem_of_getElem? (i := 5) rfl))) (by decide) (backOf (W := 1) (rm1 l Z a0 hw [] b1 h1 n0 Z1 f1_5 f1_6 f1_7 fr_b1) hZ (hw _ (List.mem_of_getElem? (i := 5) rfl)) (hw _ (List.mem_of_getElem? (i := 2) rfl)) (by decide) (by decide)) (g := (mkF m 4 #[.val (.int p1), .val (.long q2), .second, .val (.long q3), .second, .val (.long q4), .second, .val (.long q5), .second, .unset, .unset, .unset, .unset, .unset, .unset, .unset, .unset, .unset, .unset, .unset, .unset, .unset, .unset] [(.ref b1), (.ref b1)])) rfl (by rw [hml]; rfl) (Steps.refl _) (a := b1) (argsL := []) (rest := [(.ref b1)]) (lenOf pd_0 rfl) rfl (by show 2 * 0 + _ ≤ _; exact Nat.le_of_eq rfl) (hb hby at_4) (fun _ _ => ⟨rfl, e1, (by decide : 1 + 1 ≤ _), (by decide : 2 + 1 ≤ _)⟩)
    dsimp only [Pt.U, Pt.locs, Pt.cells, Pt.slots] at X2 l2 y2 z2 st2 hQ2
    subst l2 y2 z2
    obtain ⟨rfl, N2q, c1, kc, E1, F1, G1, V1, O1, gc, nac, Z1c⟩ := hQ2
    have N2 := Fr.app N0 N2q
    obtain ⟨cq3, kq3, q3a, q3b, q3c⟩ := isOf hZ rfl E1
    obtain ⟨_, _, ⟨T3, L3, k3, n3⟩, -, X3, ⟨Lc3, hQ3, l3, y3, z3⟩, st3⟩ := X2.virtualBack hx (y := (⟨"com/example/frigg/frigg/ChunkedLongs", "add", "(J)V"⟩ : MethodName)) (z := (⟨"com/example/frigg/frigg/ChunkedLongs", "add", "(J)V"⟩ : MethodName)) hown (mvT hZ (hw _ (List.mem_of_getElem? (i := 13) rfl))) (mvT hZ (hw _ (List.mem_of_getElem? (i := 14) rfl))) (notFace_of_selects (args := #[]) (mvT hZ (hw _ (List.mem_of_getElem? (i := 16) rfl)))) (mvT hZ (hw _ (List.mem_of_getElem? (i := 16) rfl))) (mvT hZ (hw _ (List.mem_of_getElem? (i := 15) rfl))) (by decide) (backOf (W := 0) (rm3_0 l Z a0 hw [] b1 q3 c1 kc T2.heap n0 Z1c E1 F1 G1 V1 O1 fr_b1 gc nac) hZ (hw _ (List.mem_of_getElem? (i := 17) rfl)) (hw _ (List.mem_of_getElem? (i := 2) rfl)) (by decide) (by decide)) q3a q3c (g := (mkF m 12 #[.val (.int p1), .val (.long q2), .second, .val (.long q3), .second, .val (.long q4), .second, .val (.long q5), .second, .val (.ref b1), .unset, .unset, .unset, .unset, .unset, .unset, .unset, .unset, .unset, .unset, .unset, .unset, .unset] [(.long q3), (.ref b1)])) rfl (by rw [hml]; rfl) (Steps.refl _) (argsL := [(.long q3)]) (rest := []) (lenOf pd_1 rfl) rfl (by show 2 * 0 + _ ≤ _; exact Nat.le_of_eq rfl) (hb hby at_12) (fun _ _ => ⟨rfl, rfl, (by decide : 2 + 1 ≤ _), (by decide : 3 + 32768 ≤ _)⟩)
    dsimp only [Pt.U, Pt.locs, Pt.cells, Pt.slots] at X3 l3 y3 z3 st3 hQ3
    subst l3 y3 z3
    obtain ⟨rfl, N3q, k1, kk, E2, F2, G2, V2, U2, gk, nak, nck, Z2c⟩ := hQ3
    have N3 := Fr.app N2 N3q
    obtain ⟨cq4, kq4, q4a, q4b, q4c⟩ := isOf hZ rfl E2
    obtain ⟨_, _, ⟨T4, L4, k4, n4⟩, -, X4, ⟨Lc4, hQ4, l4, y4, z4⟩, st4⟩ := X3.virtualBack hx (y := (⟨"com/example/frigg/frigg/ChunkedLongs", "add", "(J)V"⟩ : MethodName)) (z := (⟨"com/example/frigg/frigg/ChunkedLongs", "add", "(J)V"⟩ : MethodName)) hown (mvT hZ (hw _ (List.mem_of_getElem? (i := 13) rfl))) (mvT hZ (hw _ (List.mem_of_getElem? (i := 14) rfl))) (notFace_of_selects (args := #[]) (mvT hZ (hw _ (List.mem_of_getElem? (i := 16) rfl)))) (mvT hZ (hw _ (List.mem_of_getElem? (i := 16) rfl))) (mvT hZ (hw _ (List.mem_of_getElem? (i := 15) rfl))) (by decide) (backOf (W := 0) (rm3_1 l Z a0 hw [] b1 q4 c1 k1 kc kk q3 T3.heap n0 Z2c E2 F2 G2 V2 U2 fr_b1 gc gk nac nak nck) hZ (hw _ (List.mem_of_getElem? (i := 17) rfl)) (hw _ (List.mem_of_getElem? (i := 2) rfl)) (by decide) (by decide)) q4a q4c (g := (mkF m 19 #[.val (.int p1), .val (.long q2), .second, .val (.long q3), .second, .val (.long q4), .second, .val (.long q5), .second, .val (.ref b1), .unset, .unset, .unset, .unset, .unset, .unset, .unset, .unset, .unset, .unset, .unset, .unset, .unset] [(.long q4), (.ref b1)])) rfl (by rw [hml]; rfl) (Steps.refl _) (argsL := [(.long q4)]) (rest := []) (lenOf pd_1 rfl) rfl (by show 2 * 0 + _ ≤ _; exact Nat.le_of_eq rfl) (hb hby at_19) (fun _ _ => ⟨rfl, rfl, (by decide : 3 + 0 ≤ _), (by decide : 32771 + 0 ≤ _)⟩)
    dsimp only [Pt.U, Pt.locs, Pt.cells, Pt.slots] at X4 l4 y4 z4 st4 hQ4
    subst l4 y4 z4
    obtain ⟨rfl, N4q, E3, F3, G3, V3, U3, Z3c⟩ := hQ4
    have N4 := Fr.app N3 N4q
    obtain ⟨cq5, kq5, q5a, q5b, q5c⟩ := isOf hZ rfl E3
    obtain ⟨_, _, ⟨T5, L5, k5, n5⟩, -, X5, ⟨Lc5, hQ5, l5, y5, z5⟩, st5⟩ := X4.virtualBack hx (y := (⟨"com/example/frigg/frigg/ChunkedLongs", "add", "(J)V"⟩ : MethodName)) (z := (⟨"com/example/frigg/frigg/ChunkedLongs", "add", "(J)V"⟩ : MethodName)) hown (mvT hZ (hw _ (List.mem_of_getElem? (i := 13) rfl))) (mvT hZ (hw _ (List.mem_of_getElem? (i := 14) rfl))) (notFace_of_selects (args := #[]) (mvT hZ (hw _ (List.mem_of_getElem? (i := 16) rfl)))) (mvT hZ (hw _ (List.mem_of_getElem? (i := 16) rfl))) (mvT hZ (hw _ (List.mem_of_getElem? (i := 15) rfl))) (by decide) (backOf (W := 0) (rm3_2 l Z a0 hw [] b1 q5 c1 k1 kc kk q3 q4 T4.heap n0 Z3c E3 F3 G3 V3 U3 fr_b1 gc gk nac nak nck) hZ (hw _ (List.mem_of_getElem? (i := 17) rfl)) (hw _ (List.mem_of_getElem? (i := 2) rfl)) (by decide) (by decide)) q5a q5c (g := (mkF m 26 #[.val (.int p1), .val (.long q2), .second, .val (.long q3), .second, .val (.long q4), .second, .val (.long q5), .second, .val (.ref b1), .unset, .unset, .unset, .unset, .unset, .unset, .unset, .unset, .unset, .unset, .unset, .unset, .unset] [(.long q5), (.ref b1)])) rfl (by rw [hml]; rfl) (Steps.refl _) (argsL := [(.long q5)]) (rest := []) (lenOf pd_1 rfl) rfl (by show 2 * 0 + _ ≤ _; exact Nat.le_of_eq rfl) (hb hby at_26) (fun _ _ => ⟨rfl, rfl, (by decide : 3 + 0 ≤ _), (by decide : 32771 + 0 ≤ _)⟩)
    dsimp only [Pt.U, Pt.locs, Pt.cells, Pt.slots] at X5 l5 y5 z5 st5 hQ5
    subst l5 y5 z5
    obtain ⟨rfl, N5q, E4, F4, G4, V4, U4, Z4c⟩ := hQ5
    have N5 := Fr.app N4 N5q
    obtain ⟨cq6, kq6, q6a, q6b, q6c⟩ := isOf hZ rfl E4
    obtain ⟨_, _, ⟨T6, L6, k6, n6⟩, -, X6, ⟨Lc6, hQ6, l6, y6, z6⟩, st6⟩ := X5.virtualBack hx (y := (⟨"com/example/frigg/frigg/ChunkedLongs", "set", "(IJ)V"⟩ : MethodName)) (z := (⟨"com/example/frigg/frigg/ChunkedLongs", "set", "(IJ)V"⟩ : MethodName)) hown (mvT hZ (hw _ (List.mem_of_getElem? (i := 24) rfl))) (mvT hZ (hw _ (List.mem_of_getElem? (i := 25) rfl))) (notFace_of_selects (args := #[]) (mvT hZ (hw _ (List.mem_of_getElem? (i := 27) rfl)))) (mvT hZ (hw _ (List.mem_of_getElem? (i := 27) rfl))) (mvT hZ (hw _ (List.mem_of_getElem? (i := 26) rfl))) (by decide) (backOf (W := 0) (rm4_1 l Z a0 hw [] b1 q2 c1 k1 kc kk q3 q4 q5 T5.heap n0 Z4c E4 F4 G4 V4 U4 fr_b1 gc gk nac nak nck) hZ (hw _ (List.mem_of_getElem? (i := 28) rfl)) (hw _ (List.mem_of_getElem? (i := 2) rfl)) (by decide) (by decide)) q6a q6c (g := (mkF m 42 #[.val (.int p1), .val (.long q2), .second, .val (.long q3), .second, .val (.long q4), .second, .val (.long q5), .second, .val (.ref b1), .val (.int (1 : Int32)), .unset, .unset, .unset, .unset, .unset, .unset, .unset, .unset, .unset, .unset, .unset, .unset] [(.long q2), (.int (1 : Int32)), (.ref b1)])) rfl (by rw [hml]; rfl) (Steps.refl _) (argsL := [(.int (1 : Int32)), (.long q2)]) (rest := []) (lenOf pd_2 rfl) rfl (by show 2 * 0 + _ ≤ _; exact Nat.le_of_eq rfl) (hb hby at_42) (fun _ _ => ⟨rfl, rfl, (by decide : 3 + 0 ≤ _), (by decide : 32771 + 0 ≤ _)⟩)
    dsimp only [Pt.U, Pt.locs, Pt.cells, Pt.slots] at X6 l6 y6 z6 st6 hQ6
    subst l6 y6 z6
    obtain ⟨rfl, N6q, E5, F5, G5, V5, U5, Z5c⟩ := hQ6
    have N6 := Fr.app N5 N6q
    obtain ⟨cq7, kq7, q7a, q7b, q7c⟩ := isOf hZ rfl E5
    obtain ⟨_, _, ⟨T7, L7, k7, n7⟩, -, X7, ⟨Lc7, hQ7, l7, y7, z7⟩, st7⟩ := X6.virtualBack hx (y := (⟨"com/example/frigg/frigg/ChunkedLongs", "get", "(I)J"⟩ : MethodName)) (z := (⟨"com/example/frigg/frigg/ChunkedLongs", "get", "(I)J"⟩ : MethodName)) hown (mvT hZ (hw _ (List.mem_of_getElem? (i := 29) rfl))) (mvT hZ (hw _ (List.mem_of_getElem? (i := 30) rfl))) (notFace_of_selects (args := #[]) (mvT hZ (hw _ (List.mem_of_getElem? (i := 32) rfl)))) (mvT hZ (hw _ (List.mem_of_getElem? (i := 32) rfl))) (mvT hZ (hw _ (List.mem_of_getElem? (i := 31) rfl))) (by decide) (backOf (W := 0) (rm5_0 l Z a0 hw [] b1 c1 k1 kc kk q3 q2 q5 T6.heap n0 Z5c F5 V5 U5) hZ (hw _ (List.mem_of_getElem? (i := 33) rfl)) (hw _ (List.mem_of_getElem? (i := 2) rfl)) (by decide) (by decide)) q7a q7c (g := (mkF m 48 #[.val (.int p1), .val (.long q2), .second, .val (.long q3), .second, .val (.long q4), .second, .val (.long q5), .second, .val (.ref b1), .val (.int (1 : Int32)), .unset, .unset, .unset, .unset, .unset, .unset, .unset, .unset, .unset, .unset, .unset, .unset] [(.int (0 : Int32)), (.ref b1)])) rfl (by rw [hml]; rfl) (Steps.refl _) (argsL := [(.int (0 : Int32))]) (rest := []) (lenOf pd_3 rfl) rfl (by show 2 * 0 + _ ≤ _; exact Nat.le_of_eq rfl) (hb hby at_48) (fun _ _ => ⟨rfl, rfl, (by decide : 3 + 0 ≤ _), (by decide : 32771 + 0 ≤ _)⟩)
    dsimp only [Pt.U, Pt.locs, Pt.cells, Pt.slots] at X7 l7 y7 z7 st7 hQ7
    subst l7 y7 z7
    obtain ⟨rfl, N7q, eq7⟩ := hQ7
    have N7 := Fr.app N6 N7q
    obtain ⟨cq8, kq8, q8a, q8b, q8c⟩ := isOf hZ eq7 E5
    obtain ⟨_, _, ⟨T8, L8, k8, n8⟩, -, X8, ⟨Lc8, hQ8, l8, y8, z8⟩, st8⟩ := X7.virtualBack hx (y := (⟨"com/example/frigg/frigg/ChunkedLongs", "get", "(I)J"⟩ : MethodName)) (z := (⟨"com/example/frigg/frigg/ChunkedLongs", "get", "(I)J"⟩ : MethodName)) hown (mvT hZ (hw _ (List.mem_of_getElem? (i := 29) rfl))) (mvT hZ (hw _ (List.mem_of_getElem? (i := 30) rfl))) (notFace_of_selects (args := #[]) (mvT hZ (hw _ (List.mem_of_getElem? (i := 32) rfl)))) (mvT hZ (hw _ (List.mem_of_getElem? (i := 32) rfl))) (mvT hZ (hw _ (List.mem_of_getElem? (i := 31) rfl))) (by decide) (backOf (W := 0) (rm5_1 l Z a0 hw [] b1 c1 k1 kc kk q3 q2 q5 T6.heap n0 Z5c F5 V5 U5) hZ (hw _ (List.mem_of_getElem? (i := 33) rfl)) (hw _ (List.mem_of_getElem? (i := 2) rfl)) (by decide) (by decide)) q8a q8c (g := (mkF m 56 #[.val (.int p1), .val (.long q2), .second, .val (.long q3), .second, .val (.long q4), .second, .val (.long q5), .second, .val (.ref b1), .val (.int (1 : Int32)), .val (.long q3), .second, .unset, .unset, .unset, .unset, .unset, .unset, .unset, .unset, .unset, .unset] [(.int (1 : Int32)), (.ref b1)])) rfl (by rw [hml]; rfl) (Steps.refl _) (argsL := [(.int (1 : Int32))]) (rest := []) (lenOf pd_3 rfl) rfl (by show 2 * 0 + _ ≤ _; exact Nat.le_of_eq rfl) (hb hby at_56) (fun _ _ => ⟨rfl, eq7, (by decide : 3 + 0 ≤ _), (by decide : 32771 + 0 ≤ _)⟩)
    dsimp only [Pt.U, Pt.locs, Pt.cells, Pt.slots] at X8 l8 y8 z8 st8 hQ8
    subst l8 y8 z8
    obtain ⟨rfl, N8q, eq8⟩ := hQ8
    have N8 := Fr.app N7 N8q
    obtain ⟨cq9, kq9, q9a, q9b, q9c⟩ := isOf hZ eq8 E5
    obtain ⟨_, _, ⟨T9, L9, k9, n9⟩, -, X9, ⟨Lc9, hQ9, l9, y9, z9⟩, st9⟩ := X8.virtualBack hx (y := (⟨"com/example/frigg/frigg/ChunkedLongs", "get", "(I)J"⟩ : MethodName)) (z := (⟨"com/example/frigg/frigg/ChunkedLongs", "get", "(I)J"⟩ : MethodName)) hown (mvT hZ (hw _ (List.mem_of_getElem? (i := 29) rfl))) (mvT hZ (hw _ (List.mem_of_getElem? (i := 30) rfl))) (notFace_of_selects (args := #[]) (mvT hZ (hw _ (List.mem_of_getElem? (i := 32) rfl)))) (mvT hZ (hw _ (List.mem_of_getElem? (i := 32) rfl))) (mvT hZ (hw _ (List.mem_of_getElem? (i := 31) rfl))) (by decide) (backOf (W := 0) (rm5_2 l Z a0 hw [] b1 c1 k1 kc kk q3 q2 q5 T6.heap n0 Z5c F5 V5 U5) hZ (hw _ (List.mem_of_getElem? (i := 33) rfl)) (hw _ (List.mem_of_getElem? (i := 2) rfl)) (by decide) (by decide)) q9a q9c (g := (mkF m 64 #[.val (.int p1), .val (.long q2), .second, .val (.long q3), .second, .val (.long q4), .second, .val (.long q5), .second, .val (.ref b1), .val (.int (1 : Int32)), .val (.long q3), .second, .val (.long q2), .second, .unset, .unset, .unset, .unset, .unset, .unset, .unset, .unset] [(.int (2 : Int32)), (.ref b1)])) rfl (by rw [hml]; rfl) (Steps.refl _) (argsL := [(.int (2 : Int32))]) (rest := []) (lenOf pd_3 rfl) rfl (by show 2 * 0 + _ ≤ _; exact Nat.le_of_eq rfl) (hb hby at_64) (fun _ _ => ⟨rfl, eq8, (by decide : 3 + 0 ≤ _), (by decide : 32771 + 0 ≤ _)⟩)
    dsimp only [Pt.U, Pt.locs, Pt.cells, Pt.slots] at X9 l9 y9 z9 st9 hQ9
    subst l9 y9 z9
    obtain ⟨rfl, N9q, eq9⟩ := hQ9
    have N9 := Fr.app N8 N9q
    obtain ⟨cq10, kq10, q10a, q10b, q10c⟩ := isOf hZ eq9 E5
    obtain ⟨_, _, ⟨T10, L10, k10, n10⟩, -, X10, ⟨Lc10, hQ10, l10, y10, z10⟩, st10⟩ := X9.virtualBack hx (y := (⟨"com/example/frigg/frigg/ChunkedLongs", "size", "()I"⟩ : MethodName)) (z := (⟨"com/example/frigg/frigg/ChunkedLongs", "size", "()I"⟩ : MethodName)) hown (mvT hZ (hw _ (List.mem_of_getElem? (i := 34) rfl))) (mvT hZ (hw _ (List.mem_of_getElem? (i := 35) rfl))) (notFace_of_selects (args := #[]) (mvT hZ (hw _ (List.mem_of_getElem? (i := 37) rfl)))) (mvT hZ (hw _ (List.mem_of_getElem? (i := 37) rfl))) (mvT hZ (hw _ (List.mem_of_getElem? (i := 36) rfl))) (by decide) (backOf (W := 0) (rm6 l Z a0 hw [] b1 T6.heap n0 Z5c G5) hZ (hw _ (List.mem_of_getElem? (i := 38) rfl)) (hw _ (List.mem_of_getElem? (i := 2) rfl)) (by decide) (by decide)) q10a q10c (g := (mkF m 135 #[.val (.int p1), .val (.long q2), .second, .val (.long q3), .second, .val (.long q4), .second, .val (.long q5), .second, .val (.ref b1), .val (.int (1 : Int32)), .val (.long q3), .second, .val (.long q2), .second, .val (.long q5), .second, .val (.long q3), .second, .val (.long q2), .second, .val (.long q5), .second] [(.ref b1)])) rfl (by rw [hml]; rfl) (Steps.refl _) (argsL := []) (rest := []) (lenOf pd_4 rfl) rfl (by show 2 * 0 + _ ≤ _; exact Nat.le_of_eq rfl) (hb hby at_135) (fun _ _ => ⟨rfl, eq9, (by decide : 3 + 0 ≤ _), (by decide : 32771 + 0 ≤ _)⟩)
    dsimp only [Pt.U, Pt.locs, Pt.cells, Pt.slots] at X10 l10 y10 z10 st10 hQ10
    subst l10 y10 z10
    obtain ⟨rfl, N10q, eq10⟩ := hQ10
    have N10 := Fr.app N9 N10q
    obtain ⟨fs, hr, hrun, hended, hW, hsame⟩ := X10.leave (v := some (.int (1 : Int32))) (fun h => by rw [Bd.returns] at h; cases h)
    refine ⟨_, _, pre0 _ ?_, hrun, hended, _, _, rfl, ?_, ⟨_, rfl⟩, hW, hsame.mono (by decide) (by decide)⟩
    · show Steps p.tables e below (s₁.setTop (mkF m 0 #[.val (.int p1), .val (.long q2), .second, .val (.long q3), .second, .val (.long q4), .second, .val (.long q5), .second, .unset, .unset, .unset, .unset, .unset, .unset, .unset, .unset, .unset, .unset, .unset, .unset, .unset, .unset] [])) _
      refine st1 _ ?_
      show Steps p.tables e below (T1.setTop (mkF m 3 #[.val (.int p1), .val (.long q2), .second, .val (.long q3), .second, .val (.long q4), .second, .val (.long q5), .second, .unset, .unset, .unset, .unset, .unset, .unset, .unset, .unset, .unset, .unset, .unset, .unset, .unset, .unset] [(.ref b1)])) _
      refine XS.dup X1.here hx rfl (hb hby at_3) rfl rfl ?_
      show Steps p.tables e below (T1.setTop (mkF m 4 #[.val (.int p1), .val (.long q2), .second, .val (.long q3), .second, .val (.long q4), .second, .val (.long q5), .second, .unset, .unset, .unset, .unset, .unset, .unset, .unset, .unset, .unset, .unset, .unset, .unset, .unset, .unset] [(.ref b1), (.ref b1)])) _
      refine st2.trans ?_
      show Steps p.tables e below (T2.setTop (mkF m 7 #[.val (.int p1), .val (.long q2), .second, .val (.long q3), .second, .val (.long q4), .second, .val (.long q5), .second, .unset, .unset, .unset, .unset, .unset, .unset, .unset, .unset, .unset, .unset, .unset, .unset, .unset, .unset] [(.ref b1)])) _
      refine XS.astore X2.here hx rfl (hb hby at_7) rfl rfl (l' := #[.val (.int p1), .val (.long q2), .second, .val (.long q3), .second, .val (.long q4), .second, .val (.long q5), .second, .val (.ref b1), .unset, .unset, .unset, .unset, .unset, .unset, .unset, .unset, .unset, .unset, .unset, .unset, .unset]) rfl ?_
      show Steps p.tables e below (T2.setTop (mkF m 9 #[.val (.int p1), .val (.long q2), .second, .val (.long q3), .second, .val (.long q4), .second, .val (.long q5), .second, .val (.ref b1), .unset, .unset, .unset, .unset, .unset, .unset, .unset, .unset, .unset, .unset, .unset, .unset, .unset] [])) _
      refine XS.aload X2.here hx rfl (hb hby at_9) rfl rfl ?_
      show Steps p.tables e below (T2.setTop (mkF m 11 #[.val (.int p1), .val (.long q2), .second, .val (.long q3), .second, .val (.long q4), .second, .val (.long q5), .second, .val (.ref b1), .unset, .unset, .unset, .unset, .unset, .unset, .unset, .unset, .unset, .unset, .unset, .unset, .unset] [(.ref b1)])) _
      refine XS.lloadN X2.here hx rfl (hb hby at_11) rfl ?_
      show Steps p.tables e below (T2.setTop (mkF m 12 #[.val (.int p1), .val (.long q2), .second, .val (.long q3), .second, .val (.long q4), .second, .val (.long q5), .second, .val (.ref b1), .unset, .unset, .unset, .unset, .unset, .unset, .unset, .unset, .unset, .unset, .unset, .unset, .unset] [(.long q3), (.ref b1)])) _
      refine st3.trans ?_
      show Steps p.tables e below (T3.setTop (mkF m 15 #[.val (.int p1), .val (.long q2), .second, .val (.long q3), .second, .val (.long q4), .second, .val (.long q5), .second, .val (.ref b1), .unset, .unset, .unset, .unset, .unset, .unset, .unset, .unset, .unset, .unset, .unset, .unset, .unset] [])) _
      refine XS.aload X3.here hx rfl (hb hby at_15) rfl rfl ?_
      show Steps p.tables e below (T3.setTop (mkF m 17 #[.val (.int p1), .val (.long q2), .second, .val (.long q3), .second, .val (.long q4), .second, .val (.long q5), .second, .val (.ref b1), .unset, .unset, .unset, .unset, .unset, .unset, .unset, .unset, .unset, .unset, .unset, .unset, .unset] [(.ref b1)])) _
      refine XS.lload X3.here hx rfl (hb hby at_17) rfl ?_
      show Steps p.tables e below (T3.setTop (mkF m 19 #[.val (.int p1), .val (.long q2), .second, .val (.long q3), .second, .val (.long q4), .second, .val (.long q5), .second, .val (.ref b1), .unset, .unset, .unset, .unset, .unset, .unset, .unset, .unset, .unset, .unset, .unset, .unset, .unset] [(.long q4), (.ref b1)])) _
      refine st4.trans ?_
      show Steps p.tables e below (T4.setTop (mkF m 22 #[.val (.int p1), .val (.long q2), .second, .val (.long q3), .second, .val (.long q4), .second, .val (.long q5), .second, .val (.ref b1), .unset, .unset, .unset, .unset, .unset, .unset, .unset, .unset, .unset, .unset, .unset, .unset, .unset] [])) _
      refine XS.aload X4.here hx rfl (hb hby at_22) rfl rfl ?_
      show Steps p.tables e below (T4.setTop (mkF m 24 #[.val (.int p1), .val (.long q2), .second, .val (.long q3), .second, .val (.long q4), .second, .val (.long q5), .second, .val (.ref b1), .unset, .unset, .unset, .unset, .unset, .unset, .unset, .unset, .unset, .unset, .unset, .unset, .unset] [(.ref b1)])) _
      refine XS.lload X4.here hx rfl (hb hby at_24) rfl ?_
      show Steps p.tables e below (T4.setTop (mkF m 26 #[.val (.int p1), .val (.long q2), .second, .val (.long q3), .second, .val (.long q4), .second, .val (.long q5), .second, .val (.ref b1), .unset, .unset, .unset, .unset, .unset, .unset, .unset, .unset, .unset, .unset, .unset, .unset, .unset] [(.long q5), (.ref b1)])) _
      refine st5.trans ?_
      show Steps p.tables e below (T5.setTop (mkF m 29 #[.val (.int p1), .val (.long q2), .second, .val (.long q3), .second, .val (.long q4), .second, .val (.long q5), .second, .val (.ref b1), .unset, .unset, .unset, .unset, .unset, .unset, .unset, .unset, .unset, .unset, .unset, .unset, .unset] [])) _
      refine XS.iloadN X5.here hx rfl (hb hby at_29) rfl ?_
      show Steps p.tables e below (T5.setTop (mkF m 30 #[.val (.int p1), .val (.long q2), .second, .val (.long q3), .second, .val (.long q4), .second, .val (.long q5), .second, .val (.ref b1), .unset, .unset, .unset, .unset, .unset, .unset, .unset, .unset, .unset, .unset, .unset, .unset, .unset] [(.int p1)])) _
      refine X5.ldcInt hx hown (mvT hZ (hw _ (List.mem_of_getElem? (i := 23) rfl))) (g := (mkF m 30 #[.val (.int p1), .val (.long q2), .second, .val (.long q3), .second, .val (.long q4), .second, .val (.long q5), .second, .val (.ref b1), .unset, .unset, .unset, .unset, .unset, .unset, .unset, .unset, .unset, .unset, .unset, .unset, .unset] [(.int p1)])) rfl (hb hby at_30) _ ?_
      show Steps p.tables e below (T5.setTop (mkF m 32 #[.val (.int p1), .val (.long q2), .second, .val (.long q3), .second, .val (.long q4), .second, .val (.long q5), .second, .val (.ref b1), .unset, .unset, .unset, .unset, .unset, .unset, .unset, .unset, .unset, .unset, .unset, .unset, .unset] [(.int (2147483647 : Int32)), (.int p1)])) _
      refine XS.iand X5.here hx rfl (hb hby at_32) rfl ?_
      show Steps p.tables e below (T5.setTop (mkF m 33 #[.val (.int p1), .val (.long q2), .second, .val (.long q3), .second, .val (.long q4), .second, .val (.long q5), .second, .val (.ref b1), .unset, .unset, .unset, .unset, .unset, .unset, .unset, .unset, .unset, .unset, .unset, .unset, .unset] [(.int (p1 &&& (2147483647 : Int32)))])) _
      refine XS.iconst X5.here hx rfl (hb hby at_33) ?_
      show Steps p.tables e below (T5.setTop (mkF m 34 #[.val (.int p1), .val (.long q2), .second, .val (.long q3), .second, .val (.long q4), .second, .val (.long q5), .second, .val (.ref b1), .unset, .unset, .unset, .unset, .unset, .unset, .unset, .unset, .unset, .unset, .unset, .unset, .unset] [(.int (3 : Int32)), (.int (p1 &&& (2147483647 : Int32)))])) _
      refine iremM X5 hx (g := (mkF m 34 #[.val (.int p1), .val (.long q2), .second, .val (.long q3), .second, .val (.long q4), .second, .val (.long q5), .second, .val (.ref b1), .unset, .unset, .unset, .unset, .unset, .unset, .unset, .unset, .unset, .unset, .unset, .unset, .unset] [(.int (3 : Int32)), (.int (p1 &&& (2147483647 : Int32)))])) rfl (hb hby at_34) rfl (by decide +kernel) ?_
      show Steps p.tables e below (T5.setTop (mkF m 35 #[.val (.int p1), .val (.long q2), .second, .val (.long q3), .second, .val (.long q4), .second, .val (.long q5), .second, .val (.ref b1), .unset, .unset, .unset, .unset, .unset, .unset, .unset, .unset, .unset, .unset, .unset, .unset, .unset] [(.int ((p1 &&& (2147483647 : Int32)) % (3 : Int32)))])) _
      rw [hk]
      show Steps p.tables e below (T5.setTop (mkF m 35 #[.val (.int p1), .val (.long q2), .second, .val (.long q3), .second, .val (.long q4), .second, .val (.long q5), .second, .val (.ref b1), .unset, .unset, .unset, .unset, .unset, .unset, .unset, .unset, .unset, .unset, .unset, .unset, .unset] [(.int (1 : Int32))])) _
      refine XS.istore X5.here hx rfl (hb hby at_35) rfl (l' := #[.val (.int p1), .val (.long q2), .second, .val (.long q3), .second, .val (.long q4), .second, .val (.long q5), .second, .val (.ref b1), .val (.int (1 : Int32)), .unset, .unset, .unset, .unset, .unset, .unset, .unset, .unset, .unset, .unset, .unset, .unset]) rfl ?_
      show Steps p.tables e below (T5.setTop (mkF m 37 #[.val (.int p1), .val (.long q2), .second, .val (.long q3), .second, .val (.long q4), .second, .val (.long q5), .second, .val (.ref b1), .val (.int (1 : Int32)), .unset, .unset, .unset, .unset, .unset, .unset, .unset, .unset, .unset, .unset, .unset, .unset] [])) _
      refine XS.aload X5.here hx rfl (hb hby at_37) rfl rfl ?_
      show Steps p.tables e below (T5.setTop (mkF m 39 #[.val (.int p1), .val (.long q2), .second, .val (.long q3), .second, .val (.long q4), .second, .val (.long q5), .second, .val (.ref b1), .val (.int (1 : Int32)), .unset, .unset, .unset, .unset, .unset, .unset, .unset, .unset, .unset, .unset, .unset, .unset] [(.ref b1)])) _
      refine XS.iload X5.here hx rfl (hb hby at_39) rfl ?_
      show Steps p.tables e below (T5.setTop (mkF m 41 #[.val (.int p1), .val (.long q2), .second, .val (.long q3), .second, .val (.long q4), .second, .val (.long q5), .second, .val (.ref b1), .val (.int (1 : Int32)), .unset, .unset, .unset, .unset, .unset, .unset, .unset, .unset, .unset, .unset, .unset, .unset] [(.int (1 : Int32)), (.ref b1)])) _
      refine XS.lloadN X5.here hx rfl (hb hby at_41) rfl ?_
      show Steps p.tables e below (T5.setTop (mkF m 42 #[.val (.int p1), .val (.long q2), .second, .val (.long q3), .second, .val (.long q4), .second, .val (.long q5), .second, .val (.ref b1), .val (.int (1 : Int32)), .unset, .unset, .unset, .unset, .unset, .unset, .unset, .unset, .unset, .unset, .unset, .unset] [(.long q2), (.int (1 : Int32)), (.ref b1)])) _
      refine st6.trans ?_
      show Steps p.tables e below (T6.setTop (mkF m 45 #[.val (.int p1), .val (.long q2), .second, .val (.long q3), .second, .val (.long q4), .second, .val (.long q5), .second, .val (.ref b1), .val (.int (1 : Int32)), .unset, .unset, .unset, .unset, .unset, .unset, .unset, .unset, .unset, .unset, .unset, .unset] [])) _
      refine XS.aload X6.here hx rfl (hb hby at_45) rfl rfl ?_
      show Steps p.tables e below (T6.setTop (mkF m 47 #[.val (.int p1), .val (.long q2), .second, .val (.long q3), .second, .val (.long q4), .second, .val (.long q5), .second, .val (.ref b1), .val (.int (1 : Int32)), .unset, .unset, .unset, .unset, .unset, .unset, .unset, .unset, .unset, .unset, .unset, .unset] [(.ref b1)])) _
      refine XS.iconst X6.here hx rfl (hb hby at_47) ?_
      show Steps p.tables e below (T6.setTop (mkF m 48 #[.val (.int p1), .val (.long q2), .second, .val (.long q3), .second, .val (.long q4), .second, .val (.long q5), .second, .val (.ref b1), .val (.int (1 : Int32)), .unset, .unset, .unset, .unset, .unset, .unset, .unset, .unset, .unset, .unset, .unset, .unset] [(.int (0 : Int32)), (.ref b1)])) _
      refine st7.trans ?_
      show Steps p.tables e below (T7.setTop (mkF m 51 #[.val (.int p1), .val (.long q2), .second, .val (.long q3), .second, .val (.long q4), .second, .val (.long q5), .second, .val (.ref b1), .val (.int (1 : Int32)), .unset, .unset, .unset, .unset, .unset, .unset, .unset, .unset, .unset, .unset, .unset, .unset] [(.long q3)])) _
      refine XS.lstore X7.here hx rfl (hb hby at_51) rfl (l' := #[.val (.int p1), .val (.long q2), .second, .val (.long q3), .second, .val (.long q4), .second, .val (.long q5), .second, .val (.ref b1), .val (.int (1 : Int32)), .val (.long q3), .second, .unset, .unset, .unset, .unset, .unset, .unset, .unset, .unset, .unset, .unset]) rfl ?_
      show Steps p.tables e below (T7.setTop (mkF m 53 #[.val (.int p1), .val (.long q2), .second, .val (.long q3), .second, .val (.long q4), .second, .val (.long q5), .second, .val (.ref b1), .val (.int (1 : Int32)), .val (.long q3), .second, .unset, .unset, .unset, .unset, .unset, .unset, .unset, .unset, .unset, .unset] [])) _
      refine XS.aload X7.here hx rfl (hb hby at_53) rfl rfl ?_
      show Steps p.tables e below (T7.setTop (mkF m 55 #[.val (.int p1), .val (.long q2), .second, .val (.long q3), .second, .val (.long q4), .second, .val (.long q5), .second, .val (.ref b1), .val (.int (1 : Int32)), .val (.long q3), .second, .unset, .unset, .unset, .unset, .unset, .unset, .unset, .unset, .unset, .unset] [(.ref b1)])) _
      refine XS.iconst X7.here hx rfl (hb hby at_55) ?_
      show Steps p.tables e below (T7.setTop (mkF m 56 #[.val (.int p1), .val (.long q2), .second, .val (.long q3), .second, .val (.long q4), .second, .val (.long q5), .second, .val (.ref b1), .val (.int (1 : Int32)), .val (.long q3), .second, .unset, .unset, .unset, .unset, .unset, .unset, .unset, .unset, .unset, .unset] [(.int (1 : Int32)), (.ref b1)])) _
      refine st8.trans ?_
      show Steps p.tables e below (T8.setTop (mkF m 59 #[.val (.int p1), .val (.long q2), .second, .val (.long q3), .second, .val (.long q4), .second, .val (.long q5), .second, .val (.ref b1), .val (.int (1 : Int32)), .val (.long q3), .second, .unset, .unset, .unset, .unset, .unset, .unset, .unset, .unset, .unset, .unset] [(.long q2)])) _
      refine XS.lstore X8.here hx rfl (hb hby at_59) rfl (l' := #[.val (.int p1), .val (.long q2), .second, .val (.long q3), .second, .val (.long q4), .second, .val (.long q5), .second, .val (.ref b1), .val (.int (1 : Int32)), .val (.long q3), .second, .val (.long q2), .second, .unset, .unset, .unset, .unset, .unset, .unset, .unset, .unset]) rfl ?_
      show Steps p.tables e below (T8.setTop (mkF m 61 #[.val (.int p1), .val (.long q2), .second, .val (.long q3), .second, .val (.long q4), .second, .val (.long q5), .second, .val (.ref b1), .val (.int (1 : Int32)), .val (.long q3), .second, .val (.long q2), .second, .unset, .unset, .unset, .unset, .unset, .unset, .unset, .unset] [])) _
      refine XS.aload X8.here hx rfl (hb hby at_61) rfl rfl ?_
      show Steps p.tables e below (T8.setTop (mkF m 63 #[.val (.int p1), .val (.long q2), .second, .val (.long q3), .second, .val (.long q4), .second, .val (.long q5), .second, .val (.ref b1), .val (.int (1 : Int32)), .val (.long q3), .second, .val (.long q2), .second, .unset, .unset, .unset, .unset, .unset, .unset, .unset, .unset] [(.ref b1)])) _
      refine XS.iconst X8.here hx rfl (hb hby at_63) ?_
      show Steps p.tables e below (T8.setTop (mkF m 64 #[.val (.int p1), .val (.long q2), .second, .val (.long q3), .second, .val (.long q4), .second, .val (.long q5), .second, .val (.ref b1), .val (.int (1 : Int32)), .val (.long q3), .second, .val (.long q2), .second, .unset, .unset, .unset, .unset, .unset, .unset, .unset, .unset] [(.int (2 : Int32)), (.ref b1)])) _
      refine st9.trans ?_
      show Steps p.tables e below (T9.setTop (mkF m 67 #[.val (.int p1), .val (.long q2), .second, .val (.long q3), .second, .val (.long q4), .second, .val (.long q5), .second, .val (.ref b1), .val (.int (1 : Int32)), .val (.long q3), .second, .val (.long q2), .second, .unset, .unset, .unset, .unset, .unset, .unset, .unset, .unset] [(.long q5)])) _
      refine XS.lstore X9.here hx rfl (hb hby at_67) rfl (l' := #[.val (.int p1), .val (.long q2), .second, .val (.long q3), .second, .val (.long q4), .second, .val (.long q5), .second, .val (.ref b1), .val (.int (1 : Int32)), .val (.long q3), .second, .val (.long q2), .second, .val (.long q5), .second, .unset, .unset, .unset, .unset, .unset, .unset]) rfl ?_
      show Steps p.tables e below (T9.setTop (mkF m 69 #[.val (.int p1), .val (.long q2), .second, .val (.long q3), .second, .val (.long q4), .second, .val (.long q5), .second, .val (.ref b1), .val (.int (1 : Int32)), .val (.long q3), .second, .val (.long q2), .second, .val (.long q5), .second, .unset, .unset, .unset, .unset, .unset, .unset] [])) _
      refine XS.iload X9.here hx rfl (hb hby at_69) rfl ?_
      show Steps p.tables e below (T9.setTop (mkF m 71 #[.val (.int p1), .val (.long q2), .second, .val (.long q3), .second, .val (.long q4), .second, .val (.long q5), .second, .val (.ref b1), .val (.int (1 : Int32)), .val (.long q3), .second, .val (.long q2), .second, .val (.long q5), .second, .unset, .unset, .unset, .unset, .unset, .unset] [(.int (1 : Int32))])) _
      refine XS.ifYes X9.here hx rfl (pc0 := 71) (pc' := 78) rfl (hb hby at_71) rfl ((if0 _ _).trans (feq (by decide +kernel)).2) (by decide) (by decide) ?_
      show Steps p.tables e below (T9.setTop (mkF m 78 #[.val (.int p1), .val (.long q2), .second, .val (.long q3), .second, .val (.long q4), .second, .val (.long q5), .second, .val (.ref b1), .val (.int (1 : Int32)), .val (.long q3), .second, .val (.long q2), .second, .val (.long q5), .second, .unset, .unset, .unset, .unset, .unset, .unset] [])) _
      refine XS.lloadN X9.here hx rfl (hb hby at_78) rfl ?_
      show Steps p.tables e below (T9.setTop (mkF m 79 #[.val (.int p1), .val (.long q2), .second, .val (.long q3), .second, .val (.long q4), .second, .val (.long q5), .second, .val (.ref b1), .val (.int (1 : Int32)), .val (.long q3), .second, .val (.long q2), .second, .val (.long q5), .second, .unset, .unset, .unset, .unset, .unset, .unset] [(.long q3)])) _
      refine XS.lstore X9.here hx rfl (hb hby at_79) rfl (l' := #[.val (.int p1), .val (.long q2), .second, .val (.long q3), .second, .val (.long q4), .second, .val (.long q5), .second, .val (.ref b1), .val (.int (1 : Int32)), .val (.long q3), .second, .val (.long q2), .second, .val (.long q5), .second, .val (.long q3), .second, .unset, .unset, .unset, .unset]) rfl ?_
      show Steps p.tables e below (T9.setTop (mkF m 81 #[.val (.int p1), .val (.long q2), .second, .val (.long q3), .second, .val (.long q4), .second, .val (.long q5), .second, .val (.ref b1), .val (.int (1 : Int32)), .val (.long q3), .second, .val (.long q2), .second, .val (.long q5), .second, .val (.long q3), .second, .unset, .unset, .unset, .unset] [])) _
      refine XS.iload X9.here hx rfl (hb hby at_81) rfl ?_
      show Steps p.tables e below (T9.setTop (mkF m 83 #[.val (.int p1), .val (.long q2), .second, .val (.long q3), .second, .val (.long q4), .second, .val (.long q5), .second, .val (.ref b1), .val (.int (1 : Int32)), .val (.long q3), .second, .val (.long q2), .second, .val (.long q5), .second, .val (.long q3), .second, .unset, .unset, .unset, .unset] [(.int (1 : Int32))])) _
      refine XS.iconst X9.here hx rfl (hb hby at_83) ?_
      show Steps p.tables e below (T9.setTop (mkF m 84 #[.val (.int p1), .val (.long q2), .second, .val (.long q3), .second, .val (.long q4), .second, .val (.long q5), .second, .val (.ref b1), .val (.int (1 : Int32)), .val (.long q3), .second, .val (.long q2), .second, .val (.long q5), .second, .val (.long q3), .second, .unset, .unset, .unset, .unset] [(.int (1 : Int32)), (.int (1 : Int32))])) _
      refine XS.icmpNo X9.here hx rfl (hb hby at_84) rfl (teq (by decide +kernel)).2 ?_
      show Steps p.tables e below (T9.setTop (mkF m 87 #[.val (.int p1), .val (.long q2), .second, .val (.long q3), .second, .val (.long q4), .second, .val (.long q5), .second, .val (.ref b1), .val (.int (1 : Int32)), .val (.long q3), .second, .val (.long q2), .second, .val (.long q5), .second, .val (.long q3), .second, .unset, .unset, .unset, .unset] [])) _
      refine XS.lloadN X9.here hx rfl (hb hby at_87) rfl ?_
      show Steps p.tables e below (T9.setTop (mkF m 88 #[.val (.int p1), .val (.long q2), .second, .val (.long q3), .second, .val (.long q4), .second, .val (.long q5), .second, .val (.ref b1), .val (.int (1 : Int32)), .val (.long q3), .second, .val (.long q2), .second, .val (.long q5), .second, .val (.long q3), .second, .unset, .unset, .unset, .unset] [(.long q2)])) _
      refine XS.goto X9.here hx rfl (pc0 := 88) (pc' := 93) rfl (hb hby at_88) (by decide) (by decide) ?_
      show Steps p.tables e below (T9.setTop (mkF m 93 #[.val (.int p1), .val (.long q2), .second, .val (.long q3), .second, .val (.long q4), .second, .val (.long q5), .second, .val (.ref b1), .val (.int (1 : Int32)), .val (.long q3), .second, .val (.long q2), .second, .val (.long q5), .second, .val (.long q3), .second, .unset, .unset, .unset, .unset] [(.long q2)])) _
      refine XS.lstore X9.here hx rfl (hb hby at_93) rfl (l' := #[.val (.int p1), .val (.long q2), .second, .val (.long q3), .second, .val (.long q4), .second, .val (.long q5), .second, .val (.ref b1), .val (.int (1 : Int32)), .val (.long q3), .second, .val (.long q2), .second, .val (.long q5), .second, .val (.long q3), .second, .val (.long q2), .second, .unset, .unset]) rfl ?_
      show Steps p.tables e below (T9.setTop (mkF m 95 #[.val (.int p1), .val (.long q2), .second, .val (.long q3), .second, .val (.long q4), .second, .val (.long q5), .second, .val (.ref b1), .val (.int (1 : Int32)), .val (.long q3), .second, .val (.long q2), .second, .val (.long q5), .second, .val (.long q3), .second, .val (.long q2), .second, .unset, .unset] [])) _
      refine XS.iload X9.here hx rfl (hb hby at_95) rfl ?_
      show Steps p.tables e below (T9.setTop (mkF m 97 #[.val (.int p1), .val (.long q2), .second, .val (.long q3), .second, .val (.long q4), .second, .val (.long q5), .second, .val (.ref b1), .val (.int (1 : Int32)), .val (.long q3), .second, .val (.long q2), .second, .val (.long q5), .second, .val (.long q3), .second, .val (.long q2), .second, .unset, .unset] [(.int (1 : Int32))])) _
      refine XS.iconst X9.here hx rfl (hb hby at_97) ?_
      show Steps p.tables e below (T9.setTop (mkF m 98 #[.val (.int p1), .val (.long q2), .second, .val (.long q3), .second, .val (.long q4), .second, .val (.long q5), .second, .val (.ref b1), .val (.int (1 : Int32)), .val (.long q3), .second, .val (.long q2), .second, .val (.long q5), .second, .val (.long q3), .second, .val (.long q2), .second, .unset, .unset] [(.int (2 : Int32)), (.int (1 : Int32))])) _
      refine XS.icmpYes X9.here hx rfl (pc0 := 98) (pc' := 105) rfl (hb hby at_98) rfl (feq (by decide +kernel)).2 (by decide) (by decide) ?_
      show Steps p.tables e below (T9.setTop (mkF m 105 #[.val (.int p1), .val (.long q2), .second, .val (.long q3), .second, .val (.long q4), .second, .val (.long q5), .second, .val (.ref b1), .val (.int (1 : Int32)), .val (.long q3), .second, .val (.long q2), .second, .val (.long q5), .second, .val (.long q3), .second, .val (.long q2), .second, .unset, .unset] [])) _
      refine XS.lload X9.here hx rfl (hb hby at_105) rfl ?_
      show Steps p.tables e below (T9.setTop (mkF m 107 #[.val (.int p1), .val (.long q2), .second, .val (.long q3), .second, .val (.long q4), .second, .val (.long q5), .second, .val (.ref b1), .val (.int (1 : Int32)), .val (.long q3), .second, .val (.long q2), .second, .val (.long q5), .second, .val (.long q3), .second, .val (.long q2), .second, .unset, .unset] [(.long q5)])) _
      refine XS.lstore X9.here hx rfl (hb hby at_107) rfl (l' := #[.val (.int p1), .val (.long q2), .second, .val (.long q3), .second, .val (.long q4), .second, .val (.long q5), .second, .val (.ref b1), .val (.int (1 : Int32)), .val (.long q3), .second, .val (.long q2), .second, .val (.long q5), .second, .val (.long q3), .second, .val (.long q2), .second, .val (.long q5), .second]) rfl ?_
      show Steps p.tables e below (T9.setTop (mkF m 109 #[.val (.int p1), .val (.long q2), .second, .val (.long q3), .second, .val (.long q4), .second, .val (.long q5), .second, .val (.ref b1), .val (.int (1 : Int32)), .val (.long q3), .second, .val (.long q2), .second, .val (.long q5), .second, .val (.long q3), .second, .val (.long q2), .second, .val (.long q5), .second] [])) _
      refine XS.lload X9.here hx rfl (hb hby at_109) rfl ?_
      show Steps p.tables e below (T9.setTop (mkF m 111 #[.val (.int p1), .val (.long q2), .second, .val (.long q3), .second, .val (.long q4), .second, .val (.long q5), .second, .val (.ref b1), .val (.int (1 : Int32)), .val (.long q3), .second, .val (.long q2), .second, .val (.long q5), .second, .val (.long q3), .second, .val (.long q2), .second, .val (.long q5), .second] [(.long q3)])) _
      refine XS.lload X9.here hx rfl (hb hby at_111) rfl ?_
      show Steps p.tables e below (T9.setTop (mkF m 113 #[.val (.int p1), .val (.long q2), .second, .val (.long q3), .second, .val (.long q4), .second, .val (.long q5), .second, .val (.ref b1), .val (.int (1 : Int32)), .val (.long q3), .second, .val (.long q2), .second, .val (.long q5), .second, .val (.long q3), .second, .val (.long q2), .second, .val (.long q5), .second] [(.long q3), (.long q3)])) _
      refine XS.lcmp X9.here hx rfl (hb hby at_113) rfl ?_
      show Steps p.tables e below (T9.setTop (mkF m 114 #[.val (.int p1), .val (.long q2), .second, .val (.long q3), .second, .val (.long q4), .second, .val (.long q5), .second, .val (.ref b1), .val (.int (1 : Int32)), .val (.long q3), .second, .val (.long q2), .second, .val (.long q5), .second, .val (.long q3), .second, .val (.long q2), .second, .val (.long q5), .second] [(.int (lcmpW q3 q3))])) _
      refine XS.ifNo X9.here hx rfl (hb hby at_114) rfl ((if0 _ _).trans (teq ((lw_eq _ _).mpr rfl)).2) ?_
      show Steps p.tables e below (T9.setTop (mkF m 117 #[.val (.int p1), .val (.long q2), .second, .val (.long q3), .second, .val (.long q4), .second, .val (.long q5), .second, .val (.ref b1), .val (.int (1 : Int32)), .val (.long q3), .second, .val (.long q2), .second, .val (.long q5), .second, .val (.long q3), .second, .val (.long q2), .second, .val (.long q5), .second] [])) _
      refine XS.lload X9.here hx rfl (hb hby at_117) rfl ?_
      show Steps p.tables e below (T9.setTop (mkF m 119 #[.val (.int p1), .val (.long q2), .second, .val (.long q3), .second, .val (.long q4), .second, .val (.long q5), .second, .val (.ref b1), .val (.int (1 : Int32)), .val (.long q3), .second, .val (.long q2), .second, .val (.long q5), .second, .val (.long q3), .second, .val (.long q2), .second, .val (.long q5), .second] [(.long q2)])) _
      refine XS.lload X9.here hx rfl (hb hby at_119) rfl ?_
      show Steps p.tables e below (T9.setTop (mkF m 121 #[.val (.int p1), .val (.long q2), .second, .val (.long q3), .second, .val (.long q4), .second, .val (.long q5), .second, .val (.ref b1), .val (.int (1 : Int32)), .val (.long q3), .second, .val (.long q2), .second, .val (.long q5), .second, .val (.long q3), .second, .val (.long q2), .second, .val (.long q5), .second] [(.long q2), (.long q2)])) _
      refine XS.lcmp X9.here hx rfl (hb hby at_121) rfl ?_
      show Steps p.tables e below (T9.setTop (mkF m 122 #[.val (.int p1), .val (.long q2), .second, .val (.long q3), .second, .val (.long q4), .second, .val (.long q5), .second, .val (.ref b1), .val (.int (1 : Int32)), .val (.long q3), .second, .val (.long q2), .second, .val (.long q5), .second, .val (.long q3), .second, .val (.long q2), .second, .val (.long q5), .second] [(.int (lcmpW q2 q2))])) _
      refine XS.ifNo X9.here hx rfl (hb hby at_122) rfl ((if0 _ _).trans (teq ((lw_eq _ _).mpr rfl)).2) ?_
      show Steps p.tables e below (T9.setTop (mkF m 125 #[.val (.int p1), .val (.long q2), .second, .val (.long q3), .second, .val (.long q4), .second, .val (.long q5), .second, .val (.ref b1), .val (.int (1 : Int32)), .val (.long q3), .second, .val (.long q2), .second, .val (.long q5), .second, .val (.long q3), .second, .val (.long q2), .second, .val (.long q5), .second] [])) _
      refine XS.lload X9.here hx rfl (hb hby at_125) rfl ?_
      show Steps p.tables e below (T9.setTop (mkF m 127 #[.val (.int p1), .val (.long q2), .second, .val (.long q3), .second, .val (.long q4), .second, .val (.long q5), .second, .val (.ref b1), .val (.int (1 : Int32)), .val (.long q3), .second, .val (.long q2), .second, .val (.long q5), .second, .val (.long q3), .second, .val (.long q2), .second, .val (.long q5), .second] [(.long q5)])) _
      refine XS.lload X9.here hx rfl (hb hby at_127) rfl ?_
      show Steps p.tables e below (T9.setTop (mkF m 129 #[.val (.int p1), .val (.long q2), .second, .val (.long q3), .second, .val (.long q4), .second, .val (.long q5), .second, .val (.ref b1), .val (.int (1 : Int32)), .val (.long q3), .second, .val (.long q2), .second, .val (.long q5), .second, .val (.long q3), .second, .val (.long q2), .second, .val (.long q5), .second] [(.long q5), (.long q5)])) _
      refine XS.lcmp X9.here hx rfl (hb hby at_129) rfl ?_
      show Steps p.tables e below (T9.setTop (mkF m 130 #[.val (.int p1), .val (.long q2), .second, .val (.long q3), .second, .val (.long q4), .second, .val (.long q5), .second, .val (.ref b1), .val (.int (1 : Int32)), .val (.long q3), .second, .val (.long q2), .second, .val (.long q5), .second, .val (.long q3), .second, .val (.long q2), .second, .val (.long q5), .second] [(.int (lcmpW q5 q5))])) _
      refine XS.ifNo X9.here hx rfl (hb hby at_130) rfl ((if0 _ _).trans (teq ((lw_eq _ _).mpr rfl)).2) ?_
      show Steps p.tables e below (T9.setTop (mkF m 133 #[.val (.int p1), .val (.long q2), .second, .val (.long q3), .second, .val (.long q4), .second, .val (.long q5), .second, .val (.ref b1), .val (.int (1 : Int32)), .val (.long q3), .second, .val (.long q2), .second, .val (.long q5), .second, .val (.long q3), .second, .val (.long q2), .second, .val (.long q5), .second] [])) _
      refine XS.aload X9.here hx rfl (hb hby at_133) rfl rfl ?_
      show Steps p.tables e below (T9.setTop (mkF m 135 #[.val (.int p1), .val (.long q2), .second, .val (.long q3), .second, .val (.long q4), .second, .val (.long q5), .second, .val (.ref b1), .val (.int (1 : Int32)), .val (.long q3), .second, .val (.long q2), .second, .val (.long q5), .second, .val (.long q3), .second, .val (.long q2), .second, .val (.long q5), .second] [(.ref b1)])) _
      refine st10.trans ?_
      show Steps p.tables e below (T10.setTop (mkF m 138 #[.val (.int p1), .val (.long q2), .second, .val (.long q3), .second, .val (.long q4), .second, .val (.long q5), .second, .val (.ref b1), .val (.int (1 : Int32)), .val (.long q3), .second, .val (.long q2), .second, .val (.long q5), .second, .val (.long q3), .second, .val (.long q2), .second, .val (.long q5), .second] [(.int (3 : Int32))])) _
      refine XS.iconst X10.here hx rfl (hb hby at_138) ?_
      show Steps p.tables e below (T10.setTop (mkF m 139 #[.val (.int p1), .val (.long q2), .second, .val (.long q3), .second, .val (.long q4), .second, .val (.long q5), .second, .val (.ref b1), .val (.int (1 : Int32)), .val (.long q3), .second, .val (.long q2), .second, .val (.long q5), .second, .val (.long q3), .second, .val (.long q2), .second, .val (.long q5), .second] [(.int (3 : Int32)), (.int (3 : Int32))])) _
      refine XS.icmpNo X10.here hx rfl (hb hby at_139) rfl (teq (by decide +kernel)).2 ?_
      show Steps p.tables e below (T10.setTop (mkF m 142 #[.val (.int p1), .val (.long q2), .second, .val (.long q3), .second, .val (.long q4), .second, .val (.long q5), .second, .val (.ref b1), .val (.int (1 : Int32)), .val (.long q3), .second, .val (.long q2), .second, .val (.long q5), .second, .val (.long q3), .second, .val (.long q2), .second, .val (.long q5), .second] [])) _
      refine XS.iconst X10.here hx rfl (hb hby at_142) ?_
      show Steps p.tables e below (T10.setTop (mkF m 143 #[.val (.int p1), .val (.long q2), .second, .val (.long q3), .second, .val (.long q4), .second, .val (.long q5), .second, .val (.ref b1), .val (.int (1 : Int32)), .val (.long q3), .second, .val (.long q2), .second, .val (.long q5), .second, .val (.long q3), .second, .val (.long q2), .second, .val (.long q5), .second] [(.int (1 : Int32))])) _
      refine XS.goto X10.here hx rfl (pc0 := 143) (pc' := 147) rfl (hb hby at_143) (by decide) (by decide) ?_
      show Steps p.tables e below (T10.setTop (mkF m 147 #[.val (.int p1), .val (.long q2), .second, .val (.long q3), .second, .val (.long q4), .second, .val (.long q5), .second, .val (.ref b1), .val (.int (1 : Int32)), .val (.long q3), .second, .val (.long q2), .second, .val (.long q5), .second, .val (.long q3), .second, .val (.long q2), .second, .val (.long q5), .second] [(.int (1 : Int32))])) _
      exact retN X10 hx (t := .boolean) Bd.returns (by simp) (hb hby at_147) hr
    · show Q0 Z p1 q2 q3 q4 q5 h0 n0 _ T10.heap _
      rw [eq10]
      exact ⟨rfl, N10⟩
  · obtain ⟨T1, h1, X1, e1, E1, A1, D1, -, st1⟩ := newO X0 hx hZ hown (hw _ (List.mem_of_getElem? (i := 0) rfl)) (hw _ (List.mem_of_getElem? (i := 1) rfl)) (hw _ (List.mem_of_getElem? (i := 2) rfl)) e0 (g := (mkF m 0 #[.val (.int p1), .val (.long q2), .second, .val (.long q3), .second, .val (.long q4), .second, .val (.long q5), .second, .unset, .unset, .unset, .unset, .unset, .unset, .unset, .unset, .unset, .unset, .unset, .unset, .unset, .unset] [])) rfl (hb hby at_0) (by decide) (by decide)
    obtain ⟨b1, g1⟩ : ∃ z, z = h0.size := ⟨_, rfl⟩
    rw [← g1] at A1 st1 D1
    have fr_b1 : n0 ≤ b1 := Nat.le_trans Z0 (Nat.le_of_eq g1.symm)
    have Z1 : n0 ≤ h1.size := Nat.le_trans Z0 E1.1
    have f1_5 : Exa Z h1 b1 "com/example/frigg/frigg/ChunkedLongs" := A1
    have f1_6 : Fld Z h1 b1 "com/example/frigg/frigg/ChunkedLongs" "chunks" "[[J" .null := D1 (Or.inl (hw _ (List.mem_of_getElem? (i := 12) rfl))) (ty := (.array (.array .long))) (by decide)
    have f1_7 : Fld Z h1 b1 "com/example/frigg/frigg/ChunkedLongs" "size" "I" (.int (0 : Int32)) := D1 (Or.inl (hw _ (List.mem_of_getElem? (i := 19) rfl))) (ty := .int) (by decide)
    obtain ⟨_, _, ⟨T2, L2, k2, n2⟩, -, X2, ⟨Lc2, hQ2, l2, y2, z2⟩, st2⟩ := X1.specialBack hx (y := (⟨"com/example/frigg/frigg/ChunkedLongs", "<init>", "()V"⟩ : MethodName)) rfl hown (mvT hZ (hw _ (List.mem_of_getElem? (i := 3) rfl))) (mvT hZ (hw _ (List.mem_of_getElem? (i := 4) rfl))) (mvT hZ (hw _ (List.mem_of_getElem? (i := 5) rfl))) (by decide) (backOf (W := 1) (rm1 l Z a0 hw [] b1 h1 n0 Z1 f1_5 f1_6 f1_7 fr_b1) hZ (hw _ (List.mem_of_getElem? (i := 5) rfl)) (hw _ (List.mem_of_getElem? (i := 2) rfl)) (by decide) (by decide)) (g := (mkF m 4 #[.val (.int p1), .val (.long q2), .second, .val (.long q3), .second, .val (.long q4), .second, .val (.long q5), .second, .unset, .unset, .unset, .unset, .unset, .unset, .unset, .unset, .unset, .unset, .unset, .unset, .unset, .unset] [(.ref b1), (.ref b1)])) rfl (by rw [hml]; rfl) (Steps.refl _) (a := b1) (argsL := []) (rest := [(.ref b1)]) (lenOf pd_0 rfl) rfl (by show 2 * 0 + _ ≤ _; exact Nat.le_of_eq rfl) (hb hby at_4) (fun _ _ => ⟨rfl, e1, (by decide : 1 + 1 ≤ _), (by decide : 2 + 1 ≤ _)⟩)
    dsimp only [Pt.U, Pt.locs, Pt.cells, Pt.slots] at X2 l2 y2 z2 st2 hQ2
    subst l2 y2 z2
    obtain ⟨rfl, N2q, c1, kc, E1, F1, G1, V1, O1, gc, nac, Z1c⟩ := hQ2
    have N2 := Fr.app N0 N2q
    obtain ⟨cq3, kq3, q3a, q3b, q3c⟩ := isOf hZ rfl E1
    obtain ⟨_, _, ⟨T3, L3, k3, n3⟩, -, X3, ⟨Lc3, hQ3, l3, y3, z3⟩, st3⟩ := X2.virtualBack hx (y := (⟨"com/example/frigg/frigg/ChunkedLongs", "add", "(J)V"⟩ : MethodName)) (z := (⟨"com/example/frigg/frigg/ChunkedLongs", "add", "(J)V"⟩ : MethodName)) hown (mvT hZ (hw _ (List.mem_of_getElem? (i := 13) rfl))) (mvT hZ (hw _ (List.mem_of_getElem? (i := 14) rfl))) (notFace_of_selects (args := #[]) (mvT hZ (hw _ (List.mem_of_getElem? (i := 16) rfl)))) (mvT hZ (hw _ (List.mem_of_getElem? (i := 16) rfl))) (mvT hZ (hw _ (List.mem_of_getElem? (i := 15) rfl))) (by decide) (backOf (W := 0) (rm3_0 l Z a0 hw [] b1 q3 c1 kc T2.heap n0 Z1c E1 F1 G1 V1 O1 fr_b1 gc nac) hZ (hw _ (List.mem_of_getElem? (i := 17) rfl)) (hw _ (List.mem_of_getElem? (i := 2) rfl)) (by decide) (by decide)) q3a q3c (g := (mkF m 12 #[.val (.int p1), .val (.long q2), .second, .val (.long q3), .second, .val (.long q4), .second, .val (.long q5), .second, .val (.ref b1), .unset, .unset, .unset, .unset, .unset, .unset, .unset, .unset, .unset, .unset, .unset, .unset, .unset] [(.long q3), (.ref b1)])) rfl (by rw [hml]; rfl) (Steps.refl _) (argsL := [(.long q3)]) (rest := []) (lenOf pd_1 rfl) rfl (by show 2 * 0 + _ ≤ _; exact Nat.le_of_eq rfl) (hb hby at_12) (fun _ _ => ⟨rfl, rfl, (by decide : 2 + 1 ≤ _), (by decide : 3 + 32768 ≤ _)⟩)
    dsimp only [Pt.U, Pt.locs, Pt.cells, Pt.slots] at X3 l3 y3 z3 st3 hQ3
    subst l3 y3 z3
    obtain ⟨rfl, N3q, k1, kk, E2, F2, G2, V2, U2, gk, nak, nck, Z2c⟩ := hQ3
    have N3 := Fr.app N2 N3q
    obtain ⟨cq4, kq4, q4a, q4b, q4c⟩ := isOf hZ rfl E2
    obtain ⟨_, _, ⟨T4, L4, k4, n4⟩, -, X4, ⟨Lc4, hQ4, l4, y4, z4⟩, st4⟩ := X3.virtualBack hx (y := (⟨"com/example/frigg/frigg/ChunkedLongs", "add", "(J)V"⟩ : MethodName)) (z := (⟨"com/example/frigg/frigg/ChunkedLongs", "add", "(J)V"⟩ : MethodName)) hown (mvT hZ (hw _ (List.mem_of_getElem? (i := 13) rfl))) (mvT hZ (hw _ (List.mem_of_getElem? (i := 14) rfl))) (notFace_of_selects (args := #[]) (mvT hZ (hw _ (List.mem_of_getElem? (i := 16) rfl)))) (mvT hZ (hw _ (List.mem_of_getElem? (i := 16) rfl))) (mvT hZ (hw _ (List.mem_of_getElem? (i := 15) rfl))) (by decide) (backOf (W := 0) (rm3_1 l Z a0 hw [] b1 q4 c1 k1 kc kk q3 T3.heap n0 Z2c E2 F2 G2 V2 U2 fr_b1 gc gk nac nak nck) hZ (hw _ (List.mem_of_getElem? (i := 17) rfl)) (hw _ (List.mem_of_getElem? (i := 2) rfl)) (by decide) (by decide)) q4a q4c (g := (mkF m 19 #[.val (.int p1), .val (.long q2), .second, .val (.long q3), .second, .val (.long q4), .second, .val (.long q5), .second, .val (.ref b1), .unset, .unset, .unset, .unset, .unset, .unset, .unset, .unset, .unset, .unset, .unset, .unset, .unset] [(.long q4), (.ref b1)])) rfl (by rw [hml]; rfl) (Steps.refl _) (argsL := [(.long q4)]) (rest := []) (lenOf pd_1 rfl) rfl (by show 2 * 0 + _ ≤ _; exact Nat.le_of_eq rfl) (hb hby at_19) (fun _ _ => ⟨rfl, rfl, (by decide : 3 + 0 ≤ _), (by decide : 32771 + 0 ≤ _)⟩)
    dsimp only [Pt.U, Pt.locs, Pt.cells, Pt.slots] at X4 l4 y4 z4 st4 hQ4
    subst l4 y4 z4
    obtain ⟨rfl, N4q, E3, F3, G3, V3, U3, Z3c⟩ := hQ4
    have N4 := Fr.app N3 N4q
    obtain ⟨cq5, kq5, q5a, q5b, q5c⟩ := isOf hZ rfl E3
    obtain ⟨_, _, ⟨T5, L5, k5, n5⟩, -, X5, ⟨Lc5, hQ5, l5, y5, z5⟩, st5⟩ := X4.virtualBack hx (y := (⟨"com/example/frigg/frigg/ChunkedLongs", "add", "(J)V"⟩ : MethodName)) (z := (⟨"com/example/frigg/frigg/ChunkedLongs", "add", "(J)V"⟩ : MethodName)) hown (mvT hZ (hw _ (List.mem_of_getElem? (i := 13) rfl))) (mvT hZ (hw _ (List.mem_of_getElem? (i := 14) rfl))) (notFace_of_selects (args := #[]) (mvT hZ (hw _ (List.mem_of_getElem? (i := 16) rfl)))) (mvT hZ (hw _ (List.mem_of_getElem? (i := 16) rfl))) (mvT hZ (hw _ (List.mem_of_getElem? (i := 15) rfl))) (by decide) (backOf (W := 0) (rm3_2 l Z a0 hw [] b1 q5 c1 k1 kc kk q3 q4 T4.heap n0 Z3c E3 F3 G3 V3 U3 fr_b1 gc gk nac nak nck) hZ (hw _ (List.mem_of_getElem? (i := 17) rfl)) (hw _ (List.mem_of_getElem? (i := 2) rfl)) (by decide) (by decide)) q5a q5c (g := (mkF m 26 #[.val (.int p1), .val (.long q2), .second, .val (.long q3), .second, .val (.long q4), .second, .val (.long q5), .second, .val (.ref b1), .unset, .unset, .unset, .unset, .unset, .unset, .unset, .unset, .unset, .unset, .unset, .unset, .unset] [(.long q5), (.ref b1)])) rfl (by rw [hml]; rfl) (Steps.refl _) (argsL := [(.long q5)]) (rest := []) (lenOf pd_1 rfl) rfl (by show 2 * 0 + _ ≤ _; exact Nat.le_of_eq rfl) (hb hby at_26) (fun _ _ => ⟨rfl, rfl, (by decide : 3 + 0 ≤ _), (by decide : 32771 + 0 ≤ _)⟩)
    dsimp only [Pt.U, Pt.locs, Pt.cells, Pt.slots] at X5 l5 y5 z5 st5 hQ5
    subst l5 y5 z5
    obtain ⟨rfl, N5q, E4, F4, G4, V4, U4, Z4c⟩ := hQ5
    have N5 := Fr.app N4 N5q
    obtain ⟨cq6, kq6, q6a, q6b, q6c⟩ := isOf hZ rfl E4
    obtain ⟨_, _, ⟨T6, L6, k6, n6⟩, -, X6, ⟨Lc6, hQ6, l6, y6, z6⟩, st6⟩ := X5.virtualBack hx (y := (⟨"com/example/frigg/frigg/ChunkedLongs", "set", "(IJ)V"⟩ : MethodName)) (z := (⟨"com/example/frigg/frigg/ChunkedLongs", "set", "(IJ)V"⟩ : MethodName)) hown (mvT hZ (hw _ (List.mem_of_getElem? (i := 24) rfl))) (mvT hZ (hw _ (List.mem_of_getElem? (i := 25) rfl))) (notFace_of_selects (args := #[]) (mvT hZ (hw _ (List.mem_of_getElem? (i := 27) rfl)))) (mvT hZ (hw _ (List.mem_of_getElem? (i := 27) rfl))) (mvT hZ (hw _ (List.mem_of_getElem? (i := 26) rfl))) (by decide) (backOf (W := 0) (rm4_2 l Z a0 hw [] b1 q2 c1 k1 kc kk q3 q4 q5 T5.heap n0 Z4c E4 F4 G4 V4 U4 fr_b1 gc gk nac nak nck) hZ (hw _ (List.mem_of_getElem? (i := 28) rfl)) (hw _ (List.mem_of_getElem? (i := 2) rfl)) (by decide) (by decide)) q6a q6c (g := (mkF m 42 #[.val (.int p1), .val (.long q2), .second, .val (.long q3), .second, .val (.long q4), .second, .val (.long q5), .second, .val (.ref b1), .val (.int (2 : Int32)), .unset, .unset, .unset, .unset, .unset, .unset, .unset, .unset, .unset, .unset, .unset, .unset] [(.long q2), (.int (2 : Int32)), (.ref b1)])) rfl (by rw [hml]; rfl) (Steps.refl _) (argsL := [(.int (2 : Int32)), (.long q2)]) (rest := []) (lenOf pd_2 rfl) rfl (by show 2 * 0 + _ ≤ _; exact Nat.le_of_eq rfl) (hb hby at_42) (fun _ _ => ⟨rfl, rfl, (by decide : 3 + 0 ≤ _), (by decide : 32771 + 0 ≤ _)⟩)
    dsimp only [Pt.U, Pt.locs, Pt.cells, Pt.slots] at X6 l6 y6 z6 st6 hQ6
    subst l6 y6 z6
    obtain ⟨rfl, N6q, E5, F5, G5, V5, U5, Z5c⟩ := hQ6
    have N6 := Fr.app N5 N6q
    obtain ⟨cq7, kq7, q7a, q7b, q7c⟩ := isOf hZ rfl E5
    obtain ⟨_, _, ⟨T7, L7, k7, n7⟩, -, X7, ⟨Lc7, hQ7, l7, y7, z7⟩, st7⟩ := X6.virtualBack hx (y := (⟨"com/example/frigg/frigg/ChunkedLongs", "get", "(I)J"⟩ : MethodName)) (z := (⟨"com/example/frigg/frigg/ChunkedLongs", "get", "(I)J"⟩ : MethodName)) hown (mvT hZ (hw _ (List.mem_of_getElem? (i := 29) rfl))) (mvT hZ (hw _ (List.mem_of_getElem? (i := 30) rfl))) (notFace_of_selects (args := #[]) (mvT hZ (hw _ (List.mem_of_getElem? (i := 32) rfl)))) (mvT hZ (hw _ (List.mem_of_getElem? (i := 32) rfl))) (mvT hZ (hw _ (List.mem_of_getElem? (i := 31) rfl))) (by decide) (backOf (W := 0) (rm5_0 l Z a0 hw [] b1 c1 k1 kc kk q3 q4 q2 T6.heap n0 Z5c F5 V5 U5) hZ (hw _ (List.mem_of_getElem? (i := 33) rfl)) (hw _ (List.mem_of_getElem? (i := 2) rfl)) (by decide) (by decide)) q7a q7c (g := (mkF m 48 #[.val (.int p1), .val (.long q2), .second, .val (.long q3), .second, .val (.long q4), .second, .val (.long q5), .second, .val (.ref b1), .val (.int (2 : Int32)), .unset, .unset, .unset, .unset, .unset, .unset, .unset, .unset, .unset, .unset, .unset, .unset] [(.int (0 : Int32)), (.ref b1)])) rfl (by rw [hml]; rfl) (Steps.refl _) (argsL := [(.int (0 : Int32))]) (rest := []) (lenOf pd_3 rfl) rfl (by show 2 * 0 + _ ≤ _; exact Nat.le_of_eq rfl) (hb hby at_48) (fun _ _ => ⟨rfl, rfl, (by decide : 3 + 0 ≤ _), (by decide : 32771 + 0 ≤ _)⟩)
    dsimp only [Pt.U, Pt.locs, Pt.cells, Pt.slots] at X7 l7 y7 z7 st7 hQ7
    subst l7 y7 z7
    obtain ⟨rfl, N7q, eq7⟩ := hQ7
    have N7 := Fr.app N6 N7q
    obtain ⟨cq8, kq8, q8a, q8b, q8c⟩ := isOf hZ eq7 E5
    obtain ⟨_, _, ⟨T8, L8, k8, n8⟩, -, X8, ⟨Lc8, hQ8, l8, y8, z8⟩, st8⟩ := X7.virtualBack hx (y := (⟨"com/example/frigg/frigg/ChunkedLongs", "get", "(I)J"⟩ : MethodName)) (z := (⟨"com/example/frigg/frigg/ChunkedLongs", "get", "(I)J"⟩ : MethodName)) hown (mvT hZ (hw _ (List.mem_of_getElem? (i := 29) rfl))) (mvT hZ (hw _ (List.mem_of_getElem? (i := 30) rfl))) (notFace_of_selects (args := #[]) (mvT hZ (hw _ (List.mem_of_getElem? (i := 32) rfl)))) (mvT hZ (hw _ (List.mem_of_getElem? (i := 32) rfl))) (mvT hZ (hw _ (List.mem_of_getElem? (i := 31) rfl))) (by decide) (backOf (W := 0) (rm5_1 l Z a0 hw [] b1 c1 k1 kc kk q3 q4 q2 T6.heap n0 Z5c F5 V5 U5) hZ (hw _ (List.mem_of_getElem? (i := 33) rfl)) (hw _ (List.mem_of_getElem? (i := 2) rfl)) (by decide) (by decide)) q8a q8c (g := (mkF m 56 #[.val (.int p1), .val (.long q2), .second, .val (.long q3), .second, .val (.long q4), .second, .val (.long q5), .second, .val (.ref b1), .val (.int (2 : Int32)), .val (.long q3), .second, .unset, .unset, .unset, .unset, .unset, .unset, .unset, .unset, .unset, .unset] [(.int (1 : Int32)), (.ref b1)])) rfl (by rw [hml]; rfl) (Steps.refl _) (argsL := [(.int (1 : Int32))]) (rest := []) (lenOf pd_3 rfl) rfl (by show 2 * 0 + _ ≤ _; exact Nat.le_of_eq rfl) (hb hby at_56) (fun _ _ => ⟨rfl, eq7, (by decide : 3 + 0 ≤ _), (by decide : 32771 + 0 ≤ _)⟩)
    dsimp only [Pt.U, Pt.locs, Pt.cells, Pt.slots] at X8 l8 y8 z8 st8 hQ8
    subst l8 y8 z8
    obtain ⟨rfl, N8q, eq8⟩ := hQ8
    have N8 := Fr.app N7 N8q
    obtain ⟨cq9, kq9, q9a, q9b, q9c⟩ := isOf hZ eq8 E5
    obtain ⟨_, _, ⟨T9, L9, k9, n9⟩, -, X9, ⟨Lc9, hQ9, l9, y9, z9⟩, st9⟩ := X8.virtualBack hx (y := (⟨"com/example/frigg/frigg/ChunkedLongs", "get", "(I)J"⟩ : MethodName)) (z := (⟨"com/example/frigg/frigg/ChunkedLongs", "get", "(I)J"⟩ : MethodName)) hown (mvT hZ (hw _ (List.mem_of_getElem? (i := 29) rfl))) (mvT hZ (hw _ (List.mem_of_getElem? (i := 30) rfl))) (notFace_of_selects (args := #[]) (mvT hZ (hw _ (List.mem_of_getElem? (i := 32) rfl)))) (mvT hZ (hw _ (List.mem_of_getElem? (i := 32) rfl))) (mvT hZ (hw _ (List.mem_of_getElem? (i := 31) rfl))) (by decide) (backOf (W := 0) (rm5_2 l Z a0 hw [] b1 c1 k1 kc kk q3 q4 q2 T6.heap n0 Z5c F5 V5 U5) hZ (hw _ (List.mem_of_getElem? (i := 33) rfl)) (hw _ (List.mem_of_getElem? (i := 2) rfl)) (by decide) (by decide)) q9a q9c (g := (mkF m 64 #[.val (.int p1), .val (.long q2), .second, .val (.long q3), .second, .val (.long q4), .second, .val (.long q5), .second, .val (.ref b1), .val (.int (2 : Int32)), .val (.long q3), .second, .val (.long q4), .second, .unset, .unset, .unset, .unset, .unset, .unset, .unset, .unset] [(.int (2 : Int32)), (.ref b1)])) rfl (by rw [hml]; rfl) (Steps.refl _) (argsL := [(.int (2 : Int32))]) (rest := []) (lenOf pd_3 rfl) rfl (by show 2 * 0 + _ ≤ _; exact Nat.le_of_eq rfl) (hb hby at_64) (fun _ _ => ⟨rfl, eq8, (by decide : 3 + 0 ≤ _), (by decide : 32771 + 0 ≤ _)⟩)
    dsimp only [Pt.U, Pt.locs, Pt.cells, Pt.slots] at X9 l9 y9 z9 st9 hQ9
    subst l9 y9 z9
    obtain ⟨rfl, N9q, eq9⟩ := hQ9
    have N9 := Fr.app N8 N9q
    obtain ⟨cq10, kq10, q10a, q10b, q10c⟩ := isOf hZ eq9 E5
    obtain ⟨_, _, ⟨T10, L10, k10, n10⟩, -, X10, ⟨Lc10, hQ10, l10, y10, z10⟩, st10⟩ := X9.virtualBack hx (y := (⟨"com/example/frigg/frigg/ChunkedLongs", "size", "()I"⟩ : MethodName)) (z := (⟨"com/example/frigg/frigg/ChunkedLongs", "size", "()I"⟩ : MethodName)) hown (mvT hZ (hw _ (List.mem_of_getElem? (i := 34) rfl))) (mvT hZ (hw _ (List.mem_of_getElem? (i := 35) rfl))) (notFace_of_selects (args := #[]) (mvT hZ (hw _ (List.mem_of_getElem? (i := 37) rfl)))) (mvT hZ (hw _ (List.mem_of_getElem? (i := 37) rfl))) (mvT hZ (hw _ (List.mem_of_getElem? (i := 36) rfl))) (by decide) (backOf (W := 0) (rm6 l Z a0 hw [] b1 T6.heap n0 Z5c G5) hZ (hw _ (List.mem_of_getElem? (i := 38) rfl)) (hw _ (List.mem_of_getElem? (i := 2) rfl)) (by decide) (by decide)) q10a q10c (g := (mkF m 135 #[.val (.int p1), .val (.long q2), .second, .val (.long q3), .second, .val (.long q4), .second, .val (.long q5), .second, .val (.ref b1), .val (.int (2 : Int32)), .val (.long q3), .second, .val (.long q4), .second, .val (.long q2), .second, .val (.long q3), .second, .val (.long q4), .second, .val (.long q2), .second] [(.ref b1)])) rfl (by rw [hml]; rfl) (Steps.refl _) (argsL := []) (rest := []) (lenOf pd_4 rfl) rfl (by show 2 * 0 + _ ≤ _; exact Nat.le_of_eq rfl) (hb hby at_135) (fun _ _ => ⟨rfl, eq9, (by decide : 3 + 0 ≤ _), (by decide : 32771 + 0 ≤ _)⟩)
    dsimp only [Pt.U, Pt.locs, Pt.cells, Pt.slots] at X10 l10 y10 z10 st10 hQ10
    subst l10 y10 z10
    obtain ⟨rfl, N10q, eq10⟩ := hQ10
    have N10 := Fr.app N9 N10q
    obtain ⟨fs, hr, hrun, hended, hW, hsame⟩ := X10.leave (v := some (.int (1 : Int32))) (fun h => by rw [Bd.returns] at h; cases h)
    refine ⟨_, _, pre0 _ ?_, hrun, hended, _, _, rfl, ?_, ⟨_, rfl⟩, hW, hsame.mono (by decide) (by decide)⟩
    · show Steps p.tables e below (s₁.setTop (mkF m 0 #[.val (.int p1), .val (.long q2), .second, .val (.long q3), .second, .val (.long q4), .second, .val (.long q5), .second, .unset, .unset, .unset, .unset, .unset, .unset, .unset, .unset, .unset, .unset, .unset, .unset, .unset, .unset] [])) _
      refine st1 _ ?_
      show Steps p.tables e below (T1.setTop (mkF m 3 #[.val (.int p1), .val (.long q2), .second, .val (.long q3), .second, .val (.long q4), .second, .val (.long q5), .second, .unset, .unset, .unset, .unset, .unset, .unset, .unset, .unset, .unset, .unset, .unset, .unset, .unset, .unset] [(.ref b1)])) _
      refine XS.dup X1.here hx rfl (hb hby at_3) rfl rfl ?_
      show Steps p.tables e below (T1.setTop (mkF m 4 #[.val (.int p1), .val (.long q2), .second, .val (.long q3), .second, .val (.long q4), .second, .val (.long q5), .second, .unset, .unset, .unset, .unset, .unset, .unset, .unset, .unset, .unset, .unset, .unset, .unset, .unset, .unset] [(.ref b1), (.ref b1)])) _
      refine st2.trans ?_
      show Steps p.tables e below (T2.setTop (mkF m 7 #[.val (.int p1), .val (.long q2), .second, .val (.long q3), .second, .val (.long q4), .second, .val (.long q5), .second, .unset, .unset, .unset, .unset, .unset, .unset, .unset, .unset, .unset, .unset, .unset, .unset, .unset, .unset] [(.ref b1)])) _
      refine XS.astore X2.here hx rfl (hb hby at_7) rfl rfl (l' := #[.val (.int p1), .val (.long q2), .second, .val (.long q3), .second, .val (.long q4), .second, .val (.long q5), .second, .val (.ref b1), .unset, .unset, .unset, .unset, .unset, .unset, .unset, .unset, .unset, .unset, .unset, .unset, .unset]) rfl ?_
      show Steps p.tables e below (T2.setTop (mkF m 9 #[.val (.int p1), .val (.long q2), .second, .val (.long q3), .second, .val (.long q4), .second, .val (.long q5), .second, .val (.ref b1), .unset, .unset, .unset, .unset, .unset, .unset, .unset, .unset, .unset, .unset, .unset, .unset, .unset] [])) _
      refine XS.aload X2.here hx rfl (hb hby at_9) rfl rfl ?_
      show Steps p.tables e below (T2.setTop (mkF m 11 #[.val (.int p1), .val (.long q2), .second, .val (.long q3), .second, .val (.long q4), .second, .val (.long q5), .second, .val (.ref b1), .unset, .unset, .unset, .unset, .unset, .unset, .unset, .unset, .unset, .unset, .unset, .unset, .unset] [(.ref b1)])) _
      refine XS.lloadN X2.here hx rfl (hb hby at_11) rfl ?_
      show Steps p.tables e below (T2.setTop (mkF m 12 #[.val (.int p1), .val (.long q2), .second, .val (.long q3), .second, .val (.long q4), .second, .val (.long q5), .second, .val (.ref b1), .unset, .unset, .unset, .unset, .unset, .unset, .unset, .unset, .unset, .unset, .unset, .unset, .unset] [(.long q3), (.ref b1)])) _
      refine st3.trans ?_
      show Steps p.tables e below (T3.setTop (mkF m 15 #[.val (.int p1), .val (.long q2), .second, .val (.long q3), .second, .val (.long q4), .second, .val (.long q5), .second, .val (.ref b1), .unset, .unset, .unset, .unset, .unset, .unset, .unset, .unset, .unset, .unset, .unset, .unset, .unset] [])) _
      refine XS.aload X3.here hx rfl (hb hby at_15) rfl rfl ?_
      show Steps p.tables e below (T3.setTop (mkF m 17 #[.val (.int p1), .val (.long q2), .second, .val (.long q3), .second, .val (.long q4), .second, .val (.long q5), .second, .val (.ref b1), .unset, .unset, .unset, .unset, .unset, .unset, .unset, .unset, .unset, .unset, .unset, .unset, .unset] [(.ref b1)])) _
      refine XS.lload X3.here hx rfl (hb hby at_17) rfl ?_
      show Steps p.tables e below (T3.setTop (mkF m 19 #[.val (.int p1), .val (.long q2), .second, .val (.long q3), .second, .val (.long q4), .second, .val (.long q5), .second, .val (.ref b1), .unset, .unset, .unset, .unset, .unset, .unset, .unset, .unset, .unset, .unset, .unset, .unset, .unset] [(.long q4), (.ref b1)])) _
      refine st4.trans ?_
      show Steps p.tables e below (T4.setTop (mkF m 22 #[.val (.int p1), .val (.long q2), .second, .val (.long q3), .second, .val (.long q4), .second, .val (.long q5), .second, .val (.ref b1), .unset, .unset, .unset, .unset, .unset, .unset, .unset, .unset, .unset, .unset, .unset, .unset, .unset] [])) _
      refine XS.aload X4.here hx rfl (hb hby at_22) rfl rfl ?_
      show Steps p.tables e below (T4.setTop (mkF m 24 #[.val (.int p1), .val (.long q2), .second, .val (.long q3), .second, .val (.long q4), .second, .val (.long q5), .second, .val (.ref b1), .unset, .unset, .unset, .unset, .unset, .unset, .unset, .unset, .unset, .unset, .unset, .unset, .unset] [(.ref b1)])) _
      refine XS.lload X4.here hx rfl (hb hby at_24) rfl ?_
      show Steps p.tables e below (T4.setTop (mkF m 26 #[.val (.int p1), .val (.long q2), .second, .val (.long q3), .second, .val (.long q4), .second, .val (.long q5), .second, .val (.ref b1), .unset, .unset, .unset, .unset, .unset, .unset, .unset, .unset, .unset, .unset, .unset, .unset, .unset] [(.long q5), (.ref b1)])) _
      refine st5.trans ?_
      show Steps p.tables e below (T5.setTop (mkF m 29 #[.val (.int p1), .val (.long q2), .second, .val (.long q3), .second, .val (.long q4), .second, .val (.long q5), .second, .val (.ref b1), .unset, .unset, .unset, .unset, .unset, .unset, .unset, .unset, .unset, .unset, .unset, .unset, .unset] [])) _
      refine XS.iloadN X5.here hx rfl (hb hby at_29) rfl ?_
      show Steps p.tables e below (T5.setTop (mkF m 30 #[.val (.int p1), .val (.long q2), .second, .val (.long q3), .second, .val (.long q4), .second, .val (.long q5), .second, .val (.ref b1), .unset, .unset, .unset, .unset, .unset, .unset, .unset, .unset, .unset, .unset, .unset, .unset, .unset] [(.int p1)])) _
      refine X5.ldcInt hx hown (mvT hZ (hw _ (List.mem_of_getElem? (i := 23) rfl))) (g := (mkF m 30 #[.val (.int p1), .val (.long q2), .second, .val (.long q3), .second, .val (.long q4), .second, .val (.long q5), .second, .val (.ref b1), .unset, .unset, .unset, .unset, .unset, .unset, .unset, .unset, .unset, .unset, .unset, .unset, .unset] [(.int p1)])) rfl (hb hby at_30) _ ?_
      show Steps p.tables e below (T5.setTop (mkF m 32 #[.val (.int p1), .val (.long q2), .second, .val (.long q3), .second, .val (.long q4), .second, .val (.long q5), .second, .val (.ref b1), .unset, .unset, .unset, .unset, .unset, .unset, .unset, .unset, .unset, .unset, .unset, .unset, .unset] [(.int (2147483647 : Int32)), (.int p1)])) _
      refine XS.iand X5.here hx rfl (hb hby at_32) rfl ?_
      show Steps p.tables e below (T5.setTop (mkF m 33 #[.val (.int p1), .val (.long q2), .second, .val (.long q3), .second, .val (.long q4), .second, .val (.long q5), .second, .val (.ref b1), .unset, .unset, .unset, .unset, .unset, .unset, .unset, .unset, .unset, .unset, .unset, .unset, .unset] [(.int (p1 &&& (2147483647 : Int32)))])) _
      refine XS.iconst X5.here hx rfl (hb hby at_33) ?_
      show Steps p.tables e below (T5.setTop (mkF m 34 #[.val (.int p1), .val (.long q2), .second, .val (.long q3), .second, .val (.long q4), .second, .val (.long q5), .second, .val (.ref b1), .unset, .unset, .unset, .unset, .unset, .unset, .unset, .unset, .unset, .unset, .unset, .unset, .unset] [(.int (3 : Int32)), (.int (p1 &&& (2147483647 : Int32)))])) _
      refine iremM X5 hx (g := (mkF m 34 #[.val (.int p1), .val (.long q2), .second, .val (.long q3), .second, .val (.long q4), .second, .val (.long q5), .second, .val (.ref b1), .unset, .unset, .unset, .unset, .unset, .unset, .unset, .unset, .unset, .unset, .unset, .unset, .unset] [(.int (3 : Int32)), (.int (p1 &&& (2147483647 : Int32)))])) rfl (hb hby at_34) rfl (by decide +kernel) ?_
      show Steps p.tables e below (T5.setTop (mkF m 35 #[.val (.int p1), .val (.long q2), .second, .val (.long q3), .second, .val (.long q4), .second, .val (.long q5), .second, .val (.ref b1), .unset, .unset, .unset, .unset, .unset, .unset, .unset, .unset, .unset, .unset, .unset, .unset, .unset] [(.int ((p1 &&& (2147483647 : Int32)) % (3 : Int32)))])) _
      rw [hk]
      show Steps p.tables e below (T5.setTop (mkF m 35 #[.val (.int p1), .val (.long q2), .second, .val (.long q3), .second, .val (.long q4), .second, .val (.long q5), .second, .val (.ref b1), .unset, .unset, .unset, .unset, .unset, .unset, .unset, .unset, .unset, .unset, .unset, .unset, .unset] [(.int (2 : Int32))])) _
      refine XS.istore X5.here hx rfl (hb hby at_35) rfl (l' := #[.val (.int p1), .val (.long q2), .second, .val (.long q3), .second, .val (.long q4), .second, .val (.long q5), .second, .val (.ref b1), .val (.int (2 : Int32)), .unset, .unset, .unset, .unset, .unset, .unset, .unset, .unset, .unset, .unset, .unset, .unset]) rfl ?_
      show Steps p.tables e below (T5.setTop (mkF m 37 #[.val (.int p1), .val (.long q2), .second, .val (.long q3), .second, .val (.long q4), .second, .val (.long q5), .second, .val (.ref b1), .val (.int (2 : Int32)), .unset, .unset, .unset, .unset, .unset, .unset, .unset, .unset, .unset, .unset, .unset, .unset] [])) _
      refine XS.aload X5.here hx rfl (hb hby at_37) rfl rfl ?_
      show Steps p.tables e below (T5.setTop (mkF m 39 #[.val (.int p1), .val (.long q2), .second, .val (.long q3), .second, .val (.long q4), .second, .val (.long q5), .second, .val (.ref b1), .val (.int (2 : Int32)), .unset, .unset, .unset, .unset, .unset, .unset, .unset, .unset, .unset, .unset, .unset, .unset] [(.ref b1)])) _
      refine XS.iload X5.here hx rfl (hb hby at_39) rfl ?_
      show Steps p.tables e below (T5.setTop (mkF m 41 #[.val (.int p1), .val (.long q2), .second, .val (.long q3), .second, .val (.long q4), .second, .val (.long q5), .second, .val (.ref b1), .val (.int (2 : Int32)), .unset, .unset, .unset, .unset, .unset, .unset, .unset, .unset, .unset, .unset, .unset, .unset] [(.int (2 : Int32)), (.ref b1)])) _
      refine XS.lloadN X5.here hx rfl (hb hby at_41) rfl ?_
      show Steps p.tables e below (T5.setTop (mkF m 42 #[.val (.int p1), .val (.long q2), .second, .val (.long q3), .second, .val (.long q4), .second, .val (.long q5), .second, .val (.ref b1), .val (.int (2 : Int32)), .unset, .unset, .unset, .unset, .unset, .unset, .unset, .unset, .unset, .unset, .unset, .unset] [(.long q2), (.int (2 : Int32)), (.ref b1)])) _
      refine st6.trans ?_
      show Steps p.tables e below (T6.setTop (mkF m 45 #[.val (.int p1), .val (.long q2), .second, .val (.long q3), .second, .val (.long q4), .second, .val (.long q5), .second, .val (.ref b1), .val (.int (2 : Int32)), .unset, .unset, .unset, .unset, .unset, .unset, .unset, .unset, .unset, .unset, .unset, .unset] [])) _
      refine XS.aload X6.here hx rfl (hb hby at_45) rfl rfl ?_
      show Steps p.tables e below (T6.setTop (mkF m 47 #[.val (.int p1), .val (.long q2), .second, .val (.long q3), .second, .val (.long q4), .second, .val (.long q5), .second, .val (.ref b1), .val (.int (2 : Int32)), .unset, .unset, .unset, .unset, .unset, .unset, .unset, .unset, .unset, .unset, .unset, .unset] [(.ref b1)])) _
      refine XS.iconst X6.here hx rfl (hb hby at_47) ?_
      show Steps p.tables e below (T6.setTop (mkF m 48 #[.val (.int p1), .val (.long q2), .second, .val (.long q3), .second, .val (.long q4), .second, .val (.long q5), .second, .val (.ref b1), .val (.int (2 : Int32)), .unset, .unset, .unset, .unset, .unset, .unset, .unset, .unset, .unset, .unset, .unset, .unset] [(.int (0 : Int32)), (.ref b1)])) _
      refine st7.trans ?_
      show Steps p.tables e below (T7.setTop (mkF m 51 #[.val (.int p1), .val (.long q2), .second, .val (.long q3), .second, .val (.long q4), .second, .val (.long q5), .second, .val (.ref b1), .val (.int (2 : Int32)), .unset, .unset, .unset, .unset, .unset, .unset, .unset, .unset, .unset, .unset, .unset, .unset] [(.long q3)])) _
      refine XS.lstore X7.here hx rfl (hb hby at_51) rfl (l' := #[.val (.int p1), .val (.long q2), .second, .val (.long q3), .second, .val (.long q4), .second, .val (.long q5), .second, .val (.ref b1), .val (.int (2 : Int32)), .val (.long q3), .second, .unset, .unset, .unset, .unset, .unset, .unset, .unset, .unset, .unset, .unset]) rfl ?_
      show Steps p.tables e below (T7.setTop (mkF m 53 #[.val (.int p1), .val (.long q2), .second, .val (.long q3), .second, .val (.long q4), .second, .val (.long q5), .second, .val (.ref b1), .val (.int (2 : Int32)), .val (.long q3), .second, .unset, .unset, .unset, .unset, .unset, .unset, .unset, .unset, .unset, .unset] [])) _
      refine XS.aload X7.here hx rfl (hb hby at_53) rfl rfl ?_
      show Steps p.tables e below (T7.setTop (mkF m 55 #[.val (.int p1), .val (.long q2), .second, .val (.long q3), .second, .val (.long q4), .second, .val (.long q5), .second, .val (.ref b1), .val (.int (2 : Int32)), .val (.long q3), .second, .unset, .unset, .unset, .unset, .unset, .unset, .unset, .unset, .unset, .unset] [(.ref b1)])) _
      refine XS.iconst X7.here hx rfl (hb hby at_55) ?_
      show Steps p.tables e below (T7.setTop (mkF m 56 #[.val (.int p1), .val (.long q2), .second, .val (.long q3), .second, .val (.long q4), .second, .val (.long q5), .second, .val (.ref b1), .val (.int (2 : Int32)), .val (.long q3), .second, .unset, .unset, .unset, .unset, .unset, .unset, .unset, .unset, .unset, .unset] [(.int (1 : Int32)), (.ref b1)])) _
      refine st8.trans ?_
      show Steps p.tables e below (T8.setTop (mkF m 59 #[.val (.int p1), .val (.long q2), .second, .val (.long q3), .second, .val (.long q4), .second, .val (.long q5), .second, .val (.ref b1), .val (.int (2 : Int32)), .val (.long q3), .second, .unset, .unset, .unset, .unset, .unset, .unset, .unset, .unset, .unset, .unset] [(.long q4)])) _
      refine XS.lstore X8.here hx rfl (hb hby at_59) rfl (l' := #[.val (.int p1), .val (.long q2), .second, .val (.long q3), .second, .val (.long q4), .second, .val (.long q5), .second, .val (.ref b1), .val (.int (2 : Int32)), .val (.long q3), .second, .val (.long q4), .second, .unset, .unset, .unset, .unset, .unset, .unset, .unset, .unset]) rfl ?_
      show Steps p.tables e below (T8.setTop (mkF m 61 #[.val (.int p1), .val (.long q2), .second, .val (.long q3), .second, .val (.long q4), .second, .val (.long q5), .second, .val (.ref b1), .val (.int (2 : Int32)), .val (.long q3), .second, .val (.long q4), .second, .unset, .unset, .unset, .unset, .unset, .unset, .unset, .unset] [])) _
      refine XS.aload X8.here hx rfl (hb hby at_61) rfl rfl ?_
      show Steps p.tables e below (T8.setTop (mkF m 63 #[.val (.int p1), .val (.long q2), .second, .val (.long q3), .second, .val (.long q4), .second, .val (.long q5), .second, .val (.ref b1), .val (.int (2 : Int32)), .val (.long q3), .second, .val (.long q4), .second, .unset, .unset, .unset, .unset, .unset, .unset, .unset, .unset] [(.ref b1)])) _
      refine XS.iconst X8.here hx rfl (hb hby at_63) ?_
      show Steps p.tables e below (T8.setTop (mkF m 64 #[.val (.int p1), .val (.long q2), .second, .val (.long q3), .second, .val (.long q4), .second, .val (.long q5), .second, .val (.ref b1), .val (.int (2 : Int32)), .val (.long q3), .second, .val (.long q4), .second, .unset, .unset, .unset, .unset, .unset, .unset, .unset, .unset] [(.int (2 : Int32)), (.ref b1)])) _
      refine st9.trans ?_
      show Steps p.tables e below (T9.setTop (mkF m 67 #[.val (.int p1), .val (.long q2), .second, .val (.long q3), .second, .val (.long q4), .second, .val (.long q5), .second, .val (.ref b1), .val (.int (2 : Int32)), .val (.long q3), .second, .val (.long q4), .second, .unset, .unset, .unset, .unset, .unset, .unset, .unset, .unset] [(.long q2)])) _
      refine XS.lstore X9.here hx rfl (hb hby at_67) rfl (l' := #[.val (.int p1), .val (.long q2), .second, .val (.long q3), .second, .val (.long q4), .second, .val (.long q5), .second, .val (.ref b1), .val (.int (2 : Int32)), .val (.long q3), .second, .val (.long q4), .second, .val (.long q2), .second, .unset, .unset, .unset, .unset, .unset, .unset]) rfl ?_
      show Steps p.tables e below (T9.setTop (mkF m 69 #[.val (.int p1), .val (.long q2), .second, .val (.long q3), .second, .val (.long q4), .second, .val (.long q5), .second, .val (.ref b1), .val (.int (2 : Int32)), .val (.long q3), .second, .val (.long q4), .second, .val (.long q2), .second, .unset, .unset, .unset, .unset, .unset, .unset] [])) _
      refine XS.iload X9.here hx rfl (hb hby at_69) rfl ?_
      show Steps p.tables e below (T9.setTop (mkF m 71 #[.val (.int p1), .val (.long q2), .second, .val (.long q3), .second, .val (.long q4), .second, .val (.long q5), .second, .val (.ref b1), .val (.int (2 : Int32)), .val (.long q3), .second, .val (.long q4), .second, .val (.long q2), .second, .unset, .unset, .unset, .unset, .unset, .unset] [(.int (2 : Int32))])) _
      refine XS.ifYes X9.here hx rfl (pc0 := 71) (pc' := 78) rfl (hb hby at_71) rfl ((if0 _ _).trans (feq (by decide +kernel)).2) (by decide) (by decide) ?_
      show Steps p.tables e below (T9.setTop (mkF m 78 #[.val (.int p1), .val (.long q2), .second, .val (.long q3), .second, .val (.long q4), .second, .val (.long q5), .second, .val (.ref b1), .val (.int (2 : Int32)), .val (.long q3), .second, .val (.long q4), .second, .val (.long q2), .second, .unset, .unset, .unset, .unset, .unset, .unset] [])) _
      refine XS.lloadN X9.here hx rfl (hb hby at_78) rfl ?_
      show Steps p.tables e below (T9.setTop (mkF m 79 #[.val (.int p1), .val (.long q2), .second, .val (.long q3), .second, .val (.long q4), .second, .val (.long q5), .second, .val (.ref b1), .val (.int (2 : Int32)), .val (.long q3), .second, .val (.long q4), .second, .val (.long q2), .second, .unset, .unset, .unset, .unset, .unset, .unset] [(.long q3)])) _
      refine XS.lstore X9.here hx rfl (hb hby at_79) rfl (l' := #[.val (.int p1), .val (.long q2), .second, .val (.long q3), .second, .val (.long q4), .second, .val (.long q5), .second, .val (.ref b1), .val (.int (2 : Int32)), .val (.long q3), .second, .val (.long q4), .second, .val (.long q2), .second, .val (.long q3), .second, .unset, .unset, .unset, .unset]) rfl ?_
      show Steps p.tables e below (T9.setTop (mkF m 81 #[.val (.int p1), .val (.long q2), .second, .val (.long q3), .second, .val (.long q4), .second, .val (.long q5), .second, .val (.ref b1), .val (.int (2 : Int32)), .val (.long q3), .second, .val (.long q4), .second, .val (.long q2), .second, .val (.long q3), .second, .unset, .unset, .unset, .unset] [])) _
      refine XS.iload X9.here hx rfl (hb hby at_81) rfl ?_
      show Steps p.tables e below (T9.setTop (mkF m 83 #[.val (.int p1), .val (.long q2), .second, .val (.long q3), .second, .val (.long q4), .second, .val (.long q5), .second, .val (.ref b1), .val (.int (2 : Int32)), .val (.long q3), .second, .val (.long q4), .second, .val (.long q2), .second, .val (.long q3), .second, .unset, .unset, .unset, .unset] [(.int (2 : Int32))])) _
      refine XS.iconst X9.here hx rfl (hb hby at_83) ?_
      show Steps p.tables e below (T9.setTop (mkF m 84 #[.val (.int p1), .val (.long q2), .second, .val (.long q3), .second, .val (.long q4), .second, .val (.long q5), .second, .val (.ref b1), .val (.int (2 : Int32)), .val (.long q3), .second, .val (.long q4), .second, .val (.long q2), .second, .val (.long q3), .second, .unset, .unset, .unset, .unset] [(.int (1 : Int32)), (.int (2 : Int32))])) _
      refine XS.icmpYes X9.here hx rfl (pc0 := 84) (pc' := 91) rfl (hb hby at_84) rfl (feq (by decide +kernel)).2 (by decide) (by decide) ?_
      show Steps p.tables e below (T9.setTop (mkF m 91 #[.val (.int p1), .val (.long q2), .second, .val (.long q3), .second, .val (.long q4), .second, .val (.long q5), .second, .val (.ref b1), .val (.int (2 : Int32)), .val (.long q3), .second, .val (.long q4), .second, .val (.long q2), .second, .val (.long q3), .second, .unset, .unset, .unset, .unset] [])) _
      refine XS.lload X9.here hx rfl (hb hby at_91) rfl ?_
      show Steps p.tables e below (T9.setTop (mkF m 93 #[.val (.int p1), .val (.long q2), .second, .val (.long q3), .second, .val (.long q4), .second, .val (.long q5), .second, .val (.ref b1), .val (.int (2 : Int32)), .val (.long q3), .second, .val (.long q4), .second, .val (.long q2), .second, .val (.long q3), .second, .unset, .unset, .unset, .unset] [(.long q4)])) _
      refine XS.lstore X9.here hx rfl (hb hby at_93) rfl (l' := #[.val (.int p1), .val (.long q2), .second, .val (.long q3), .second, .val (.long q4), .second, .val (.long q5), .second, .val (.ref b1), .val (.int (2 : Int32)), .val (.long q3), .second, .val (.long q4), .second, .val (.long q2), .second, .val (.long q3), .second, .val (.long q4), .second, .unset, .unset]) rfl ?_
      show Steps p.tables e below (T9.setTop (mkF m 95 #[.val (.int p1), .val (.long q2), .second, .val (.long q3), .second, .val (.long q4), .second, .val (.long q5), .second, .val (.ref b1), .val (.int (2 : Int32)), .val (.long q3), .second, .val (.long q4), .second, .val (.long q2), .second, .val (.long q3), .second, .val (.long q4), .second, .unset, .unset] [])) _
      refine XS.iload X9.here hx rfl (hb hby at_95) rfl ?_
      show Steps p.tables e below (T9.setTop (mkF m 97 #[.val (.int p1), .val (.long q2), .second, .val (.long q3), .second, .val (.long q4), .second, .val (.long q5), .second, .val (.ref b1), .val (.int (2 : Int32)), .val (.long q3), .second, .val (.long q4), .second, .val (.long q2), .second, .val (.long q3), .second, .val (.long q4), .second, .unset, .unset] [(.int (2 : Int32))])) _
      refine XS.iconst X9.here hx rfl (hb hby at_97) ?_
      show Steps p.tables e below (T9.setTop (mkF m 98 #[.val (.int p1), .val (.long q2), .second, .val (.long q3), .second, .val (.long q4), .second, .val (.long q5), .second, .val (.ref b1), .val (.int (2 : Int32)), .val (.long q3), .second, .val (.long q4), .second, .val (.long q2), .second, .val (.long q3), .second, .val (.long q4), .second, .unset, .unset] [(.int (2 : Int32)), (.int (2 : Int32))])) _
      refine XS.icmpNo X9.here hx rfl (hb hby at_98) rfl (teq (by decide +kernel)).2 ?_
      show Steps p.tables e below (T9.setTop (mkF m 101 #[.val (.int p1), .val (.long q2), .second, .val (.long q3), .second, .val (.long q4), .second, .val (.long q5), .second, .val (.ref b1), .val (.int (2 : Int32)), .val (.long q3), .second, .val (.long q4), .second, .val (.long q2), .second, .val (.long q3), .second, .val (.long q4), .second, .unset, .unset] [])) _
      refine XS.lloadN X9.here hx rfl (hb hby at_101) rfl ?_
      show Steps p.tables e below (T9.setTop (mkF m 102 #[.val (.int p1), .val (.long q2), .second, .val (.long q3), .second, .val (.long q4), .second, .val (.long q5), .second, .val (.ref b1), .val (.int (2 : Int32)), .val (.long q3), .second, .val (.long q4), .second, .val (.long q2), .second, .val (.long q3), .second, .val (.long q4), .second, .unset, .unset] [(.long q2)])) _
      refine XS.goto X9.here hx rfl (pc0 := 102) (pc' := 107) rfl (hb hby at_102) (by decide) (by decide) ?_
      show Steps p.tables e below (T9.setTop (mkF m 107 #[.val (.int p1), .val (.long q2), .second, .val (.long q3), .second, .val (.long q4), .second, .val (.long q5), .second, .val (.ref b1), .val (.int (2 : Int32)), .val (.long q3), .second, .val (.long q4), .second, .val (.long q2), .second, .val (.long q3), .second, .val (.long q4), .second, .unset, .unset] [(.long q2)])) _
      refine XS.lstore X9.here hx rfl (hb hby at_107) rfl (l' := #[.val (.int p1), .val (.long q2), .second, .val (.long q3), .second, .val (.long q4), .second, .val (.long q5), .second, .val (.ref b1), .val (.int (2 : Int32)), .val (.long q3), .second, .val (.long q4), .second, .val (.long q2), .second, .val (.long q3), .second, .val (.long q4), .second, .val (.long q2), .second]) rfl ?_
      show Steps p.tables e below (T9.setTop (mkF m 109 #[.val (.int p1), .val (.long q2), .second, .val (.long q3), .second, .val (.long q4), .second, .val (.long q5), .second, .val (.ref b1), .val (.int (2 : Int32)), .val (.long q3), .second, .val (.long q4), .second, .val (.long q2), .second, .val (.long q3), .second, .val (.long q4), .second, .val (.long q2), .second] [])) _
      refine XS.lload X9.here hx rfl (hb hby at_109) rfl ?_
      show Steps p.tables e below (T9.setTop (mkF m 111 #[.val (.int p1), .val (.long q2), .second, .val (.long q3), .second, .val (.long q4), .second, .val (.long q5), .second, .val (.ref b1), .val (.int (2 : Int32)), .val (.long q3), .second, .val (.long q4), .second, .val (.long q2), .second, .val (.long q3), .second, .val (.long q4), .second, .val (.long q2), .second] [(.long q3)])) _
      refine XS.lload X9.here hx rfl (hb hby at_111) rfl ?_
      show Steps p.tables e below (T9.setTop (mkF m 113 #[.val (.int p1), .val (.long q2), .second, .val (.long q3), .second, .val (.long q4), .second, .val (.long q5), .second, .val (.ref b1), .val (.int (2 : Int32)), .val (.long q3), .second, .val (.long q4), .second, .val (.long q2), .second, .val (.long q3), .second, .val (.long q4), .second, .val (.long q2), .second] [(.long q3), (.long q3)])) _
      refine XS.lcmp X9.here hx rfl (hb hby at_113) rfl ?_
      show Steps p.tables e below (T9.setTop (mkF m 114 #[.val (.int p1), .val (.long q2), .second, .val (.long q3), .second, .val (.long q4), .second, .val (.long q5), .second, .val (.ref b1), .val (.int (2 : Int32)), .val (.long q3), .second, .val (.long q4), .second, .val (.long q2), .second, .val (.long q3), .second, .val (.long q4), .second, .val (.long q2), .second] [(.int (lcmpW q3 q3))])) _
      refine XS.ifNo X9.here hx rfl (hb hby at_114) rfl ((if0 _ _).trans (teq ((lw_eq _ _).mpr rfl)).2) ?_
      show Steps p.tables e below (T9.setTop (mkF m 117 #[.val (.int p1), .val (.long q2), .second, .val (.long q3), .second, .val (.long q4), .second, .val (.long q5), .second, .val (.ref b1), .val (.int (2 : Int32)), .val (.long q3), .second, .val (.long q4), .second, .val (.long q2), .second, .val (.long q3), .second, .val (.long q4), .second, .val (.long q2), .second] [])) _
      refine XS.lload X9.here hx rfl (hb hby at_117) rfl ?_
      show Steps p.tables e below (T9.setTop (mkF m 119 #[.val (.int p1), .val (.long q2), .second, .val (.long q3), .second, .val (.long q4), .second, .val (.long q5), .second, .val (.ref b1), .val (.int (2 : Int32)), .val (.long q3), .second, .val (.long q4), .second, .val (.long q2), .second, .val (.long q3), .second, .val (.long q4), .second, .val (.long q2), .second] [(.long q4)])) _
      refine XS.lload X9.here hx rfl (hb hby at_119) rfl ?_
      show Steps p.tables e below (T9.setTop (mkF m 121 #[.val (.int p1), .val (.long q2), .second, .val (.long q3), .second, .val (.long q4), .second, .val (.long q5), .second, .val (.ref b1), .val (.int (2 : Int32)), .val (.long q3), .second, .val (.long q4), .second, .val (.long q2), .second, .val (.long q3), .second, .val (.long q4), .second, .val (.long q2), .second] [(.long q4), (.long q4)])) _
      refine XS.lcmp X9.here hx rfl (hb hby at_121) rfl ?_
      show Steps p.tables e below (T9.setTop (mkF m 122 #[.val (.int p1), .val (.long q2), .second, .val (.long q3), .second, .val (.long q4), .second, .val (.long q5), .second, .val (.ref b1), .val (.int (2 : Int32)), .val (.long q3), .second, .val (.long q4), .second, .val (.long q2), .second, .val (.long q3), .second, .val (.long q4), .second, .val (.long q2), .second] [(.int (lcmpW q4 q4))])) _
      refine XS.ifNo X9.here hx rfl (hb hby at_122) rfl ((if0 _ _).trans (teq ((lw_eq _ _).mpr rfl)).2) ?_
      show Steps p.tables e below (T9.setTop (mkF m 125 #[.val (.int p1), .val (.long q2), .second, .val (.long q3), .second, .val (.long q4), .second, .val (.long q5), .second, .val (.ref b1), .val (.int (2 : Int32)), .val (.long q3), .second, .val (.long q4), .second, .val (.long q2), .second, .val (.long q3), .second, .val (.long q4), .second, .val (.long q2), .second] [])) _
      refine XS.lload X9.here hx rfl (hb hby at_125) rfl ?_
      show Steps p.tables e below (T9.setTop (mkF m 127 #[.val (.int p1), .val (.long q2), .second, .val (.long q3), .second, .val (.long q4), .second, .val (.long q5), .second, .val (.ref b1), .val (.int (2 : Int32)), .val (.long q3), .second, .val (.long q4), .second, .val (.long q2), .second, .val (.long q3), .second, .val (.long q4), .second, .val (.long q2), .second] [(.long q2)])) _
      refine XS.lload X9.here hx rfl (hb hby at_127) rfl ?_
      show Steps p.tables e below (T9.setTop (mkF m 129 #[.val (.int p1), .val (.long q2), .second, .val (.long q3), .second, .val (.long q4), .second, .val (.long q5), .second, .val (.ref b1), .val (.int (2 : Int32)), .val (.long q3), .second, .val (.long q4), .second, .val (.long q2), .second, .val (.long q3), .second, .val (.long q4), .second, .val (.long q2), .second] [(.long q2), (.long q2)])) _
      refine XS.lcmp X9.here hx rfl (hb hby at_129) rfl ?_
      show Steps p.tables e below (T9.setTop (mkF m 130 #[.val (.int p1), .val (.long q2), .second, .val (.long q3), .second, .val (.long q4), .second, .val (.long q5), .second, .val (.ref b1), .val (.int (2 : Int32)), .val (.long q3), .second, .val (.long q4), .second, .val (.long q2), .second, .val (.long q3), .second, .val (.long q4), .second, .val (.long q2), .second] [(.int (lcmpW q2 q2))])) _
      refine XS.ifNo X9.here hx rfl (hb hby at_130) rfl ((if0 _ _).trans (teq ((lw_eq _ _).mpr rfl)).2) ?_
      show Steps p.tables e below (T9.setTop (mkF m 133 #[.val (.int p1), .val (.long q2), .second, .val (.long q3), .second, .val (.long q4), .second, .val (.long q5), .second, .val (.ref b1), .val (.int (2 : Int32)), .val (.long q3), .second, .val (.long q4), .second, .val (.long q2), .second, .val (.long q3), .second, .val (.long q4), .second, .val (.long q2), .second] [])) _
      refine XS.aload X9.here hx rfl (hb hby at_133) rfl rfl ?_
      show Steps p.tables e below (T9.setTop (mkF m 135 #[.val (.int p1), .val (.long q2), .second, .val (.long q3), .second, .val (.long q4), .second, .val (.long q5), .second, .val (.ref b1), .val (.int (2 : Int32)), .val (.long q3), .second, .val (.long q4), .second, .val (.long q2), .second, .val (.long q3), .second, .val (.long q4), .second, .val (.long q2), .second] [(.ref b1)])) _
      refine st10.trans ?_
      show Steps p.tables e below (T10.setTop (mkF m 138 #[.val (.int p1), .val (.long q2), .second, .val (.long q3), .second, .val (.long q4), .second, .val (.long q5), .second, .val (.ref b1), .val (.int (2 : Int32)), .val (.long q3), .second, .val (.long q4), .second, .val (.long q2), .second, .val (.long q3), .second, .val (.long q4), .second, .val (.long q2), .second] [(.int (3 : Int32))])) _
      refine XS.iconst X10.here hx rfl (hb hby at_138) ?_
      show Steps p.tables e below (T10.setTop (mkF m 139 #[.val (.int p1), .val (.long q2), .second, .val (.long q3), .second, .val (.long q4), .second, .val (.long q5), .second, .val (.ref b1), .val (.int (2 : Int32)), .val (.long q3), .second, .val (.long q4), .second, .val (.long q2), .second, .val (.long q3), .second, .val (.long q4), .second, .val (.long q2), .second] [(.int (3 : Int32)), (.int (3 : Int32))])) _
      refine XS.icmpNo X10.here hx rfl (hb hby at_139) rfl (teq (by decide +kernel)).2 ?_
      show Steps p.tables e below (T10.setTop (mkF m 142 #[.val (.int p1), .val (.long q2), .second, .val (.long q3), .second, .val (.long q4), .second, .val (.long q5), .second, .val (.ref b1), .val (.int (2 : Int32)), .val (.long q3), .second, .val (.long q4), .second, .val (.long q2), .second, .val (.long q3), .second, .val (.long q4), .second, .val (.long q2), .second] [])) _
      refine XS.iconst X10.here hx rfl (hb hby at_142) ?_
      show Steps p.tables e below (T10.setTop (mkF m 143 #[.val (.int p1), .val (.long q2), .second, .val (.long q3), .second, .val (.long q4), .second, .val (.long q5), .second, .val (.ref b1), .val (.int (2 : Int32)), .val (.long q3), .second, .val (.long q4), .second, .val (.long q2), .second, .val (.long q3), .second, .val (.long q4), .second, .val (.long q2), .second] [(.int (1 : Int32))])) _
      refine XS.goto X10.here hx rfl (pc0 := 143) (pc' := 147) rfl (hb hby at_143) (by decide) (by decide) ?_
      show Steps p.tables e below (T10.setTop (mkF m 147 #[.val (.int p1), .val (.long q2), .second, .val (.long q3), .second, .val (.long q4), .second, .val (.long q5), .second, .val (.ref b1), .val (.int (2 : Int32)), .val (.long q3), .second, .val (.long q4), .second, .val (.long q2), .second, .val (.long q3), .second, .val (.long q4), .second, .val (.long q2), .second] [(.int (1 : Int32))])) _
      exact retN X10 hx (t := .boolean) Bd.returns (by simp) (hb hby at_147) hr
    · show Q0 Z p1 q2 q3 q4 q5 h0 n0 _ T10.heap _
      rw [eq10]
      exact ⟨rfl, N10⟩
set_option maxRecDepth 65536 in
set_option maxHeartbeats 40000000 in
theorem comes_1 {Post : Tables → Env → Array Value → State → Outcome → State → Prop} (hpost : ∀ tb e args s v u, (limb_1_1.after args s (.returned v) u = true ∧ limb_1_2.after args s (.returned v) u = true ∧ True) → FrameEnd s (.returned v) u (Jvm.fieldLocs frame_1_writes args s ++ Jvm.arrayLocs frame_1_arrays args s ++ Jvm.staticLocs frame_1_statics s) 16 65664 → Post tb e args s (.returned v) u) :
    ArmFor flags0 classFile x code maxLocals ret World_1 tables_1 room_1 Calls_1 rest_1 Pre_1 Post := by
  intro l hfl _ _ p e ha hc hk s m args below hf hA hF happ hP
  obtain ⟨hcalls, hrest, hpre⟩ := hP
  obtain ⟨-, -, -, hnamed, -, -, -, hat⟩ := (Spec.applies_iff hf).mp happ
  obtain ⟨hg, hn⟩ := and_e (Cond.before_iff.mp (show (Jvm.Cond.and given_1 narrow_1).before args s = true from hpre))
  obtain ⟨g0, g_r⟩ := and_e hg
  obtain ⟨g1, g_rr⟩ := and_e g_r
  obtain ⟨g2, g_rrr⟩ := and_e g_rr
  obtain ⟨g3, g_rrrr⟩ := and_e g_rrr
  obtain ⟨g4, g5⟩ := and_e g_rrrr
  obtain ⟨w0, w1, w2, w3, w4, rfl⟩ : ∃ w0 w1 w2 w3 w4 : Value, args = #[w0, w1, w2, w3, w4] := by
    have hs : args.size = 5 := by simpa [Cond.value, given_1] using g0
    obtain ⟨L⟩ := args
    match L, hs with
    | [w0, w1, w2, w3, w4], _ => exact ⟨w0, w1, w2, w3, w4, rfl⟩
  have hw := fun d (hd : d ∈ tables_1) => atoms_spec (ws := Jvm.Cond.code x code maxLocals ret :: tables_1) hat d (List.mem_cons_of_mem _ hd)
  have hfit : Fit s := fun {y c} hc i hi => by
    obtain ⟨ha, rfl⟩ := Array.getElem?_eq_some_iff.mp hc
    have q := List.all_eq_true.mp ((Array.all_eq_true_iff_forall_mem.mp hF) _ (Array.getElem_mem ha)) i (List.mem_range.mpr hi)
    simpa [Array.getElem?_eq_getElem hi] using q
  obtain ⟨i0, ei0⟩ := is_v g1
  obtain rfl : w0 = (.int i0) := Option.some.inj ei0
  obtain ⟨i1, ei1⟩ := isL_v g2
  obtain rfl : w1 = (.long i1) := Option.some.inj ei1
  obtain ⟨i2, ei2⟩ := isL_v g3
  obtain rfl : w2 = (.long i2) := Option.some.inj ei2
  obtain ⟨i3, ei3⟩ := isL_v g4
  obtain rfl : w3 = (.long i3) := Option.some.inj ei3
  obtain ⟨i4, ei4⟩ := isL_v g5
  obtain rfl : w4 = (.long i4) := Option.some.inj ei4
  obtain ⟨n, o, h1, h2, h3, _, L, rfl, ⟨rfl, N⟩, hq⟩ := rm0 l s _ hw tables_1 i0 i1 i2 i3 i4  s.heap s.heap.size (Nat.le_refl _)  p e ha hc hk s m _ below hf ((Spec.applies_iff_loose hf).mp happ).1 ⟨rfl, State.Warmed39.refl s, rfl⟩ trivial
  refine ⟨n, _, h1, h2, h3, hpost _ _ _ _ _ _ ⟨Cond.after_iff.mpr rfl, Cond.after_iff.mpr (eq_i res_at (Term.int_eval (1)) rfl), trivial⟩ ⟨hq.1, hq.2.1, (hq.2.2.sift fun y hy => Or.inr (N y hy)).mono (by decide +kernel) (by decide +kernel)⟩⟩
theorem main_1_1 : Claimed_1_1 := comes_1 fun _ _ _ _ _ _ h hF => ⟨h.1, hF⟩
theorem main_1_2 : Claimed_1_2 := comes_1 fun _ _ _ _ _ _ h hF => ⟨h.2.1, hF⟩
end Jvm.Pilot.@@N@@
namespace Jvm.Pilot.@@N@@
open Jvm Jvm.ClassFile Sem Op Lib Jvm.Free Jvm.Stand Jvm.Pilot.@@N@@.Jvm.D
/-! MADE BY PROGRAM (witnessworld.py) out of the Statement's table words and the real class files: 11 classes; the members and pool entries that the words name. The judged class is class 1, her method 1. -/
namespace start1
open Jvm.ClassFile
def u (s : String) : CpInfo := .utf8 (stringToUtf16 s)
/-- a pool by its gaps: so many unusable entries, then the entry; so many at the end -/
def gap : Nat → List CpInfo → List CpInfo
  | 0, r => r
  | n + 1, r => .unusable :: gap n r
def poolList (es : List (Nat × CpInfo)) (last : Nat) : List CpInfo := es.foldr (fun e r => gap e.1 (e.2 :: r)) (gap last [])
def pool (es : List (Nat × CpInfo)) (last : Nat) : Array CpInfo := ⟨poolList es last⟩
def fileOf (pool : Array CpInfo) (this : Nat) (attrs : Array Attribute := #[]) (ms : Array MethodInfo := #[]) (fl : Nat := 33) (sup : Nat := 0) (ifs : Array Nat := #[]) (fds : Array FieldInfo := #[]) : ClassFile where
  minorVersion := 0
  majorVersion := 65
  constantPool := pool
  accessFlags := fl
  thisClass := this
  superClass := sup
  interfaces := ifs
  fields := fds
  methods := ms
  attributes := attrs
def plain (name : String) (sup : Option ClassId) : Class where
  name := name
  kind := .ordinary
  loader := none
  accessFlags := 33
  super := sup
  interfaces := #[]
  cf := none
  fields := #[]
  methods := #[]
  instanceTypes := #[]
  staticTypes := #[]
  resolved := #[]
  callSites := []
  init := .initialized
  statics := none
  mirror := none

def pool0 : Array CpInfo := pool [(5, u "<init>"), (0, u "()V"), (1, .class_ 10), (1, u "java/lang/Object")] 113

def k0c0 : Code := { maxStack := 0, maxLocals := 1, code := object_method_1_code, exceptionTable := #[], attributes := #[] }
def k0m0 : Method := { name := "<init>", desc := "()V", sig := { parameters := [], returnType := none }, accessFlags := 1, code := some k0c0 }
/-- java/lang/Object -/
def k0 : Class := { plain "java/lang/Object" none with
  accessFlags := 33
  interfaces := #[]
  cf := some (fileOf pool0 8 #[] #[{ accessFlags := 1, nameIndex := 5, descriptorIndex := 6, attributes := #[] }] 33 0 #[] #[])
  fields := #[]
  methods := #[k0m0]
  instanceTypes := #[]
  staticTypes := #[]
  resolved := Array.replicate 124 none
  statics := none }

def pool1 : Array CpInfo := pool [(2, .class_ 4), (0, .nameAndType 5 6), (0, u "java/lang/Object"), (0, u "<init>"), (0, u "()V"), (0, .class_ 8), (0, u "com/example/frigg/frigg/ChunkedLongs"), (0, .methodref 7 3), (0, .methodref 7 11), (0, .nameAndType 12 13), (0, u "add"), (0, u "(J)V"), (0, .integer 2147483647), (0, .methodref 7 16), (0, .nameAndType 17 18), (0, u "set"), (0, u "(IJ)V"), (0, .methodref 7 20), (0, .nameAndType 21 22), (0, u "get"), (0, u "(I)J"), (0, .methodref 7 24), (0, .nameAndType 25 26), (0, u "size"), (0, u "()I"), (0, .class_ 28), (0, u "com/example/frigg/frigg/ChunkedLongsSetPinLaw"), (2, u "law"), (0, u "(IJJJJ)Z")] 3

def k1m0 : Method := { name := "<init>", desc := "()V", sig := { parameters := [], returnType := none }, accessFlags := 1, code := none }
def k1c1 : Code := { maxStack := 4, maxLocals := 23, code := code, exceptionTable := #[], attributes := #[] }
def k1m1 : Method := { name := "law", desc := "(IJJJJ)Z", sig := { parameters := [.int, .long, .long, .long, .long], returnType := some .boolean }, accessFlags := 9, code := some k1c1 }
/-- com/example/frigg/frigg/ChunkedLongsSetPinLaw -/
def k1 : Class := { plain "com/example/frigg/frigg/ChunkedLongsSetPinLaw" (some 0) with
  accessFlags := 49
  interfaces := #[]
  cf := some (fileOf pool1 27 #[] #[{ accessFlags := 1, nameIndex := 5, descriptorIndex := 6, attributes := #[] }, { accessFlags := 9, nameIndex := 31, descriptorIndex := 32, attributes := #[] }] 49 2 #[] #[])
  fields := #[]
  methods := #[k1m0, k1m1]
  instanceTypes := #[]
  staticTypes := #[]
  resolved := Array.replicate 36 none
  statics := none }

def pool2 : Array CpInfo := pool [(1, .class_ 2), (0, u "com/example/frigg/frigg/ChunkedLongs"), (0, .methodref 4 5), (0, .class_ 6), (0, .nameAndType 7 8), (0, u "java/lang/Object"), (0, u "<init>"), (0, u "()V"), (0, .class_ 10), (0, u "[J"), (0, .fieldref 1 12), (0, .nameAndType 13 14), (0, u "chunks"), (0, u "[[J"), (0, .fieldref 1 16), (0, .nameAndType 17 18), (0, u "size"), (0, u "I"), (7, .integer 32768), (0, u "SHIFT"), (2, u "LENGTH"), (0, u "MASK"), (3, u "()I"), (0, u "get"), (0, u "(I)J"), (0, u "set"), (0, u "(IJ)V"), (0, u "add"), (0, u "(J)V")] 3

def k2c0 : Code := { maxStack := 2, maxLocals := 1, code := prog_8_method_1_code, exceptionTable := #[], attributes := #[] }
def k2m0 : Method := { name := "<init>", desc := "()V", sig := { parameters := [], returnType := none }, accessFlags := 0, code := some k2c0 }
def k2c1 : Code := { maxStack := 1, maxLocals := 1, code := prog_8_method_2_code, exceptionTable := #[], attributes := #[] }
def k2m1 : Method := { name := "size", desc := "()I", sig := { parameters := [], returnType := some .int }, accessFlags := 0, code := some k2c1 }
def k2c2 : Code := { maxStack := 3, maxLocals := 2, code := prog_8_method_3_code, exceptionTable := #[], attributes := #[] }
def k2m2 : Method := { name := "get", desc := "(I)J", sig := { parameters := [.int], returnType := some .long }, accessFlags := 0, code := some k2c2 }
def k2c3 : Code := { maxStack := 4, maxLocals := 4, code := prog_8_method_4_code, exceptionTable := #[], attributes := #[] }
def k2m3 : Method := { name := "set", desc := "(IJ)V", sig := { parameters := [.int, .long], returnType := none }, accessFlags := 0, code := some k2c3 }
def k2c4 : Code := { maxStack := 4, maxLocals := 4, code := prog_8_method_5_code, exceptionTable := #[], attributes := #[] }
def k2m4 : Method := { name := "add", desc := "(J)V", sig := { parameters := [.long], returnType := none }, accessFlags := 0, code := some k2c4 }
/-- com/example/frigg/frigg/ChunkedLongs -/
def k2 : Class := { plain "com/example/frigg/frigg/ChunkedLongs" (some 0) with
  accessFlags := 48
  interfaces := #[]
  cf := some (fileOf pool2 1 #[] #[{ accessFlags := 0, nameIndex := 7, descriptorIndex := 8, attributes := #[] }, { accessFlags := 0, nameIndex := 17, descriptorIndex := 35, attributes := #[] }, { accessFlags := 0, nameIndex := 36, descriptorIndex := 37, attributes := #[] }, { accessFlags := 0, nameIndex := 38, descriptorIndex := 39, attributes := #[] }, { accessFlags := 0, nameIndex := 40, descriptorIndex := 41, attributes := #[] }] 48 4 #[] #[{ accessFlags := 26, nameIndex := 27, descriptorIndex := 18, attributes := #[] }, { accessFlags := 26, nameIndex := 30, descriptorIndex := 18, attributes := #[] }, { accessFlags := 26, nameIndex := 31, descriptorIndex := 18, attributes := #[] }, { accessFlags := 2, nameIndex := 13, descriptorIndex := 14, attributes := #[] }, { accessFlags := 2, nameIndex := 17, descriptorIndex := 18, attributes := #[] }])
  fields := #[{ name := "SHIFT", type := .int, accessFlags := 26, slot := 0, constantValue := 0 }, { name := "LENGTH", type := .int, accessFlags := 26, slot := 1, constantValue := 0 }, { name := "MASK", type := .int, accessFlags := 26, slot := 2, constantValue := 0 }, { name := "chunks", type := (.array (.array .long)), accessFlags := 2, slot := 0, constantValue := 0 }, { name := "size", type := .int, accessFlags := 2, slot := 1, constantValue := 0 }]
  methods := #[k2m0, k2m1, k2m2, k2m3, k2m4]
  instanceTypes := #[(.array (.array .long)), .int]
  staticTypes := #[.int, .int, .int]
  resolved := Array.replicate 45 none
  statics := none }

def pool3 : Array CpInfo := pool [(1, u "java/lang/Cloneable"), (0, .class_ 1), (0, u "java/lang/Object"), (0, .class_ 3)] 3

/-- java/lang/Cloneable -/
def k3 : Class := { plain "java/lang/Cloneable" (some 0) with
  accessFlags := 1537
  interfaces := #[]
  cf := some (fileOf pool3 2 #[] #[] 1537 4 #[] #[])
  fields := #[]
  methods := #[]
  instanceTypes := #[]
  staticTypes := #[]
  resolved := Array.replicate 8 none
  statics := none }

def pool4 : Array CpInfo := pool [(1, u "java/io/Serializable"), (0, .class_ 1), (0, u "java/lang/Object"), (0, .class_ 3)] 3

/-- java/io/Serializable -/
def k4 : Class := { plain "java/io/Serializable" (some 0) with
  accessFlags := 1537
  interfaces := #[]
  cf := some (fileOf pool4 2 #[] #[] 1537 4 #[] #[])
  fields := #[]
  methods := #[]
  instanceTypes := #[]
  staticTypes := #[]
  resolved := Array.replicate 8 none
  statics := none }

/-- the primitive byte -/
def k5 : Class := { plain "byte" none with kind := .primitive 'B', accessFlags := 0x411 }
/-- [B -/
def k6 : Class := { plain "[B" (some 0) with kind := .array 5 .byte, interfaces := #[3, 4], accessFlags := 1041 }

/-- the primitive int -/
def k7 : Class := { plain "int" none with kind := .primitive 'I', accessFlags := 0x411 }
/-- [I -/
def k8 : Class := { plain "[I" (some 0) with kind := .array 7 .int, interfaces := #[3, 4], accessFlags := 1041 }

/-- the primitive long -/
def k9 : Class := { plain "long" none with kind := .primitive 'J', accessFlags := 0x411 }
/-- [J -/
def k10 : Class := { plain "[J" (some 0) with kind := .array 9 .long, interfaces := #[3, 4], accessFlags := 1041 }
/-- [[J -/
def k11 : Class := { plain "[[J" (some 0) with kind := .array 10 (.array .long), interfaces := #[3, 4], accessFlags := 1041 }

def heap : Heap := #[]
def classes : Array Class := #[k0, k1, k2, k3, k4, k5, k6, k7, k8, k9, k10, k11]
def interned : List (Array UInt16 × Addr) := []
def slotsUsed : Nat := 0
def theMethod : MethodId := ⟨1, 1⟩
def args0 : Array Value := #[.int 5, .long 7, .long 8, .long 9, .long 10]
def aboutOver (below : List Frame) : State where
  vm := { classes := classes, interned := interned.toArray }
  heap := heap
  slotsUsed := slotsUsed
  threads := #[{ frames := .invoking theMethod args0 :: below }]
def below0 : List Frame := [.native { method := ⟨0, 0⟩, args := #[] }]
def about1 : State := aboutOver below0
def p0 : Program := .bare "" "" ""
def e0 : Env := launch0.env 0 0 0
theorem w_frames : about1.frames = Frame.invoking theMethod args0 :: below0 := rfl
set_option maxRecDepth 65536 in
theorem w_args : argsFit about1.vm theMethod args0 = true := by decide +kernel
set_option maxRecDepth 65536 in
theorem w_heap : heapFits about1 = true := by decide +kernel
set_option maxRecDepth 65536 in
theorem w_runnable : about1.curStatus? = some .runnable := by decide +kernel
set_option maxRecDepth 65536 in
theorem w_alone : about1.alone = true := by decide +kernel
set_option maxRecDepth 65536 in
theorem w_named : about1.methodNamed? x = some theMethod := by decide +kernel
set_option maxRecDepth 65536 in
theorem w_hears : about1.hears theMethod below0 = true := by decide +kernel
set_option maxRecDepth 65536 in
theorem w_ripe : about1.ripe theMethod args0 below0 = true := by decide +kernel
theorem w_running : about1.status = .running := rfl
set_option maxRecDepth 65536 in
theorem w_room : about1.hasRoom e0.platform room_1 = true :=
  launch0.hasRoom_least _ room_1 (by decide +kernel) (by decide +kernel) (by decide +kernel) (by decide +kernel) (by decide +kernel) (by decide +kernel)
theorem allAtoms_all (ts : List Jvm.Cond) (a : Array Jvm.Value) (st : Jvm.State) : (allAtoms ts).before a st = ts.all (fun c => c.before a st) := by
  induction ts with
  | nil => rfl
  | cons c t ih =>
    show (Jvm.Cond.and c (allAtoms t)).before a st = _
    rw [Jvm.Cond.before_and, ih, List.all_cons]
def words1 : List Jvm.Cond := Jvm.Cond.code x code maxLocals ret :: tables_1
/-- a 'code' word, met by the world's own term for the bytes: nothing is compared byte by byte -/
theorem code_word {y : MethodName} {bytes : ByteArray} {mx : Nat} {rt : Option FieldType} {a : Array Value} {s : State} {m : MethodId} {meth : Method} {c : Code} (h1 : s.methodNamed? y = some m) (h2 : s.vm.method? m = some meth) (h3 : meth.code = some c) (h4 : c.code = bytes)
    (h5 : (c.maxLocals == mx && c.exceptionTable.isEmpty && decide (c.maxStack ≤ mostOperands) && decide (meth.sig.returnType = rt) && !meth.locks && decide (parseMethodDescriptor y.desc = some meth.sig)) = true) : (Jvm.Cond.code y bytes mx rt).before a s = true := by
  simp only [Bool.and_eq_true, beq_iff_eq, Bool.not_eq_true', decide_eq_true_eq] at h5
  obtain ⟨⟨⟨⟨⟨g1, g2⟩, g3⟩, g4⟩, g5⟩, g6⟩ := h5
  simp [Cond.before, Cond.holds, Cond.value, h1, h2, h3, h4, g1, g2, g3, g4, g5, g6]
def isCode : Jvm.Cond → Bool
  | .code _ _ _ _ => true
  | _ => false
theorem all_split {L : List Jvm.Cond} {P : Jvm.Cond → Bool} (h1 : L.all (fun c => isCode c || P c) = true) (h2 : ∀ c ∈ L.filter isCode, P c = true) : L.all P = true := by
  refine List.all_eq_true.mpr fun c hc => ?_
  have h := List.all_eq_true.mp h1 c hc
  rcases Bool.eq_false_or_eq_true (isCode c) with hi | hi
  · exact h2 c (List.mem_filter.mpr ⟨hc, hi⟩)
  · simpa [hi] using h
set_option maxRecDepth 65536 in
theorem w_c0 : (Jvm.Cond.code x code maxLocals ret).before args0 about1 = true := code_word (m := ⟨1, 1⟩) (meth := k1m1) (c := k1c1) (by decide +kernel) rfl rfl rfl (by decide +kernel)
set_option maxRecDepth 65536 in
theorem w_c1 : (Jvm.Cond.code ({ cls := "com/example/frigg/frigg/ChunkedLongs", name := "<init>", desc := "()V" } : Jvm.MethodName) prog_8_method_1_code (1 : Nat) (Option.none : Option Jvm.ClassFile.FieldType)).before args0 about1 = true := code_word (m := ⟨2, 0⟩) (meth := k2m0) (c := k2c0) (by decide +kernel) rfl rfl rfl (by decide +kernel)
set_option maxRecDepth 65536 in
theorem w_c2 : (Jvm.Cond.code ({ cls := "java/lang/Object", name := "<init>", desc := "()V" } : Jvm.MethodName) object_method_1_code (1 : Nat) (Option.none : Option Jvm.ClassFile.FieldType)).before args0 about1 = true := code_word (m := ⟨0, 0⟩) (meth := k0m0) (c := k0c0) (by decide +kernel) rfl rfl rfl (by decide +kernel)
set_option maxRecDepth 65536 in
theorem w_c3 : (Jvm.Cond.code ({ cls := "com/example/frigg/frigg/ChunkedLongs", name := "add", desc := "(J)V" } : Jvm.MethodName) prog_8_method_5_code (4 : Nat) (Option.none : Option Jvm.ClassFile.FieldType)).before args0 about1 = true := code_word (m := ⟨2, 4⟩) (meth := k2m4) (c := k2c4) (by decide +kernel) rfl rfl rfl (by decide +kernel)
set_option maxRecDepth 65536 in
theorem w_c4 : (Jvm.Cond.code ({ cls := "com/example/frigg/frigg/ChunkedLongs", name := "set", desc := "(IJ)V" } : Jvm.MethodName) prog_8_method_4_code (4 : Nat) (Option.none : Option Jvm.ClassFile.FieldType)).before args0 about1 = true := code_word (m := ⟨2, 3⟩) (meth := k2m3) (c := k2c3) (by decide +kernel) rfl rfl rfl (by decide +kernel)
set_option maxRecDepth 65536 in
theorem w_c5 : (Jvm.Cond.code ({ cls := "com/example/frigg/frigg/ChunkedLongs", name := "get", desc := "(I)J" } : Jvm.MethodName) prog_8_method_3_code (2 : Nat) (Option.some Jvm.ClassFile.FieldType.long)).before args0 about1 = true := code_word (m := ⟨2, 2⟩) (meth := k2m2) (c := k2c2) (by decide +kernel) rfl rfl rfl (by decide +kernel)
set_option maxRecDepth 65536 in
theorem w_c6 : (Jvm.Cond.code ({ cls := "com/example/frigg/frigg/ChunkedLongs", name := "size", desc := "()I" } : Jvm.MethodName) prog_8_method_2_code (1 : Nat) (Option.some Jvm.ClassFile.FieldType.int)).before args0 about1 = true := code_word (m := ⟨2, 1⟩) (meth := k2m1) (c := k2c1) (by decide +kernel) rfl rfl rfl (by decide +kernel)
def codes1 : List Jvm.Cond := [Jvm.Cond.code x code maxLocals ret, Jvm.Cond.code ({ cls := "com/example/frigg/frigg/ChunkedLongs", name := "<init>", desc := "()V" } : Jvm.MethodName) prog_8_method_1_code (1 : Nat) (Option.none : Option Jvm.ClassFile.FieldType), Jvm.Cond.code ({ cls := "java/lang/Object", name := "<init>", desc := "()V" } : Jvm.MethodName) object_method_1_code (1 : Nat) (Option.none : Option Jvm.ClassFile.FieldType), Jvm.Cond.code ({ cls := "com/example/frigg/frigg/ChunkedLongs", name := "add", desc := "(J)V" } : Jvm.MethodName) prog_8_method_5_code (4 : Nat) (Option.none : Option Jvm.ClassFile.FieldType), Jvm.Cond.code ({ cls := "com/example/frigg/frigg/ChunkedLongs", name := "set", desc := "(IJ)V" } : Jvm.MethodName) prog_8_method_4_code (4 : Nat) (Option.none : Option Jvm.ClassFile.FieldType), Jvm.Cond.code ({ cls := "com/example/frigg/frigg/ChunkedLongs", name := "get", desc := "(I)J" } : Jvm.MethodName) prog_8_method_3_code (2 : Nat) (Option.some Jvm.ClassFile.FieldType.long), Jvm.Cond.code ({ cls := "com/example/frigg/frigg/ChunkedLongs", name := "size", desc := "()I" } : Jvm.MethodName) prog_8_method_2_code (1 : Nat) (Option.some Jvm.ClassFile.FieldType.int)]
set_option maxRecDepth 65536 in
theorem codes_eq : words1.filter isCode = codes1 := rfl
theorem w_codes : ∀ c ∈ words1.filter isCode, c.before args0 about1 = true := by
  rw [codes_eq]
  intro c hc
  simp only [codes1, List.mem_cons, List.not_mem_nil, or_false] at hc
  rcases hc with rfl | rfl | rfl | rfl | rfl | rfl | rfl
  · exact w_c0
  · exact w_c1
  · exact w_c2
  · exact w_c3
  · exact w_c4
  · exact w_c5
  · exact w_c6
set_option maxRecDepth 65536 in
theorem w_t1 : (words1.take 24).all (fun c => isCode c || c.before args0 about1) = true := by decide +kernel
set_option maxRecDepth 65536 in
theorem w_t2 : (words1.drop 24).all (fun c => isCode c || c.before args0 about1) = true := by decide +kernel
theorem w_tables : (allAtoms (Jvm.Cond.code x code maxLocals ret :: tables_1)).before args0 about1 = true := by
  rw [allAtoms_all]
  show words1.all (fun c => c.before args0 about1) = true
  refine all_split ?_ w_codes
  rw [← List.take_append_drop 24 words1, List.all_append, w_t1, w_t2]
  rfl
set_option maxRecDepth 65536 in
theorem w_case : (Jvm.Cond.and given_1 narrow_1).before args0 about1 = true := by decide +kernel
theorem w_applies : (headSpec (Jvm.Cond.code x code maxLocals ret :: tables_1) room_1).applies x e0.platform about1 = true :=
  (Spec.applies_iff w_frames).mpr ⟨w_running, w_runnable, w_alone, w_named, w_hears, w_ripe, w_room, w_tables⟩
theorem atStart : AtStart classFile x code maxLocals ret World_1 tables_1 room_1 Calls_1 rest_1 Pre_1 launch0 p0 e0 about1 theMethod args0 below0 :=
  ⟨lists_1, trivial, launch0.admits_env _ _ _, launch0.least_env, fairChoices_fair.cas, fairChoices_fair.clock, w_frames, w_args, w_heap, w_applies, trivial, trivial, w_case⟩
end start1
theorem witness_1 : WitnessClaimed_1 := ⟨start1.p0, start1.e0, start1.about1, start1.theMethod, start1.args0, start1.below0, start1.atStart⟩
end Jvm.Pilot.@@N@@
