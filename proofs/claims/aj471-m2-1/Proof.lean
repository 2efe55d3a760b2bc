import JvmDerived
import JvmDerived.Pilot.@@N@@Statement
import JvmDerived.Pilot.@@N@@Code
set_option linter.unusedVariables false
set_option linter.unusedSimpArgs false
@@BLOCK:NumsL.lean.txt@@
namespace Jvm.RoadKit
open Sem ClassFile Op Lib Jvm.Stand Jvm.Free Jvm.LawKit
section New
variable {p : Program} {l : Launch} {e : Env} {R : Room} {s : State} {m : MethodId} {args : Array Value} {below : List Frame} {meth : Method} {c : Code} {T : State} {locs : List Loc} {cells slots : Nat}
theorem retI (X : Stand p l e R s m args below meth c T locs cells slots) (hx : p.tables.exec = Jvm.exec) {pc : Nat} {Ls : Array Slot} {z : Int32} {rest : List Value} (hret : meth.sig.returnType = some .int) (hd : decode c.code pc = .ok (.ireturn, 1)) {fs : List Frame}
    (hl : ∀ (f : JFrame) (acts : List Action), f.method = m → f.locked = none → f.entered = [] → (doReturn e (T.setTop f) acts (some (.int z))).1 = T.setFrames fs) : Steps p.tables e below (T.setTop (mkF m pc Ls (.int z :: rest))) (T.setFrames fs) := by
  have hm' : T.vm.method? m = some meth := X.method'
  have hn : narrow .int (.int z) = .int z := rfl
  show Steps p.tables e below (T.setTop { method := m, pc := pc, locals := Ls, stack := _ :: rest, locked := none }) _
  jvm_step X.here [X.here.top, hx, hd, hm', hret, hn]
  first | (intro acts; rw [hl _ acts rfl rfl rfl]) | rw [hl _ _ rfl rfl rfl]
  exact Steps.refl _
end New
end Jvm.RoadKit
namespace Jvm.Pilot.@@N@@
open Jvm Jvm.ClassFile Sem Op Lib Jvm.Free Jvm.Stand Jvm.LawKit Jvm.RoadKit Bundle Jvm.Pilot.@@N@@.Jvm.D

/-! the plain law: a set of positive longs kept in an ascending list and a table with open addressing -/
def own_hI (x : Int64) : Int32 := (((((x * (-7046029254386353131 : Int64)).toUInt64 >>> (((64 : Int32) - (10 : Int32)) &&& 0x3f).toInt64.toUInt64).toInt64)).toInt32)
def own_h (x : Int64) : Nat := (own_hI x).toNatClampNeg
theorem own_hI_rng (x : Int64) : 0 ≤ (own_hI x).toInt ∧ (own_hI x).toInt < 1024 := by
  have e := c_lushr (x * (-7046029254386353131 : Int64)) ((64 : Int32) - (10 : Int32)) 54 (by decide) (by decide)
  have e2 := c_l2i ((((x * (-7046029254386353131 : Int64)).toUInt64 >>> (((64 : Int32) - (10 : Int32)) &&& 0x3f).toInt64.toUInt64).toInt64))
  have e3 := rng32 (own_hI x)
  unfold own_hI at *
  generalize ((((x * (-7046029254386353131 : Int64)).toUInt64 >>> (((64 : Int32) - (10 : Int32)) &&& 0x3f).toInt64.toUInt64).toInt64)) = u at *
  have e4 : (2 ^ 54 : Nat) = 18014398509481984 := by decide
  rw [e4] at e
  omega
theorem own_nat {n : Nat} (h : n < 2 ^ 31) : (Int32.ofNat n).toInt = n := len_toInt h
theorem own_clamp {n : Nat} (h : n < 2 ^ 31) : (Int32.ofNat n).toNatClampNeg = n := by simp only [Int32.toNatClampNeg, own_nat h]; rfl
theorem own_back {x : Int32} (h : 0 ≤ x.toInt) : Int32.ofNat x.toNatClampNeg = x := by
  apply Int32.toInt_inj.mp
  have := rng32 x
  rw [own_nat (by simp only [Int32.toNatClampNeg]; omega)]
  simp only [Int32.toNatClampNeg]; omega
theorem own_h_lt (x : Int64) : own_h x < 1024 := by
  have := own_hI_rng x
  simp only [own_h, Int32.toNatClampNeg]; omega
theorem own_hI_eq (x : Int64) : own_hI x = Int32.ofNat (own_h x) := (own_back (own_hI_rng x).1).symm
theorem own_nnat {n : Nat} (h : n < 2 ^ 31) : ¬ Int32.ofNat n < 0 := by rw [Int32.lt_iff_toInt_lt, own_nat h]; simp
theorem own_next {s : Nat} (h : s < 1024) : ((Int32.ofNat s + (1 : Int32)) &&& (1023 : Int32)) = Int32.ofNat ((s + 1) % 1024) := by
  apply Int32.toInt_inj.mp
  have e1 := c_mask (Int32.ofNat s + (1 : Int32)) (1023 : Int32) 10 (by decide) (by decide)
  have e2 : (Int32.ofNat s + (1 : Int32)).toInt = s + 1 := by
    rw [Jvm.Kit.i32_add (by rw [own_nat (by omega)]; show _ ≤ (s : Int) + 1; omega) (by rw [own_nat (by omega)]; show (s : Int) + 1 < _; omega), own_nat (by omega)]; rfl
  rw [e1, e2, own_nat (by omega)]
  have e4 : ((2 ^ 10 : Nat) : Int) = 1024 := by decide
  rw [e4]; omega
/-- the table's model -/
def own_stop (T : Nat → Int64) (x : Int64) (j : Nat) : Prop := T j = 0 ∨ T j = x
def own_In (T : Nat → Int64) (x : Int64) : Prop := ∃ j, j < 1024 ∧ T j = x
def own_upd (T : Nat → Int64) (j : Nat) (x : Int64) : Nat → Int64 := fun i => if i = j then x else T i
def own_TI (T : Nat → Int64) (F : List Nat) : Prop := (∀ j, j < 1024 → j ∉ F → T j = 0) ∧ ∀ j, j < 1024 → T j ≠ 0 → ∃ d, (own_h (T j) + d) % 1024 = j ∧ ∀ d', d' < d → T ((own_h (T j) + d') % 1024) ≠ 0
def own_first (T : Nat → Int64) (x : Int64) (s d : Nat) : Prop := own_stop T x ((s + d) % 1024) ∧ ∀ d', d' < d → ¬ own_stop T x ((s + d') % 1024)
theorem own_least {P : Nat → Prop} {n : Nat} (h : P n) : ∃ d, P d ∧ ∀ d', d' < d → ¬ P d' := by
  induction n using Nat.strongRecOn with
  | ind n ih =>
    by_cases q : ∃ m, m < n ∧ P m
    · obtain ⟨m, hm, pm⟩ := q; exact ih m hm pm
    · exact ⟨n, h, fun d hd pd => q ⟨d, hd, pd⟩⟩
theorem own_free : ∀ (n : Nat) (F : List Nat), F.length < n → ∃ z, z < n ∧ z ∉ F
  | 0, _, h => absurd h (Nat.not_lt_zero _)
  | n + 1, F, h => by
    by_cases q : n ∈ F
    · have hl := List.length_erase_of_mem q
      have hp : 0 < F.length := List.length_pos_of_mem q
      obtain ⟨z, hz, hn⟩ := own_free n (F.erase n) (by omega)
      exact ⟨z, by omega, fun hm => hn ((List.mem_erase_of_ne (by omega)).mpr hm)⟩
    · exact ⟨n, by omega, q⟩
theorem own_exists {T : Nat → Int64} {F : List Nat} (I : own_TI T F) (hl : F.length < 1024) (x : Int64) (s : Nat) (hs : s < 1024) : ∃ d, own_first T x s d := by
  obtain ⟨z, hz, hn⟩ := own_free 1024 F hl
  have h0 := I.1 z hz hn
  have e : (s + (z + 1024 - s)) % 1024 = z := by omega
  exact own_least (P := fun d => own_stop T x ((s + d) % 1024)) (n := z + 1024 - s) (by show own_stop T x ((s + (z + 1024 - s)) % 1024); rw [e]; exact Or.inl h0)
theorem own_find {T : Nat → Int64} {F : List Nat} (I : own_TI T F) {x : Int64} (hx : x ≠ 0) {d : Nat} (hf : own_first T x (own_h x) d) : own_In T x ↔ T ((own_h x + d) % 1024) = x := by
  refine ⟨fun ⟨j, hj, e⟩ => ?_, fun h => ⟨_, Nat.mod_lt _ (by decide), h⟩⟩
  obtain ⟨dj, h1, h2⟩ := I.2 j hj (by rw [e]; exact hx)
  rw [e] at h1 h2
  rcases Nat.lt_trichotomy d dj with q | q | q
  · rcases hf.1 with z | z
    · exact absurd z (h2 d q)
    · exact z
  · rw [q, h1]; exact e
  · exact absurd (show own_stop T x ((own_h x + dj) % 1024) from Or.inr (by rw [h1]; exact e)) (hf.2 dj q)
theorem own_ins {T : Nat → Int64} {F : List Nat} (I : own_TI T F) {x : Int64} (hx : x ≠ 0) {d : Nat} (hf : own_first T x (own_h x) d) (hn : T ((own_h x + d) % 1024) ≠ x) :
    own_TI (own_upd T ((own_h x + d) % 1024) x) (((own_h x + d) % 1024) :: F) ∧ ∀ y, y ≠ 0 → (own_In (own_upd T ((own_h x + d) % 1024) x) y ↔ y = x ∨ own_In T y) := by
  have h0 : T ((own_h x + d) % 1024) = 0 := hf.1.resolve_right hn
  have hlt : (own_h x + d) % 1024 < 1024 := Nat.mod_lt _ (by decide)
  have hfi : ∀ d', d' < d → T ((own_h x + d') % 1024) ≠ 0 := fun d' hd z => hf.2 d' hd (Or.inl z)
  generalize hsl : (own_h x + d) % 1024 = sl at h0 hlt hn ⊢
  have hu : ∀ i, i ≠ sl → own_upd T sl x i = T i := fun i hi => by simp [own_upd, hi]
  have hs : own_upd T sl x sl = x := by simp [own_upd]
  have hnz : ∀ i, T i ≠ 0 → own_upd T sl x i ≠ 0 := fun i hi => by
    by_cases q : i = sl
    · subst q; exact absurd h0 hi
    · rw [hu i q]; exact hi
  refine ⟨⟨fun j hj hm => ?_, fun j hj hz => ?_⟩, fun y hy => ⟨fun ⟨j, hj, e⟩ => ?_, fun h => ?_⟩⟩
  · have q : j ≠ sl := fun e => hm (by rw [e]; exact List.mem_cons_self ..)
    rw [hu j q]; exact I.1 j hj fun z => hm (List.mem_cons_of_mem _ z)
  · by_cases q : j = sl
    · subst q
      rw [hs]
      exact ⟨d, hsl, fun d' hd => hnz _ (hfi d' hd)⟩
    · rw [hu j q] at hz ⊢
      obtain ⟨dj, h1, h2⟩ := I.2 j hj hz
      exact ⟨dj, h1, fun d' hd => hnz _ (h2 d' hd)⟩
  · by_cases q : j = sl
    · subst q; rw [hs] at e; exact Or.inl e.symm
    · rw [hu j q] at e; exact Or.inr ⟨j, hj, e⟩
  · rcases h with rfl | ⟨j, hj, e⟩
    · exact ⟨sl, hlt, hs⟩
    · have q : j ≠ sl := fun z => hy (by rw [← e, z]; exact h0)
      exact ⟨j, hj, by rw [hu j q]; exact e⟩
/-- what holds of the set between two calls: S what was added, asc the ascending list, T the table, F its filled places, lg the largest -/
def own_Inv (S asc : List Int64) (T : Nat → Int64) (F : List Nat) (lg : Int64) : Prop :=
  asc.Pairwise (· < ·) ∧ (∀ x ∈ asc, 0 < x) ∧ own_TI T F ∧ (∀ x, 0 < x → (x ∈ S ↔ x ∈ asc ∨ own_In T x)) ∧ (∀ x ∈ S, x ≤ lg) ∧ asc.length + F.length ≤ S.length
theorem own_pos {x : Int64} (h : 0 < x) : x ≠ 0 := fun e => by subst e; exact Int64.lt_irrefl h
theorem own_inv_app {S asc : List Int64} {T : Nat → Int64} {F : List Nat} {lg x : Int64} (I : own_Inv S asc T F lg) (hx : 0 < x) (hl : lg < x) : own_Inv (x :: S) (asc ++ [x]) T F x ∧ x ∉ S := by
  obtain ⟨i1, i2, i3, i4, i5, i6⟩ := I
  refine ⟨⟨?_, ?_, i3, ?_, ?_, ?_⟩, fun hm => ?_⟩
  · refine List.pairwise_append.mpr ⟨i1, List.pairwise_singleton _ _, fun a ha b hb => ?_⟩
    cases List.mem_singleton.mp hb
    exact Int64.lt_of_le_of_lt (i5 a ((i4 a (i2 a ha)).mpr (Or.inl ha))) hl
  · intro y hy
    rcases List.mem_append.mp hy with h | h
    · exact i2 y h
    · cases List.mem_singleton.mp h; exact hx
  · intro y hy
    rw [List.mem_cons, i4 y hy, List.mem_append, List.mem_singleton]
    constructor
    · rintro (h | h | h)
      · exact Or.inl (Or.inr h)
      · exact Or.inl (Or.inl h)
      · exact Or.inr h
    · rintro ((h | h) | h)
      · exact Or.inr (Or.inl h)
      · exact Or.inl h
      · exact Or.inr (Or.inr h)
  · intro y hy
    rcases List.mem_cons.mp hy with h | h
    · rw [h]; exact Int64.le_refl _
    · exact Int64.le_trans (i5 y h) (Int64.le_of_lt hl)
  · simp only [List.length_append, List.length_cons, List.length_nil]; omega
  · exact Int64.lt_irrefl (Int64.lt_of_le_of_lt (i5 x hm) hl)
theorem own_inv_old {S asc : List Int64} {T : Nat → Int64} {F : List Nat} {lg x : Int64} (I : own_Inv S asc T F lg) (hx : 0 < x) (hl : ¬ lg < x) (hm : x ∈ asc ∨ own_In T x) : own_Inv (x :: S) asc T F lg ∧ x ∈ S := by
  obtain ⟨i1, i2, i3, i4, i5, i6⟩ := I
  refine ⟨⟨i1, i2, i3, ?_, ?_, ?_⟩, (i4 x hx).mpr hm⟩
  · intro y hy
    rw [List.mem_cons, i4 y hy]
    constructor
    · rintro (h | h)
      · rw [h]; exact hm
      · exact h
    · exact Or.inr
  · intro y hy
    rcases List.mem_cons.mp hy with h | h
    · rw [h]; exact Int64.not_lt.mp hl
    · exact i5 y h
  · simp only [List.length_cons]; omega
theorem own_inv_new {S asc : List Int64} {T : Nat → Int64} {F : List Nat} {lg x : Int64} (I : own_Inv S asc T F lg) (hx : 0 < x) (hl : ¬ lg < x) (ha : x ∉ asc) {d : Nat} (hf : own_first T x (own_h x) d) (hn : T ((own_h x + d) % 1024) ≠ x) :
    own_Inv (x :: S) asc (own_upd T ((own_h x + d) % 1024) x) (((own_h x + d) % 1024) :: F) lg ∧ x ∉ S := by
  obtain ⟨i1, i2, i3, i4, i5, i6⟩ := I
  obtain ⟨j1, j2⟩ := own_ins i3 (own_pos hx) hf hn
  refine ⟨⟨i1, i2, j1, ?_, ?_, ?_⟩, fun hm => ?_⟩
  · intro y hy
    rw [List.mem_cons, i4 y hy, j2 y (own_pos hy)]
    constructor
    · rintro (h | h | h)
      · exact Or.inr (Or.inl h)
      · exact Or.inl h
      · exact Or.inr (Or.inr h)
    · rintro (h | h | h)
      · exact Or.inr (Or.inl h)
      · exact Or.inl h
      · exact Or.inr (Or.inr h)
  · intro y hy
    rcases List.mem_cons.mp hy with h | h
    · rw [h]; exact Int64.not_lt.mp hl
    · exact i5 y h
  · simp only [List.length_cons]; omega
  · rcases (i4 x hx).mp hm with h | h
    · exact ha h
    · exact hn ((own_find i3 (own_pos hx) hf).mp h)
theorem own_inv_start : own_Inv [] [] (fun _ => 0) [] 0 := by
  refine ⟨List.Pairwise.nil, fun _ h => (nomatch h), ⟨fun _ _ _ => rfl, fun _ _ h => absurd rfl h⟩, fun x hx => ⟨fun h => (nomatch h), ?_⟩, fun _ h => (nomatch h), by decide⟩
  rintro (h | ⟨j, -, e⟩)
  · nomatch h
  · exact absurd e (fun z => own_pos hx z.symm)
/-! the heap's facts -/
def own_Tb (Z : State) (h : Heap) (t : Addr) (T : Nat → Int64) : Prop := ∃ c : Cell, Arr Z h t c .long ∧ c.slots.size = (1024 : Int32).toNatClampNeg ∧ ∀ j, j < 1024 → c.slots[j]? = some (.long (T j))
theorem own_Tb.ext {Z : State} {h h' : Heap} {t : Addr} {T : Nat → Int64} (F : own_Tb Z h t T) (E : Ext h h') : own_Tb Z h' t T := by obtain ⟨c, A, r⟩ := F; exact ⟨c, A.ext E, r⟩
theorem own_Tb.lt {Z : State} {h : Heap} {t : Addr} {T : Nat → Int64} (F : own_Tb Z h t T) : t < h.size := by obtain ⟨c, A, r⟩ := F; exact A.lt
theorem own_Tb.other {Z : State} {h h' : Heap} {t a : Addr} {T : Nat → Int64} {sl : Nat} {v : Value} (F : own_Tb Z h t T) (W : Wr h h' a sl v) (q : t ≠ a) : own_Tb Z h' t T := by obtain ⟨c, A, r⟩ := F; exact ⟨c, A.other W q, r⟩
theorem own_Tb.new {Z : State} {h : Heap} {t : Addr} {k : ClassId} (A : Arr Z h t (newA k .long 1024) .long) : own_Tb Z h t (fun _ => 0) :=
  ⟨_, A, sz_new _ _ _, fun j hj => by
    have e : (newA k .long 1024).slots = Array.replicate 1024 (.long 0) := rfl
    rw [e, Array.getElem?_replicate, if_pos hj]⟩
theorem own_Tb.set {Z : State} {h h' : Heap} {t : Addr} {T : Nat → Int64} {c : Cell} {j : Nat} {x : Int64} (A : Arr Z h t c .long) (S : c.slots.size = (1024 : Int32).toNatClampNeg) (H : ∀ j, j < 1024 → c.slots[j]? = some (.long (T j))) (hj : j < 1024) (W : Wr h h' t j (.long x)) : own_Tb Z h' t (own_upd T j x) := by
  refine ⟨_, A.same W, by rw [sz_set]; exact S, fun i hi => ?_⟩
  have hs : c.slots.size = 1024 := S
  show (c.slots.setIfInBounds j (.long x))[i]? = _
  rw [Array.getElem?_setIfInBounds]
  by_cases q : j = i
  · subst q; rw [if_pos rfl, if_pos (by omega)]; simp [own_upd]
  · rw [if_neg q, H i hi]; simp [own_upd, Ne.symm q]
theorem own_fitsL (vs : List Int64) (i : Nat) : (vs.map Value.long).getD i (.long 0) = .long (vs.getD i 0) := by
  simp only [List.getD_eq_getElem?_getD, List.getElem?_map]
  cases vs[i]? <;> rfl
theorem own_setL (vs : List Int64) (x : Int64) : ((vs.map Value.long) ++ List.replicate 1 (Value.long 0)).set vs.length (Value.long x) = (vs ++ [x]).map Value.long := by
  rw [List.set_append_right _ _ (by simp)]
  simp
def own_Two (s6 s7 : Slot) : Prop := (s6 = .unset ∧ s7 = .unset) ∨ ∃ x, s6 = .val (.long x) ∧ s7 = .second

theorem own_id3 (b : Int32) (v : Int64) : ¬ b = 0 ∨ (b = 0 ∧ v = 0) ∨ (b = 0 ∧ ¬ v = 0) := by
  by_cases h : b = 0 <;> by_cases k : v = 0 <;> simp [h, k]
theorem own_id7 (x : Int64) : 0 < (x &&& (7 : Int64)) + (1 : Int64) := by
  have e := c_maskL x (7 : Int64) 3 (by decide) (by decide)
  have e4 : ((2 ^ 3 : Nat) : Int) = 8 := by decide
  rw [e4] at e
  rw [Int64.lt_iff_toInt_lt, Jvm.Kit.i64_add (by show _ ≤ (x &&& (7 : Int64)).toInt + 1; omega) (by show (x &&& (7 : Int64)).toInt + 1 < _; omega)]
  show 0 < (x &&& (7 : Int64)).toInt + 1
  omega
theorem own_idM (x : Int64) (h : ¬ (x &&& (9223372036854775807 : Int64)) = 0) : 0 < (x &&& (9223372036854775807 : Int64)) := by
  have e := c_maskL x (9223372036854775807 : Int64) 63 (by decide) (by decide)
  have e4 : ((2 ^ 63 : Nat) : Int) = 9223372036854775808 := by decide
  rw [e4] at e
  have h' : (x &&& (9223372036854775807 : Int64)).toInt ≠ 0 := fun z => h (Int64.toInt_inj.mp z)
  rw [Int64.lt_iff_toInt_lt]
  show 0 < _
  omega
theorem d1_0 : decode method_2_code 0 = .ok (.iload_n 2, 1) := by decide +kernel
theorem d1_1 : decode method_2_code 1 = .ok (.iload_n 3, 1) := by decide +kernel
theorem d1_2 : decode method_2_code 2 = .ok (.iushr, 1) := by decide +kernel
theorem d1_3 : decode method_2_code 3 = .ok (.iconst 1, 1) := by decide +kernel
theorem d1_4 : decode method_2_code 4 = .ok (.iand, 1) := by decide +kernel
theorem d1_5 : decode method_2_code 5 = .ok (.ifCond .eq 11, 3) := by decide +kernel
theorem d1_8 : decode method_2_code 8 = .ok (.lload_n 0, 1) := by decide +kernel
theorem d1_9 : decode method_2_code 9 = .ok (.ldc2_w 7, 3) := by decide +kernel
theorem d1_12 : decode method_2_code 12 = .ok (.land, 1) := by decide +kernel
theorem d1_13 : decode method_2_code 13 = .ok (.lconst 1, 1) := by decide +kernel
theorem d1_14 : decode method_2_code 14 = .ok (.ladd, 1) := by decide +kernel
theorem d1_15 : decode method_2_code 15 = .ok (.lreturn, 1) := by decide +kernel
theorem d1_16 : decode method_2_code 16 = .ok (.lload_n 0, 1) := by decide +kernel
theorem d1_17 : decode method_2_code 17 = .ok (.ldc2_w 11, 3) := by decide +kernel
theorem d1_20 : decode method_2_code 20 = .ok (.land, 1) := by decide +kernel
theorem d1_21 : decode method_2_code 21 = .ok (.lstore 4, 2) := by decide +kernel
theorem d1_23 : decode method_2_code 23 = .ok (.lload 4, 2) := by decide +kernel
theorem d1_25 : decode method_2_code 25 = .ok (.lconst 0, 1) := by decide +kernel
theorem d1_26 : decode method_2_code 26 = .ok (.lcmp, 1) := by decide +kernel
theorem d1_27 : decode method_2_code 27 = .ok (.ifCond .ne 5, 3) := by decide +kernel
theorem d1_30 : decode method_2_code 30 = .ok (.lconst 1, 1) := by decide +kernel
theorem d1_31 : decode method_2_code 31 = .ok (.lreturn, 1) := by decide +kernel
theorem d1_32 : decode method_2_code 32 = .ok (.lload 4, 2) := by decide +kernel
theorem d1_34 : decode method_2_code 34 = .ok (.lreturn, 1) := by decide +kernel
theorem pn_PostIdsAddPinLaw : plainName "com/example/dilate_query/dilatequery/collection/PostIdsAddPinLaw" = true := by first | (simp [plainName, overriddenIn]; done) | decide +kernel
theorem ef_1 (m : MethodId) (x0 : Int64) (x1 : Int32) (x2 : Int32) : entryFrame m #[(.long x0), (.int x1), (.int x2)] 6 = mkF m 0 #[.val (.long x0), .second, .val (.int x1), .val (.int x2), .unset, .unset] [] := by first | (simp [entryFrame, mkF, argsToLocals, Value.category]; done) | rfl
def Q1 (Z : State) (q1 : Int64) (p2 p3 : Int32) (h0 : Heap) (n0 : Nat) (v : Option Value) (h : Heap) (L : List Loc) : Prop := (∃ r, v = some (.long r) ∧ 0 < r) ∧ Fr n0 L ∧ h = h0
set_option maxRecDepth 65536 in
set_option maxHeartbeats 40000000 in
theorem rm1 (l : Launch) (Z : State) (a0 : Array Value) (hw : ∀ d ∈ tables_1, d.before a0 Z = true) (ws : List Jvm.Cond) (q1 : Int64) (p2 p3 : Int32) (h0 : Heap) (n0 : Nat) (Z0 : n0 ≤ h0.size) :
    MetFree l (⟨"com/example/dilate_query/dilatequery/collection/PostIdsAddPinLaw", "id", "(JII)J"⟩ : MethodName) (head1 (Jvm.Cond.code (⟨"com/example/dilate_query/dilatequery/collection/PostIdsAddPinLaw", "id", "(JII)J"⟩ : MethodName) method_2_code 6 (some .long) :: ws) ({ frames := 0, cells := 0, slots := 0, locals := 0 } : Room)) (fun a U => a = #[(.long q1), (.int p2), (.int p3)] ∧ Z.Warmed39 U.vm ∧ U.heap = h0) (fun _ _ _ _ _ => True) (fun _ U o U' => ∃ v L, o = .returned v ∧ Q1 Z q1 p2 p3 h0 n0 v U'.heap L ∧ FrameEnd U o U' L ({ frames := 0, cells := 0, slots := 0, locals := 0 } : Room).cells ({ frames := 0, cells := 0, slots := 0, locals := 0 } : Room).slots) := by
  refine MetFree.of_bodySF (plainFor_of_name pn_PostIdsAddPinLaw) hisR ?_
  intro p e s m args below meth c s₁ Bd hml0 hP hK
  obtain ⟨rfl, hZ, hh⟩ := hP
  have hx := Bd.exec
  have hby := Bd.bytes
  have hml : c.maxLocals = 6 := hml0
  have hown : s.vm.findClass "com/example/dilate_query/dilatequery/collection/PostIdsAddPinLaw" = some m.cls := findClass_of_methodNamed Bd.named
  have hnm := (name_of_methodNamed Bd.named Bd.method).1
  have X0 : Stand p l e ({ frames := 0, cells := 0, slots := 0, locals := 0 } : Room) s m #[(.long q1), (.int p2), (.int p3)] below meth c s₁ [] 0 0 := Stand.of_body Bd
  have e0 : s₁.heap = h0 := by rw [← hh, Bd.state]; rfl
  have N0 := Fr.nil n0
  have pre0 : ∀ t, Steps p.tables e below (s₁.setTop (mkF m 0 #[.val (.long q1), .second, .val (.int p2), .val (.int p3), .unset, .unset] [])) t → Steps p.tables e below (s₁.setTop (entryFrame m #[(.long q1), (.int p2), (.int p3)] 6)) t := fun t k => castTop (ef_1 m q1 p2 p3) k
  rcases own_id3 (((p2.toUInt32 >>> (p3 &&& 31).toUInt32).toInt32) &&& (1 : Int32)) (q1 &&& (9223372036854775807 : Int64)) with hb1 | ⟨hb1, hv1⟩ | ⟨hb1, hv1⟩
  · obtain ⟨fs, hr, hrun, hended, hW, hsame⟩ := X0.leave (v := some (.long ((q1 &&& (7 : Int64)) + (1 : Int64)))) (fun h => by rw [Bd.returns] at h; cases h)
    refine ⟨_, _, pre0 _ ?_, hrun, hended, _, _, rfl, ?_, ⟨_, rfl⟩, hW, hsame.mono (by decide) (by decide)⟩
    · show Steps p.tables e below (s₁.setTop (mkF m 0 #[.val (.long q1), .second, .val (.int p2), .val (.int p3), .unset, .unset] [])) _
      refine XS.iloadN X0.here hx rfl (hb hby d1_0) rfl ?_
      show Steps p.tables e below (s₁.setTop (mkF m 1 #[.val (.long q1), .second, .val (.int p2), .val (.int p3), .unset, .unset] [(.int p2)])) _
      refine XS.iloadN X0.here hx rfl (hb hby d1_1) rfl ?_
      show Steps p.tables e below (s₁.setTop (mkF m 2 #[.val (.long q1), .second, .val (.int p2), .val (.int p3), .unset, .unset] [(.int p3), (.int p2)])) _
      refine XS.iushr X0.here hx rfl (hb hby d1_2) rfl ?_
      show Steps p.tables e below (s₁.setTop (mkF m 3 #[.val (.long q1), .second, .val (.int p2), .val (.int p3), .unset, .unset] [(.int ((p2.toUInt32 >>> (p3 &&& 31).toUInt32).toInt32))])) _
      refine XS.iconst X0.here hx rfl (hb hby d1_3) ?_
      show Steps p.tables e below (s₁.setTop (mkF m 4 #[.val (.long q1), .second, .val (.int p2), .val (.int p3), .unset, .unset] [(.int (1 : Int32)), (.int ((p2.toUInt32 >>> (p3 &&& 31).toUInt32).toInt32))])) _
      refine XS.iand X0.here hx rfl (hb hby d1_4) rfl ?_
      show Steps p.tables e below (s₁.setTop (mkF m 5 #[.val (.long q1), .second, .val (.int p2), .val (.int p3), .unset, .unset] [(.int (((p2.toUInt32 >>> (p3 &&& 31).toUInt32).toInt32) &&& (1 : Int32)))])) _
      refine XS.ifNo X0.here hx rfl (hb hby d1_5) rfl ((if0 _ _).trans (feq hb1).1) ?_
      show Steps p.tables e below (s₁.setTop (mkF m 8 #[.val (.long q1), .second, .val (.int p2), .val (.int p3), .unset, .unset] [])) _
      refine XS.lloadN X0.here hx rfl (hb hby d1_8) rfl ?_
      show Steps p.tables e below (s₁.setTop (mkF m 9 #[.val (.long q1), .second, .val (.int p2), .val (.int p3), .unset, .unset] [(.long q1)])) _
      refine X0.ldc2Long hx hown (mvT hZ (hw _ (List.mem_of_getElem? (i := 5) rfl))) (g := (mkF m 9 #[.val (.long q1), .second, .val (.int p2), .val (.int p3), .unset, .unset] [(.long q1)])) rfl (hb hby d1_9) _ ?_
      show Steps p.tables e below (s₁.setTop (mkF m 12 #[.val (.long q1), .second, .val (.int p2), .val (.int p3), .unset, .unset] [(.long (7 : Int64)), (.long q1)])) _
      refine XS.land X0.here hx rfl (hb hby d1_12) rfl ?_
      show Steps p.tables e below (s₁.setTop (mkF m 13 #[.val (.long q1), .second, .val (.int p2), .val (.int p3), .unset, .unset] [(.long (q1 &&& (7 : Int64)))])) _
      refine XS.lconst X0.here hx rfl (hb hby d1_13) ?_
      show Steps p.tables e below (s₁.setTop (mkF m 14 #[.val (.long q1), .second, .val (.int p2), .val (.int p3), .unset, .unset] [(.long (1 : Int64)), (.long (q1 &&& (7 : Int64)))])) _
      refine XS.ladd X0.here hx rfl (hb hby d1_14) rfl ?_
      show Steps p.tables e below (s₁.setTop (mkF m 15 #[.val (.long q1), .second, .val (.int p2), .val (.int p3), .unset, .unset] [(.long ((q1 &&& (7 : Int64)) + (1 : Int64)))])) _
      exact X0.lreturnOut hx Bd.returns (hb hby d1_15) hr
    · show Q1 Z q1 p2 p3 h0 n0 _ s₁.heap _
      rw [e0]
      exact ⟨⟨_, rfl, own_id7 _⟩, N0, rfl⟩
  · obtain ⟨fs, hr, hrun, hended, hW, hsame⟩ := X0.leave (v := some (.long (1 : Int64))) (fun h => by rw [Bd.returns] at h; cases h)
    refine ⟨_, _, pre0 _ ?_, hrun, hended, _, _, rfl, ?_, ⟨_, rfl⟩, hW, hsame.mono (by decide) (by decide)⟩
    · show Steps p.tables e below (s₁.setTop (mkF m 0 #[.val (.long q1), .second, .val (.int p2), .val (.int p3), .unset, .unset] [])) _
      refine XS.iloadN X0.here hx rfl (hb hby d1_0) rfl ?_
      show Steps p.tables e below (s₁.setTop (mkF m 1 #[.val (.long q1), .second, .val (.int p2), .val (.int p3), .unset, .unset] [(.int p2)])) _
      refine XS.iloadN X0.here hx rfl (hb hby d1_1) rfl ?_
      show Steps p.tables e below (s₁.setTop (mkF m 2 #[.val (.long q1), .second, .val (.int p2), .val (.int p3), .unset, .unset] [(.int p3), (.int p2)])) _
      refine XS.iushr X0.here hx rfl (hb hby d1_2) rfl ?_
      show Steps p.tables e below (s₁.setTop (mkF m 3 #[.val (.long q1), .second, .val (.int p2), .val (.int p3), .unset, .unset] [(.int ((p2.toUInt32 >>> (p3 &&& 31).toUInt32).toInt32))])) _
      refine XS.iconst X0.here hx rfl (hb hby d1_3) ?_
      show Steps p.tables e below (s₁.setTop (mkF m 4 #[.val (.long q1), .second, .val (.int p2), .val (.int p3), .unset, .unset] [(.int (1 : Int32)), (.int ((p2.toUInt32 >>> (p3 &&& 31).toUInt32).toInt32))])) _
      refine XS.iand X0.here hx rfl (hb hby d1_4) rfl ?_
      show Steps p.tables e below (s₁.setTop (mkF m 5 #[.val (.long q1), .second, .val (.int p2), .val (.int p3), .unset, .unset] [(.int (((p2.toUInt32 >>> (p3 &&& 31).toUInt32).toInt32) &&& (1 : Int32)))])) _
      refine XS.ifYes X0.here hx rfl (pc0 := 5) (pc' := 16) rfl (hb hby d1_5) rfl ((if0 _ _).trans (teq hb1).1) (by decide) (by decide) ?_
      show Steps p.tables e below (s₁.setTop (mkF m 16 #[.val (.long q1), .second, .val (.int p2), .val (.int p3), .unset, .unset] [])) _
      refine XS.lloadN X0.here hx rfl (hb hby d1_16) rfl ?_
      show Steps p.tables e below (s₁.setTop (mkF m 17 #[.val (.long q1), .second, .val (.int p2), .val (.int p3), .unset, .unset] [(.long q1)])) _
      refine X0.ldc2Long hx hown (mvT hZ (hw _ (List.mem_of_getElem? (i := 4) rfl))) (g := (mkF m 17 #[.val (.long q1), .second, .val (.int p2), .val (.int p3), .unset, .unset] [(.long q1)])) rfl (hb hby d1_17) _ ?_
      show Steps p.tables e below (s₁.setTop (mkF m 20 #[.val (.long q1), .second, .val (.int p2), .val (.int p3), .unset, .unset] [(.long (9223372036854775807 : Int64)), (.long q1)])) _
      refine XS.land X0.here hx rfl (hb hby d1_20) rfl ?_
      show Steps p.tables e below (s₁.setTop (mkF m 21 #[.val (.long q1), .second, .val (.int p2), .val (.int p3), .unset, .unset] [(.long (q1 &&& (9223372036854775807 : Int64)))])) _
      refine XS.lstore X0.here hx rfl (hb hby d1_21) rfl (l' := #[.val (.long q1), .second, .val (.int p2), .val (.int p3), .val (.long (q1 &&& (9223372036854775807 : Int64))), .second]) rfl ?_
      show Steps p.tables e below (s₁.setTop (mkF m 23 #[.val (.long q1), .second, .val (.int p2), .val (.int p3), .val (.long (q1 &&& (9223372036854775807 : Int64))), .second] [])) _
      refine XS.lload X0.here hx rfl (hb hby d1_23) rfl ?_
      show Steps p.tables e below (s₁.setTop (mkF m 25 #[.val (.long q1), .second, .val (.int p2), .val (.int p3), .val (.long (q1 &&& (9223372036854775807 : Int64))), .second] [(.long (q1 &&& (9223372036854775807 : Int64)))])) _
      refine XS.lconst X0.here hx rfl (hb hby d1_25) ?_
      show Steps p.tables e below (s₁.setTop (mkF m 26 #[.val (.long q1), .second, .val (.int p2), .val (.int p3), .val (.long (q1 &&& (9223372036854775807 : Int64))), .second] [(.long (0 : Int64)), (.long (q1 &&& (9223372036854775807 : Int64)))])) _
      refine XS.lcmp X0.here hx rfl (hb hby d1_26) rfl ?_
      show Steps p.tables e below (s₁.setTop (mkF m 27 #[.val (.long q1), .second, .val (.int p2), .val (.int p3), .val (.long (q1 &&& (9223372036854775807 : Int64))), .second] [(.int (lcmpW (q1 &&& (9223372036854775807 : Int64)) (0 : Int64)))])) _
      refine XS.ifNo X0.here hx rfl (hb hby d1_27) rfl ((if0 _ _).trans (teq ((lw_eq _ _).mpr hv1)).2) ?_
      show Steps p.tables e below (s₁.setTop (mkF m 30 #[.val (.long q1), .second, .val (.int p2), .val (.int p3), .val (.long (q1 &&& (9223372036854775807 : Int64))), .second] [])) _
      refine XS.lconst X0.here hx rfl (hb hby d1_30) ?_
      show Steps p.tables e below (s₁.setTop (mkF m 31 #[.val (.long q1), .second, .val (.int p2), .val (.int p3), .val (.long (q1 &&& (9223372036854775807 : Int64))), .second] [(.long (1 : Int64))])) _
      exact X0.lreturnOut hx Bd.returns (hb hby d1_31) hr
    · show Q1 Z q1 p2 p3 h0 n0 _ s₁.heap _
      rw [e0]
      exact ⟨⟨_, rfl, by decide⟩, N0, rfl⟩
  · obtain ⟨fs, hr, hrun, hended, hW, hsame⟩ := X0.leave (v := some (.long (q1 &&& (9223372036854775807 : Int64)))) (fun h => by rw [Bd.returns] at h; cases h)
    refine ⟨_, _, pre0 _ ?_, hrun, hended, _, _, rfl, ?_, ⟨_, rfl⟩, hW, hsame.mono (by decide) (by decide)⟩
    · show Steps p.tables e below (s₁.setTop (mkF m 0 #[.val (.long q1), .second, .val (.int p2), .val (.int p3), .unset, .unset] [])) _
      refine XS.iloadN X0.here hx rfl (hb hby d1_0) rfl ?_
      show Steps p.tables e below (s₁.setTop (mkF m 1 #[.val (.long q1), .second, .val (.int p2), .val (.int p3), .unset, .unset] [(.int p2)])) _
      refine XS.iloadN X0.here hx rfl (hb hby d1_1) rfl ?_
      show Steps p.tables e below (s₁.setTop (mkF m 2 #[.val (.long q1), .second, .val (.int p2), .val (.int p3), .unset, .unset] [(.int p3), (.int p2)])) _
      refine XS.iushr X0.here hx rfl (hb hby d1_2) rfl ?_
      show Steps p.tables e below (s₁.setTop (mkF m 3 #[.val (.long q1), .second, .val (.int p2), .val (.int p3), .unset, .unset] [(.int ((p2.toUInt32 >>> (p3 &&& 31).toUInt32).toInt32))])) _
      refine XS.iconst X0.here hx rfl (hb hby d1_3) ?_
      show Steps p.tables e below (s₁.setTop (mkF m 4 #[.val (.long q1), .second, .val (.int p2), .val (.int p3), .unset, .unset] [(.int (1 : Int32)), (.int ((p2.toUInt32 >>> (p3 &&& 31).toUInt32).toInt32))])) _
      refine XS.iand X0.here hx rfl (hb hby d1_4) rfl ?_
      show Steps p.tables e below (s₁.setTop (mkF m 5 #[.val (.long q1), .second, .val (.int p2), .val (.int p3), .unset, .unset] [(.int (((p2.toUInt32 >>> (p3 &&& 31).toUInt32).toInt32) &&& (1 : Int32)))])) _
      refine XS.ifYes X0.here hx rfl (pc0 := 5) (pc' := 16) rfl (hb hby d1_5) rfl ((if0 _ _).trans (teq hb1).1) (by decide) (by decide) ?_
      show Steps p.tables e below (s₁.setTop (mkF m 16 #[.val (.long q1), .second, .val (.int p2), .val (.int p3), .unset, .unset] [])) _
      refine XS.lloadN X0.here hx rfl (hb hby d1_16) rfl ?_
      show Steps p.tables e below (s₁.setTop (mkF m 17 #[.val (.long q1), .second, .val (.int p2), .val (.int p3), .unset, .unset] [(.long q1)])) _
      refine X0.ldc2Long hx hown (mvT hZ (hw _ (List.mem_of_getElem? (i := 4) rfl))) (g := (mkF m 17 #[.val (.long q1), .second, .val (.int p2), .val (.int p3), .unset, .unset] [(.long q1)])) rfl (hb hby d1_17) _ ?_
      show Steps p.tables e below (s₁.setTop (mkF m 20 #[.val (.long q1), .second, .val (.int p2), .val (.int p3), .unset, .unset] [(.long (9223372036854775807 : Int64)), (.long q1)])) _
      refine XS.land X0.here hx rfl (hb hby d1_20) rfl ?_
      show Steps p.tables e below (s₁.setTop (mkF m 21 #[.val (.long q1), .second, .val (.int p2), .val (.int p3), .unset, .unset] [(.long (q1 &&& (9223372036854775807 : Int64)))])) _
      refine XS.lstore X0.here hx rfl (hb hby d1_21) rfl (l' := #[.val (.long q1), .second, .val (.int p2), .val (.int p3), .val (.long (q1 &&& (9223372036854775807 : Int64))), .second]) rfl ?_
      show Steps p.tables e below (s₁.setTop (mkF m 23 #[.val (.long q1), .second, .val (.int p2), .val (.int p3), .val (.long (q1 &&& (9223372036854775807 : Int64))), .second] [])) _
      refine XS.lload X0.here hx rfl (hb hby d1_23) rfl ?_
      show Steps p.tables e below (s₁.setTop (mkF m 25 #[.val (.long q1), .second, .val (.int p2), .val (.int p3), .val (.long (q1 &&& (9223372036854775807 : Int64))), .second] [(.long (q1 &&& (9223372036854775807 : Int64)))])) _
      refine XS.lconst X0.here hx rfl (hb hby d1_25) ?_
      show Steps p.tables e below (s₁.setTop (mkF m 26 #[.val (.long q1), .second, .val (.int p2), .val (.int p3), .val (.long (q1 &&& (9223372036854775807 : Int64))), .second] [(.long (0 : Int64)), (.long (q1 &&& (9223372036854775807 : Int64)))])) _
      refine XS.lcmp X0.here hx rfl (hb hby d1_26) rfl ?_
      show Steps p.tables e below (s₁.setTop (mkF m 27 #[.val (.long q1), .second, .val (.int p2), .val (.int p3), .val (.long (q1 &&& (9223372036854775807 : Int64))), .second] [(.int (lcmpW (q1 &&& (9223372036854775807 : Int64)) (0 : Int64)))])) _
      refine XS.ifYes X0.here hx rfl (pc0 := 27) (pc' := 32) rfl (hb hby d1_27) rfl ((if0 _ _).trans (feq (fun z => hv1 ((lw_eq _ _).mp z))).2) (by decide) (by decide) ?_
      show Steps p.tables e below (s₁.setTop (mkF m 32 #[.val (.long q1), .second, .val (.int p2), .val (.int p3), .val (.long (q1 &&& (9223372036854775807 : Int64))), .second] [])) _
      refine XS.lload X0.here hx rfl (hb hby d1_32) rfl ?_
      show Steps p.tables e below (s₁.setTop (mkF m 34 #[.val (.long q1), .second, .val (.int p2), .val (.int p3), .val (.long (q1 &&& (9223372036854775807 : Int64))), .second] [(.long (q1 &&& (9223372036854775807 : Int64)))])) _
      exact X0.lreturnOut hx Bd.returns (hb hby d1_34) hr
    · show Q1 Z q1 p2 p3 h0 n0 _ s₁.heap _
      rw [e0]
      exact ⟨⟨_, rfl, own_idM _ hv1⟩, N0, rfl⟩
theorem own_pk (p : Int32) : p = 0 ∨ (¬ p = 0 ∧ p = 1) ∨ (¬ p = 0 ∧ ¬ p = 1 ∧ p = 2) ∨ (¬ p = 0 ∧ ¬ p = 1 ∧ ¬ p = 2 ∧ p = 3) ∨ (¬ p = 0 ∧ ¬ p = 1 ∧ ¬ p = 2 ∧ ¬ p = 3) := by
  by_cases h0 : p = 0 <;> by_cases h1 : p = 1 <;> by_cases h2 : p = 2 <;> by_cases h3 : p = 3 <;> simp [h0, h1, h2, h3]
theorem d2_0 : decode method_3_code 0 = .ok (.iload_n 0, 1) := by decide +kernel
theorem d2_1 : decode method_3_code 1 = .ok (.ifCond .ne 5, 3) := by decide +kernel
theorem d2_4 : decode method_3_code 4 = .ok (.lload_n 1, 1) := by decide +kernel
theorem d2_5 : decode method_3_code 5 = .ok (.lreturn, 1) := by decide +kernel
theorem d2_6 : decode method_3_code 6 = .ok (.iload_n 0, 1) := by decide +kernel
theorem d2_7 : decode method_3_code 7 = .ok (.iconst 1, 1) := by decide +kernel
theorem d2_8 : decode method_3_code 8 = .ok (.if_icmp .ne 5, 3) := by decide +kernel
theorem d2_11 : decode method_3_code 11 = .ok (.lload_n 3, 1) := by decide +kernel
theorem d2_12 : decode method_3_code 12 = .ok (.lreturn, 1) := by decide +kernel
theorem d2_13 : decode method_3_code 13 = .ok (.iload_n 0, 1) := by decide +kernel
theorem d2_14 : decode method_3_code 14 = .ok (.iconst 2, 1) := by decide +kernel
theorem d2_15 : decode method_3_code 15 = .ok (.if_icmp .ne 6, 3) := by decide +kernel
theorem d2_18 : decode method_3_code 18 = .ok (.lload 5, 2) := by decide +kernel
theorem d2_20 : decode method_3_code 20 = .ok (.lreturn, 1) := by decide +kernel
theorem d2_21 : decode method_3_code 21 = .ok (.iload_n 0, 1) := by decide +kernel
theorem d2_22 : decode method_3_code 22 = .ok (.iconst 3, 1) := by decide +kernel
theorem d2_23 : decode method_3_code 23 = .ok (.if_icmp .ne 6, 3) := by decide +kernel
theorem d2_26 : decode method_3_code 26 = .ok (.lload 7, 2) := by decide +kernel
theorem d2_28 : decode method_3_code 28 = .ok (.lreturn, 1) := by decide +kernel
theorem d2_29 : decode method_3_code 29 = .ok (.lload 9, 2) := by decide +kernel
theorem d2_31 : decode method_3_code 31 = .ok (.lreturn, 1) := by decide +kernel
theorem ef_2 (m : MethodId) (x0 : Int32) (x1 : Int64) (x2 : Int64) (x3 : Int64) (x4 : Int64) (x5 : Int64) : entryFrame m #[(.int x0), (.long x1), (.long x2), (.long x3), (.long x4), (.long x5)] 11 = mkF m 0 #[.val (.int x0), .val (.long x1), .second, .val (.long x2), .second, .val (.long x3), .second, .val (.long x4), .second, .val (.long x5), .second] [] := by first | (simp [entryFrame, mkF, argsToLocals, Value.category]; done) | rfl
def Q2 (Z : State) (p1 : Int32) (q1 q2 q3 q4 q5 : Int64) (h0 : Heap) (n0 : Nat) (v : Option Value) (h : Heap) (L : List Loc) : Prop := (∃ r, v = some (.long r) ∧ r ∈ [q5, q4, q3, q2, q1]) ∧ Fr n0 L ∧ h = h0
set_option maxRecDepth 65536 in
set_option maxHeartbeats 40000000 in
theorem rm2 (l : Launch) (Z : State) (a0 : Array Value) (hw : ∀ d ∈ tables_1, d.before a0 Z = true) (ws : List Jvm.Cond) (p1 : Int32) (q1 q2 q3 q4 q5 : Int64) (h0 : Heap) (n0 : Nat) (Z0 : n0 ≤ h0.size) :
    MetFree l (⟨"com/example/dilate_query/dilatequery/collection/PostIdsAddPinLaw", "pick", "(IJJJJJ)J"⟩ : MethodName) (head1 (Jvm.Cond.code (⟨"com/example/dilate_query/dilatequery/collection/PostIdsAddPinLaw", "pick", "(IJJJJJ)J"⟩ : MethodName) method_3_code 11 (some .long) :: ws) ({ frames := 0, cells := 0, slots := 0, locals := 0 } : Room)) (fun a U => a = #[(.int p1), (.long q1), (.long q2), (.long q3), (.long q4), (.long q5)] ∧ Z.Warmed39 U.vm ∧ U.heap = h0) (fun _ _ _ _ _ => True) (fun _ U o U' => ∃ v L, o = .returned v ∧ Q2 Z p1 q1 q2 q3 q4 q5 h0 n0 v U'.heap L ∧ FrameEnd U o U' L ({ frames := 0, cells := 0, slots := 0, locals := 0 } : Room).cells ({ frames := 0, cells := 0, slots := 0, locals := 0 } : Room).slots) := by
  refine MetFree.of_bodySF (plainFor_of_name pn_PostIdsAddPinLaw) hisR ?_
  intro p e s m args below meth c s₁ Bd hml0 hP hK
  obtain ⟨rfl, hZ, hh⟩ := hP
  have hx := Bd.exec
  have hby := Bd.bytes
  have hml : c.maxLocals = 11 := hml0
  have hown : s.vm.findClass "com/example/dilate_query/dilatequery/collection/PostIdsAddPinLaw" = some m.cls := findClass_of_methodNamed Bd.named
  have hnm := (name_of_methodNamed Bd.named Bd.method).1
  have X0 : Stand p l e ({ frames := 0, cells := 0, slots := 0, locals := 0 } : Room) s m #[(.int p1), (.long q1), (.long q2), (.long q3), (.long q4), (.long q5)] below meth c s₁ [] 0 0 := Stand.of_body Bd
  have e0 : s₁.heap = h0 := by rw [← hh, Bd.state]; rfl
  have N0 := Fr.nil n0
  have pre0 : ∀ t, Steps p.tables e below (s₁.setTop (mkF m 0 #[.val (.int p1), .val (.long q1), .second, .val (.long q2), .second, .val (.long q3), .second, .val (.long q4), .second, .val (.long q5), .second] [])) t → Steps p.tables e below (s₁.setTop (entryFrame m #[(.int p1), (.long q1), (.long q2), (.long q3), (.long q4), (.long q5)] 11)) t := fun t k => castTop (ef_2 m p1 q1 q2 q3 q4 q5) k
  rcases own_pk p1 with k0 | ⟨k0, k1⟩ | ⟨k0, k1, k2⟩ | ⟨k0, k1, k2, k3⟩ | ⟨k0, k1, k2, k3⟩
  · obtain ⟨fs, hr, hrun, hended, hW, hsame⟩ := X0.leave (v := some (.long q1)) (fun h => by rw [Bd.returns] at h; cases h)
    refine ⟨_, _, pre0 _ ?_, hrun, hended, _, _, rfl, ?_, ⟨_, rfl⟩, hW, hsame.mono (by decide) (by decide)⟩
    · show Steps p.tables e below (s₁.setTop (mkF m 0 #[.val (.int p1), .val (.long q1), .second, .val (.long q2), .second, .val (.long q3), .second, .val (.long q4), .second, .val (.long q5), .second] [])) _
      refine XS.iloadN X0.here hx rfl (hb hby d2_0) rfl ?_
      show Steps p.tables e below (s₁.setTop (mkF m 1 #[.val (.int p1), .val (.long q1), .second, .val (.long q2), .second, .val (.long q3), .second, .val (.long q4), .second, .val (.long q5), .second] [(.int p1)])) _
      refine XS.ifNo X0.here hx rfl (hb hby d2_1) rfl ((if0 _ _).trans (teq k0).2) ?_
      show Steps p.tables e below (s₁.setTop (mkF m 4 #[.val (.int p1), .val (.long q1), .second, .val (.long q2), .second, .val (.long q3), .second, .val (.long q4), .second, .val (.long q5), .second] [])) _
      refine XS.lloadN X0.here hx rfl (hb hby d2_4) rfl ?_
      show Steps p.tables e below (s₁.setTop (mkF m 5 #[.val (.int p1), .val (.long q1), .second, .val (.long q2), .second, .val (.long q3), .second, .val (.long q4), .second, .val (.long q5), .second] [(.long q1)])) _
      exact X0.lreturnOut hx Bd.returns (hb hby d2_5) hr
    · show Q2 Z p1 q1 q2 q3 q4 q5 h0 n0 _ s₁.heap _
      rw [e0]
      exact ⟨⟨_, rfl, by simp⟩, N0, rfl⟩
  · obtain ⟨fs, hr, hrun, hended, hW, hsame⟩ := X0.leave (v := some (.long q2)) (fun h => by rw [Bd.returns] at h; cases h)
    refine ⟨_, _, pre0 _ ?_, hrun, hended, _, _, rfl, ?_, ⟨_, rfl⟩, hW, hsame.mono (by decide) (by decide)⟩
    · show Steps p.tables e below (s₁.setTop (mkF m 0 #[.val (.int p1), .val (.long q1), .second, .val (.long q2), .second, .val (.long q3), .second, .val (.long q4), .second, .val (.long q5), .second] [])) _
      refine XS.iloadN X0.here hx rfl (hb hby d2_0) rfl ?_
      show Steps p.tables e below (s₁.setTop (mkF m 1 #[.val (.int p1), .val (.long q1), .second, .val (.long q2), .second, .val (.long q3), .second, .val (.long q4), .second, .val (.long q5), .second] [(.int p1)])) _
      refine XS.ifYes X0.here hx rfl (pc0 := 1) (pc' := 6) rfl (hb hby d2_1) rfl ((if0 _ _).trans (feq k0).2) (by decide) (by decide) ?_
      show Steps p.tables e below (s₁.setTop (mkF m 6 #[.val (.int p1), .val (.long q1), .second, .val (.long q2), .second, .val (.long q3), .second, .val (.long q4), .second, .val (.long q5), .second] [])) _
      refine XS.iloadN X0.here hx rfl (hb hby d2_6) rfl ?_
      show Steps p.tables e below (s₁.setTop (mkF m 7 #[.val (.int p1), .val (.long q1), .second, .val (.long q2), .second, .val (.long q3), .second, .val (.long q4), .second, .val (.long q5), .second] [(.int p1)])) _
      refine XS.iconst X0.here hx rfl (hb hby d2_7) ?_
      show Steps p.tables e below (s₁.setTop (mkF m 8 #[.val (.int p1), .val (.long q1), .second, .val (.long q2), .second, .val (.long q3), .second, .val (.long q4), .second, .val (.long q5), .second] [(.int (1 : Int32)), (.int p1)])) _
      refine XS.icmpNo X0.here hx rfl (hb hby d2_8) rfl (teq k1).2 ?_
      show Steps p.tables e below (s₁.setTop (mkF m 11 #[.val (.int p1), .val (.long q1), .second, .val (.long q2), .second, .val (.long q3), .second, .val (.long q4), .second, .val (.long q5), .second] [])) _
      refine XS.lloadN X0.here hx rfl (hb hby d2_11) rfl ?_
      show Steps p.tables e below (s₁.setTop (mkF m 12 #[.val (.int p1), .val (.long q1), .second, .val (.long q2), .second, .val (.long q3), .second, .val (.long q4), .second, .val (.long q5), .second] [(.long q2)])) _
      exact X0.lreturnOut hx Bd.returns (hb hby d2_12) hr
    · show Q2 Z p1 q1 q2 q3 q4 q5 h0 n0 _ s₁.heap _
      rw [e0]
      exact ⟨⟨_, rfl, by simp⟩, N0, rfl⟩
  · obtain ⟨fs, hr, hrun, hended, hW, hsame⟩ := X0.leave (v := some (.long q3)) (fun h => by rw [Bd.returns] at h; cases h)
    refine ⟨_, _, pre0 _ ?_, hrun, hended, _, _, rfl, ?_, ⟨_, rfl⟩, hW, hsame.mono (by decide) (by decide)⟩
    · show Steps p.tables e below (s₁.setTop (mkF m 0 #[.val (.int p1), .val (.long q1), .second, .val (.long q2), .second, .val (.long q3), .second, .val (.long q4), .second, .val (.long q5), .second] [])) _
      refine XS.iloadN X0.here hx rfl (hb hby d2_0) rfl ?_
      show Steps p.tables e below (s₁.setTop (mkF m 1 #[.val (.int p1), .val (.long q1), .second, .val (.long q2), .second, .val (.long q3), .second, .val (.long q4), .second, .val (.long q5), .second] [(.int p1)])) _
      refine XS.ifYes X0.here hx rfl (pc0 := 1) (pc' := 6) rfl (hb hby d2_1) rfl ((if0 _ _).trans (feq k0).2) (by decide) (by decide) ?_
      show Steps p.tables e below (s₁.setTop (mkF m 6 #[.val (.int p1), .val (.long q1), .second, .val (.long q2), .second, .val (.long q3), .second, .val (.long q4), .second, .val (.long q5), .second] [])) _
      refine XS.iloadN X0.here hx rfl (hb hby d2_6) rfl ?_
      show Steps p.tables e below (s₁.setTop (mkF m 7 #[.val (.int p1), .val (.long q1), .second, .val (.long q2), .second, .val (.long q3), .second, .val (.long q4), .second, .val (.long q5), .second] [(.int p1)])) _
      refine XS.iconst X0.here hx rfl (hb hby d2_7) ?_
      show Steps p.tables e below (s₁.setTop (mkF m 8 #[.val (.int p1), .val (.long q1), .second, .val (.long q2), .second, .val (.long q3), .second, .val (.long q4), .second, .val (.long q5), .second] [(.int (1 : Int32)), (.int p1)])) _
      refine XS.icmpYes X0.here hx rfl (pc0 := 8) (pc' := 13) rfl (hb hby d2_8) rfl (feq k1).2 (by decide) (by decide) ?_
      show Steps p.tables e below (s₁.setTop (mkF m 13 #[.val (.int p1), .val (.long q1), .second, .val (.long q2), .second, .val (.long q3), .second, .val (.long q4), .second, .val (.long q5), .second] [])) _
      refine XS.iloadN X0.here hx rfl (hb hby d2_13) rfl ?_
      show Steps p.tables e below (s₁.setTop (mkF m 14 #[.val (.int p1), .val (.long q1), .second, .val (.long q2), .second, .val (.long q3), .second, .val (.long q4), .second, .val (.long q5), .second] [(.int p1)])) _
      refine XS.iconst X0.here hx rfl (hb hby d2_14) ?_
      show Steps p.tables e below (s₁.setTop (mkF m 15 #[.val (.int p1), .val (.long q1), .second, .val (.long q2), .second, .val (.long q3), .second, .val (.long q4), .second, .val (.long q5), .second] [(.int (2 : Int32)), (.int p1)])) _
      refine XS.icmpNo X0.here hx rfl (hb hby d2_15) rfl (teq k2).2 ?_
      show Steps p.tables e below (s₁.setTop (mkF m 18 #[.val (.int p1), .val (.long q1), .second, .val (.long q2), .second, .val (.long q3), .second, .val (.long q4), .second, .val (.long q5), .second] [])) _
      refine XS.lload X0.here hx rfl (hb hby d2_18) rfl ?_
      show Steps p.tables e below (s₁.setTop (mkF m 20 #[.val (.int p1), .val (.long q1), .second, .val (.long q2), .second, .val (.long q3), .second, .val (.long q4), .second, .val (.long q5), .second] [(.long q3)])) _
      exact X0.lreturnOut hx Bd.returns (hb hby d2_20) hr
    · show Q2 Z p1 q1 q2 q3 q4 q5 h0 n0 _ s₁.heap _
      rw [e0]
      exact ⟨⟨_, rfl, by simp⟩, N0, rfl⟩
  · obtain ⟨fs, hr, hrun, hended, hW, hsame⟩ := X0.leave (v := some (.long q4)) (fun h => by rw [Bd.returns] at h; cases h)
    refine ⟨_, _, pre0 _ ?_, hrun, hended, _, _, rfl, ?_, ⟨_, rfl⟩, hW, hsame.mono (by decide) (by decide)⟩
    · show Steps p.tables e below (s₁.setTop (mkF m 0 #[.val (.int p1), .val (.long q1), .second, .val (.long q2), .second, .val (.long q3), .second, .val (.long q4), .second, .val (.long q5), .second] [])) _
      refine XS.iloadN X0.here hx rfl (hb hby d2_0) rfl ?_
      show Steps p.tables e below (s₁.setTop (mkF m 1 #[.val (.int p1), .val (.long q1), .second, .val (.long q2), .second, .val (.long q3), .second, .val (.long q4), .second, .val (.long q5), .second] [(.int p1)])) _
      refine XS.ifYes X0.here hx rfl (pc0 := 1) (pc' := 6) rfl (hb hby d2_1) rfl ((if0 _ _).trans (feq k0).2) (by decide) (by decide) ?_
      show Steps p.tables e below (s₁.setTop (mkF m 6 #[.val (.int p1), .val (.long q1), .second, .val (.long q2), .second, .val (.long q3), .second, .val (.long q4), .second, .val (.long q5), .second] [])) _
      refine XS.iloadN X0.here hx rfl (hb hby d2_6) rfl ?_
      show Steps p.tables e below (s₁.setTop (mkF m 7 #[.val (.int p1), .val (.long q1), .second, .val (.long q2), .second, .val (.long q3), .second, .val (.long q4), .second, .val (.long q5), .second] [(.int p1)])) _
      refine XS.iconst X0.here hx rfl (hb hby d2_7) ?_
      show Steps p.tables e below (s₁.setTop (mkF m 8 #[.val (.int p1), .val (.long q1), .second, .val (.long q2), .second, .val (.long q3), .second, .val (.long q4), .second, .val (.long q5), .second] [(.int (1 : Int32)), (.int p1)])) _
      refine XS.icmpYes X0.here hx rfl (pc0 := 8) (pc' := 13) rfl (hb hby d2_8) rfl (feq k1).2 (by decide) (by decide) ?_
      show Steps p.tables e below (s₁.setTop (mkF m 13 #[.val (.int p1), .val (.long q1), .second, .val (.long q2), .second, .val (.long q3), .second, .val (.long q4), .second, .val (.long q5), .second] [])) _
      refine XS.iloadN X0.here hx rfl (hb hby d2_13) rfl ?_
      show Steps p.tables e below (s₁.setTop (mkF m 14 #[.val (.int p1), .val (.long q1), .second, .val (.long q2), .second, .val (.long q3), .second, .val (.long q4), .second, .val (.long q5), .second] [(.int p1)])) _
      refine XS.iconst X0.here hx rfl (hb hby d2_14) ?_
      show Steps p.tables e below (s₁.setTop (mkF m 15 #[.val (.int p1), .val (.long q1), .second, .val (.long q2), .second, .val (.long q3), .second, .val (.long q4), .second, .val (.long q5), .second] [(.int (2 : Int32)), (.int p1)])) _
      refine XS.icmpYes X0.here hx rfl (pc0 := 15) (pc' := 21) rfl (hb hby d2_15) rfl (feq k2).2 (by decide) (by decide) ?_
      show Steps p.tables e below (s₁.setTop (mkF m 21 #[.val (.int p1), .val (.long q1), .second, .val (.long q2), .second, .val (.long q3), .second, .val (.long q4), .second, .val (.long q5), .second] [])) _
      refine XS.iloadN X0.here hx rfl (hb hby d2_21) rfl ?_
      show Steps p.tables e below (s₁.setTop (mkF m 22 #[.val (.int p1), .val (.long q1), .second, .val (.long q2), .second, .val (.long q3), .second, .val (.long q4), .second, .val (.long q5), .second] [(.int p1)])) _
      refine XS.iconst X0.here hx rfl (hb hby d2_22) ?_
      show Steps p.tables e below (s₁.setTop (mkF m 23 #[.val (.int p1), .val (.long q1), .second, .val (.long q2), .second, .val (.long q3), .second, .val (.long q4), .second, .val (.long q5), .second] [(.int (3 : Int32)), (.int p1)])) _
      refine XS.icmpNo X0.here hx rfl (hb hby d2_23) rfl (teq k3).2 ?_
      show Steps p.tables e below (s₁.setTop (mkF m 26 #[.val (.int p1), .val (.long q1), .second, .val (.long q2), .second, .val (.long q3), .second, .val (.long q4), .second, .val (.long q5), .second] [])) _
      refine XS.lload X0.here hx rfl (hb hby d2_26) rfl ?_
      show Steps p.tables e below (s₁.setTop (mkF m 28 #[.val (.int p1), .val (.long q1), .second, .val (.long q2), .second, .val (.long q3), .second, .val (.long q4), .second, .val (.long q5), .second] [(.long q4)])) _
      exact X0.lreturnOut hx Bd.returns (hb hby d2_28) hr
    · show Q2 Z p1 q1 q2 q3 q4 q5 h0 n0 _ s₁.heap _
      rw [e0]
      exact ⟨⟨_, rfl, by simp⟩, N0, rfl⟩
  · obtain ⟨fs, hr, hrun, hended, hW, hsame⟩ := X0.leave (v := some (.long q5)) (fun h => by rw [Bd.returns] at h; cases h)
    refine ⟨_, _, pre0 _ ?_, hrun, hended, _, _, rfl, ?_, ⟨_, rfl⟩, hW, hsame.mono (by decide) (by decide)⟩
    · show Steps p.tables e below (s₁.setTop (mkF m 0 #[.val (.int p1), .val (.long q1), .second, .val (.long q2), .second, .val (.long q3), .second, .val (.long q4), .second, .val (.long q5), .second] [])) _
      refine XS.iloadN X0.here hx rfl (hb hby d2_0) rfl ?_
      show Steps p.tables e below (s₁.setTop (mkF m 1 #[.val (.int p1), .val (.long q1), .second, .val (.long q2), .second, .val (.long q3), .second, .val (.long q4), .second, .val (.long q5), .second] [(.int p1)])) _
      refine XS.ifYes X0.here hx rfl (pc0 := 1) (pc' := 6) rfl (hb hby d2_1) rfl ((if0 _ _).trans (feq k0).2) (by decide) (by decide) ?_
      show Steps p.tables e below (s₁.setTop (mkF m 6 #[.val (.int p1), .val (.long q1), .second, .val (.long q2), .second, .val (.long q3), .second, .val (.long q4), .second, .val (.long q5), .second] [])) _
      refine XS.iloadN X0.here hx rfl (hb hby d2_6) rfl ?_
      show Steps p.tables e below (s₁.setTop (mkF m 7 #[.val (.int p1), .val (.long q1), .second, .val (.long q2), .second, .val (.long q3), .second, .val (.long q4), .second, .val (.long q5), .second] [(.int p1)])) _
      refine XS.iconst X0.here hx rfl (hb hby d2_7) ?_
      show Steps p.tables e below (s₁.setTop (mkF m 8 #[.val (.int p1), .val (.long q1), .second, .val (.long q2), .second, .val (.long q3), .second, .val (.long q4), .second, .val (.long q5), .second] [(.int (1 : Int32)), (.int p1)])) _
      refine XS.icmpYes X0.here hx rfl (pc0 := 8) (pc' := 13) rfl (hb hby d2_8) rfl (feq k1).2 (by decide) (by decide) ?_
      show Steps p.tables e below (s₁.setTop (mkF m 13 #[.val (.int p1), .val (.long q1), .second, .val (.long q2), .second, .val (.long q3), .second, .val (.long q4), .second, .val (.long q5), .second] [])) _
      refine XS.iloadN X0.here hx rfl (hb hby d2_13) rfl ?_
      show Steps p.tables e below (s₁.setTop (mkF m 14 #[.val (.int p1), .val (.long q1), .second, .val (.long q2), .second, .val (.long q3), .second, .val (.long q4), .second, .val (.long q5), .second] [(.int p1)])) _
      refine XS.iconst X0.here hx rfl (hb hby d2_14) ?_
      show Steps p.tables e below (s₁.setTop (mkF m 15 #[.val (.int p1), .val (.long q1), .second, .val (.long q2), .second, .val (.long q3), .second, .val (.long q4), .second, .val (.long q5), .second] [(.int (2 : Int32)), (.int p1)])) _
      refine XS.icmpYes X0.here hx rfl (pc0 := 15) (pc' := 21) rfl (hb hby d2_15) rfl (feq k2).2 (by decide) (by decide) ?_
      show Steps p.tables e below (s₁.setTop (mkF m 21 #[.val (.int p1), .val (.long q1), .second, .val (.long q2), .second, .val (.long q3), .second, .val (.long q4), .second, .val (.long q5), .second] [])) _
      refine XS.iloadN X0.here hx rfl (hb hby d2_21) rfl ?_
      show Steps p.tables e below (s₁.setTop (mkF m 22 #[.val (.int p1), .val (.long q1), .second, .val (.long q2), .second, .val (.long q3), .second, .val (.long q4), .second, .val (.long q5), .second] [(.int p1)])) _
      refine XS.iconst X0.here hx rfl (hb hby d2_22) ?_
      show Steps p.tables e below (s₁.setTop (mkF m 23 #[.val (.int p1), .val (.long q1), .second, .val (.long q2), .second, .val (.long q3), .second, .val (.long q4), .second, .val (.long q5), .second] [(.int (3 : Int32)), (.int p1)])) _
      refine XS.icmpYes X0.here hx rfl (pc0 := 23) (pc' := 29) rfl (hb hby d2_23) rfl (feq k3).2 (by decide) (by decide) ?_
      show Steps p.tables e below (s₁.setTop (mkF m 29 #[.val (.int p1), .val (.long q1), .second, .val (.long q2), .second, .val (.long q3), .second, .val (.long q4), .second, .val (.long q5), .second] [])) _
      refine XS.lload X0.here hx rfl (hb hby d2_29) rfl ?_
      show Steps p.tables e below (s₁.setTop (mkF m 31 #[.val (.int p1), .val (.long q1), .second, .val (.long q2), .second, .val (.long q3), .second, .val (.long q4), .second, .val (.long q5), .second] [(.long q5)])) _
      exact X0.lreturnOut hx Bd.returns (hb hby d2_31) hr
    · show Q2 Z p1 q1 q2 q3 q4 q5 h0 n0 _ s₁.heap _
      rw [e0]
      exact ⟨⟨_, rfl, by simp⟩, N0, rfl⟩
def own_PS (Z : State) (h : Heap) (n0 : Nat) (a1 b1 t1 k1 : Addr) (kb kk : ClassId) (asc : List Int64) (T : Nat → Int64) (n1 tc : Int32) (lg : Int64) : Prop := Exa Z h a1 "com/example/dilate_query/dilatequery/collection/PostIds" ∧ Fld Z h a1 "com/example/dilate_query/dilatequery/collection/PostIds" "blocks" "[[J" (.ref b1) ∧ Fld Z h a1 "com/example/dilate_query/dilatequery/collection/PostIds" "table" "[J" (.ref t1) ∧ Fld Z h a1 "com/example/dilate_query/dilatequery/collection/PostIds" "tableBits" "I" (.int (10 : Int32)) ∧ Fld Z h a1 "com/example/dilate_query/dilatequery/collection/PostIds" "largest" "J" (.long lg) ∧ Fld Z h a1 "com/example/dilate_query/dilatequery/collection/PostIds" "ascendingCount" "I" (.int n1) ∧ Fld Z h a1 "com/example/dilate_query/dilatequery/collection/PostIds" "tableCount" "I" (.int tc) ∧ own_Tb Z h t1 T ∧ Arv Z h b1 kb (.array .long) (1 : Int32) [(.ref k1)] .null ∧ Arv Z h k1 kk .long (16384 : Int32) (asc.map Value.long) (.long (0 : Int64)) ∧ n0 ≤ h.size
def own_Sep (n0 : Nat) (a1 b1 t1 k1 : Addr) : Prop := n0 ≤ a1 ∧ n0 ≤ b1 ∧ n0 ≤ t1 ∧ n0 ≤ k1 ∧ a1 ≠ b1 ∧ a1 ≠ t1 ∧ a1 ≠ k1 ∧ b1 ≠ t1 ∧ b1 ≠ k1 ∧ t1 ≠ k1
theorem d3_0 : decode prog_2_method_1_code 0 = .ok (.aload_n 0, 1) := by decide +kernel
theorem d3_1 : decode prog_2_method_1_code 1 = .ok (.invokespecial 3, 3) := by decide +kernel
theorem d3_4 : decode prog_2_method_1_code 4 = .ok (.aload_n 0, 1) := by decide +kernel
theorem d3_5 : decode prog_2_method_1_code 5 = .ok (.iconst 1, 1) := by decide +kernel
theorem d3_6 : decode prog_2_method_1_code 6 = .ok (.anewarray 9, 3) := by decide +kernel
theorem d3_9 : decode prog_2_method_1_code 9 = .ok (.putfield 11, 3) := by decide +kernel
theorem d3_12 : decode prog_2_method_1_code 12 = .ok (.aload_n 0, 1) := by decide +kernel
theorem d3_13 : decode prog_2_method_1_code 13 = .ok (.sipush 1024, 3) := by decide +kernel
theorem d3_16 : decode prog_2_method_1_code 16 = .ok (.newarray .long, 2) := by decide +kernel
theorem d3_18 : decode prog_2_method_1_code 18 = .ok (.putfield 15, 3) := by decide +kernel
theorem d3_21 : decode prog_2_method_1_code 21 = .ok (.aload_n 0, 1) := by decide +kernel
theorem d3_22 : decode prog_2_method_1_code 22 = .ok (.bipush 10, 2) := by decide +kernel
theorem d3_24 : decode prog_2_method_1_code 24 = .ok (.putfield 18, 3) := by decide +kernel
theorem d3_27 : decode prog_2_method_1_code 27 = .ok (.return_, 1) := by decide +kernel
theorem pn_PostIds : plainName "com/example/dilate_query/dilatequery/collection/PostIds" = true := by first | (simp [plainName, overriddenIn]; done) | decide +kernel
theorem ef_3 (m : MethodId) (x0 : Addr) : entryFrame m #[(.ref x0)] 1 = mkF m 0 #[.val (.ref x0)] [] := by first | (simp [entryFrame, mkF, argsToLocals, Value.category]; done) | rfl
def Q3 (Z : State) (a1 : Addr) (h0 : Heap) (n0 : Nat) (v : Option Value) (h : Heap) (L : List Loc) : Prop := v = none ∧ Fr n0 L ∧ ∃ (b1 t1 : Addr) (kb : ClassId), (Exa Z h a1 "com/example/dilate_query/dilatequery/collection/PostIds" ∧ Fld Z h a1 "com/example/dilate_query/dilatequery/collection/PostIds" "blocks" "[[J" (.ref b1) ∧ Fld Z h a1 "com/example/dilate_query/dilatequery/collection/PostIds" "table" "[J" (.ref t1) ∧ Fld Z h a1 "com/example/dilate_query/dilatequery/collection/PostIds" "tableBits" "I" (.int (10 : Int32)) ∧ Fld Z h a1 "com/example/dilate_query/dilatequery/collection/PostIds" "largest" "J" (.long (0 : Int64)) ∧ Fld Z h a1 "com/example/dilate_query/dilatequery/collection/PostIds" "ascendingCount" "I" (.int (0 : Int32)) ∧ Fld Z h a1 "com/example/dilate_query/dilatequery/collection/PostIds" "tableCount" "I" (.int (0 : Int32)) ∧ own_Tb Z h t1 (fun _ => 0) ∧ Arv Z h b1 kb (.array .long) (1 : Int32) [] .null) ∧ OvrA Z kb .long "[J" ∧ n0 ≤ b1 ∧ n0 ≤ t1 ∧ a1 ≠ b1 ∧ a1 ≠ t1 ∧ b1 ≠ t1 ∧ n0 ≤ h.size
set_option maxRecDepth 65536 in
set_option maxHeartbeats 40000000 in
theorem rm3 (l : Launch) (Z : State) (a0 : Array Value) (hw : ∀ d ∈ tables_1, d.before a0 Z = true) (ws : List Jvm.Cond) (a1 : Addr) (h0 : Heap) (n0 : Nat) (Z0 : n0 ≤ h0.size) (E_a : Exa Z h0 a1 "com/example/dilate_query/dilatequery/collection/PostIds") (F_bl : Fld Z h0 a1 "com/example/dilate_query/dilatequery/collection/PostIds" "blocks" "[[J" .null) (F_tb : Fld Z h0 a1 "com/example/dilate_query/dilatequery/collection/PostIds" "table" "[J" .null) (F_bits : Fld Z h0 a1 "com/example/dilate_query/dilatequery/collection/PostIds" "tableBits" "I" (.int (0 : Int32))) (F_lg : Fld Z h0 a1 "com/example/dilate_query/dilatequery/collection/PostIds" "largest" "J" (.long (0 : Int64))) (F_n : Fld Z h0 a1 "com/example/dilate_query/dilatequery/collection/PostIds" "ascendingCount" "I" (.int (0 : Int32))) (F_tc : Fld Z h0 a1 "com/example/dilate_query/dilatequery/collection/PostIds" "tableCount" "I" (.int (0 : Int32))) (g_a : n0 ≤ a1) :
    MetFree l (⟨"com/example/dilate_query/dilatequery/collection/PostIds", "<init>", "()V"⟩ : MethodName) (head1 (Jvm.Cond.code (⟨"com/example/dilate_query/dilatequery/collection/PostIds", "<init>", "()V"⟩ : MethodName) prog_2_method_1_code 1 none :: ws) ({ frames := 1, cells := 2, slots := 1025, locals := 12 } : Room)) (fun a U => a = #[(.ref a1)] ∧ Z.Warmed39 U.vm ∧ U.heap = h0) (fun _ _ _ _ _ => True) (fun _ U o U' => ∃ v L, o = .returned v ∧ Q3 Z a1 h0 n0 v U'.heap L ∧ FrameEnd U o U' L ({ frames := 1, cells := 2, slots := 1025, locals := 12 } : Room).cells ({ frames := 1, cells := 2, slots := 1025, locals := 12 } : Room).slots) := by
  refine MetFree.of_bodySF (plainFor_of_name pn_PostIds) hisR ?_
  intro p e s m args below meth c s₁ Bd hml0 hP hK
  obtain ⟨rfl, hZ, hh⟩ := hP
  have hx := Bd.exec
  have hby := Bd.bytes
  have hml : c.maxLocals = 1 := hml0
  have hown : s.vm.findClass "com/example/dilate_query/dilatequery/collection/PostIds" = some m.cls := findClass_of_methodNamed Bd.named
  have hnm := (name_of_methodNamed Bd.named Bd.method).1
  have X0 : Stand p l e ({ frames := 1, cells := 2, slots := 1025, locals := 12 } : Room) s m #[(.ref a1)] below meth c s₁ [] 0 0 := Stand.of_body Bd
  have e0 : s₁.heap = h0 := by rw [← hh, Bd.state]; rfl
  have N0 := Fr.nil n0
  have pre0 : ∀ t, Steps p.tables e below (s₁.setTop (mkF m 0 #[.val (.ref a1)] [])) t → Steps p.tables e below (s₁.setTop (entryFrame m #[(.ref a1)] 1)) t := fun t k => castTop (ef_3 m a1) k
  obtain ⟨T1, X1, e1, st1⟩ := initO X0 hx hZ hown (hw _ (List.mem_of_getElem? (i := 15) rfl)) (hw _ (List.mem_of_getElem? (i := 16) rfl)) (hw _ (List.mem_of_getElem? (i := 17) rfl)) e0 (g := (mkF m 1 #[.val (.ref a1)] [(.ref a1)])) rfl (by rw [hml]; rfl) rfl (hb hby d3_1) (by decide) (W := 0) (by show 2 * 0 + _ ≤ _; exact Nat.le_of_eq rfl) (by decide)
  obtain ⟨T2, h2, k2, X2, e2, E2, A2, Y2, O2, st2⟩ := newRA X1 hx hZ hown (ty := .long) rfl (hw _ (List.mem_of_getElem? (i := 18) rfl)) (hw _ (List.mem_of_getElem? (i := 19) rfl)) e1 (g := (mkF m 6 #[.val (.ref a1)] [(.int (1 : Int32)), (.ref a1)])) rfl (hb hby d3_6) rfl (by decide) (cap := 1) (by decide) (by decide) (by decide) (by decide) rfl
  obtain ⟨b2, g2⟩ : ∃ z, z = h0.size := ⟨_, rfl⟩
  rw [← g2] at A2 st2 Y2
  have fr_b2 : n0 ≤ b2 := Nat.le_trans Z0 (Nat.le_of_eq g2.symm)
  have ne_a1_b2 : a1 ≠ b2 := Nat.ne_of_lt (Nat.lt_of_lt_of_le E_a.lt (Nat.le_of_eq g2.symm))
  have f2_6 : Exa Z h2 a1 "com/example/dilate_query/dilatequery/collection/PostIds" := E_a.ext E2
  have f2_7 : Fld Z h2 a1 "com/example/dilate_query/dilatequery/collection/PostIds" "blocks" "[[J" .null := F_bl.ext E2
  have f2_8 : Fld Z h2 a1 "com/example/dilate_query/dilatequery/collection/PostIds" "table" "[J" .null := F_tb.ext E2
  have f2_9 : Fld Z h2 a1 "com/example/dilate_query/dilatequery/collection/PostIds" "tableBits" "I" (.int (0 : Int32)) := F_bits.ext E2
  have f2_10 : Fld Z h2 a1 "com/example/dilate_query/dilatequery/collection/PostIds" "largest" "J" (.long (0 : Int64)) := F_lg.ext E2
  have f2_11 : Fld Z h2 a1 "com/example/dilate_query/dilatequery/collection/PostIds" "ascendingCount" "I" (.int (0 : Int32)) := F_n.ext E2
  have f2_12 : Fld Z h2 a1 "com/example/dilate_query/dilatequery/collection/PostIds" "tableCount" "I" (.int (0 : Int32)) := F_tc.ext E2
  have Z2 : n0 ≤ h2.size := Nat.le_trans Z0 E2.1
  have f2_14 : Exa Z h2 b2 "[[J" := Y2
  have f2_15 : Arv Z h2 b2 k2 (.array .long) (1 : Int32) [] .null := Arv.new A2 (by decide)
  obtain ⟨T3, h3, X3, e3, W3, st3⟩ := putF X2 hx hZ hown (host := "") (Or.inl (hw _ (List.mem_of_getElem? (i := 20) rfl))) Via.refl e2 f2_7 f2_6 (Or.inl (hw _ (List.mem_of_getElem? (i := 21) rfl))) (hw _ (List.mem_of_getElem? (i := 10) rfl)) (ty := (.array (.array .long))) (by decide) rfl rfl (g := (mkF m 9 #[.val (.ref a1)] [(.ref b2), (.ref a1)])) rfl rfl (hb hby d3_9)
  have f3_17 : Exa Z h3 a1 "com/example/dilate_query/dilatequery/collection/PostIds" := f2_6.wr W3
  have f3_18 : Fld Z h3 a1 "com/example/dilate_query/dilatequery/collection/PostIds" "table" "[J" .null := Fld.other W3 f2_8 (Or.inr (slot_ne (Or.inl (hw _ (List.mem_of_getElem? (i := 24) rfl))) (Or.inl (hw _ (List.mem_of_getElem? (i := 21) rfl))) (by decide) (t := (.array .long)) (t' := (.array (.array .long))) (by decide) (by decide)))
  have f3_19 : Fld Z h3 a1 "com/example/dilate_query/dilatequery/collection/PostIds" "tableBits" "I" (.int (0 : Int32)) := Fld.other W3 f2_9 (Or.inr (slot_ne (Or.inl (hw _ (List.mem_of_getElem? (i := 26) rfl))) (Or.inl (hw _ (List.mem_of_getElem? (i := 21) rfl))) (by decide) (t := .int) (t' := (.array (.array .long))) (by decide) (by decide)))
  have f3_20 : Fld Z h3 a1 "com/example/dilate_query/dilatequery/collection/PostIds" "largest" "J" (.long (0 : Int64)) := Fld.other W3 f2_10 (Or.inr (slot_ne (Or.inl (hw _ (List.mem_of_getElem? (i := 33) rfl))) (Or.inl (hw _ (List.mem_of_getElem? (i := 21) rfl))) (by decide) (t := .long) (t' := (.array (.array .long))) (by decide) (by decide)))
  have f3_21 : Fld Z h3 a1 "com/example/dilate_query/dilatequery/collection/PostIds" "ascendingCount" "I" (.int (0 : Int32)) := Fld.other W3 f2_11 (Or.inr (slot_ne (Or.inl (hw _ (List.mem_of_getElem? (i := 39) rfl))) (Or.inl (hw _ (List.mem_of_getElem? (i := 21) rfl))) (by decide) (t := .int) (t' := (.array (.array .long))) (by decide) (by decide)))
  have f3_22 : Fld Z h3 a1 "com/example/dilate_query/dilatequery/collection/PostIds" "tableCount" "I" (.int (0 : Int32)) := Fld.other W3 f2_12 (Or.inr (slot_ne (Or.inl (hw _ (List.mem_of_getElem? (i := 55) rfl))) (Or.inl (hw _ (List.mem_of_getElem? (i := 21) rfl))) (by decide) (t := .int) (t' := (.array (.array .long))) (by decide) (by decide)))
  have f3_23 : Exa Z h3 b2 "[[J" := f2_14.wr W3
  have f3_24 : Arv Z h3 b2 k2 (.array .long) (1 : Int32) [] .null := f2_15.other W3 (Ne.symm ne_a1_b2)
  have Z3 : n0 ≤ h3.size := by rw [W3.size]; exact Z2
  have f3_26 : Fld Z h3 a1 "com/example/dilate_query/dilatequery/collection/PostIds" "blocks" "[[J" (.ref b2) := Fld.same W3 f2_7
  have N3 := Fr.snoc X3 N0 g_a
  obtain ⟨T4, h4, k4, X4, e4, E4, A4, Y4, st4⟩ := newPE X3 hx hZ (hw _ (List.mem_of_getElem? (i := 22) rfl)) e3 (g := (mkF m 16 #[.val (.ref a1)] [(.int (1024 : Int32)), (.ref a1)])) rfl (hb hby d3_16) rfl (by decide) (cap := 1024) (by decide) (by decide) (by decide) (by decide) rfl
  obtain ⟨b4, g4⟩ : ∃ z, z = h3.size := ⟨_, rfl⟩
  rw [← g4] at A4 st4 Y4
  have fr_b4 : n0 ≤ b4 := Nat.le_trans Z3 (Nat.le_of_eq g4.symm)
  have ne_a1_b4 : a1 ≠ b4 := Nat.ne_of_lt (Nat.lt_of_lt_of_le f3_17.lt (Nat.le_of_eq g4.symm))
  have ne_b2_b4 : b2 ≠ b4 := Nat.ne_of_lt (Nat.lt_of_lt_of_le f3_23.lt (Nat.le_of_eq g4.symm))
  have f4_34 : Exa Z h4 a1 "com/example/dilate_query/dilatequery/collection/PostIds" := f3_17.ext E4
  have f4_35 : Fld Z h4 a1 "com/example/dilate_query/dilatequery/collection/PostIds" "blocks" "[[J" (.ref b2) := f3_26.ext E4
  have f4_36 : Fld Z h4 a1 "com/example/dilate_query/dilatequery/collection/PostIds" "table" "[J" .null := f3_18.ext E4
  have f4_37 : Fld Z h4 a1 "com/example/dilate_query/dilatequery/collection/PostIds" "tableBits" "I" (.int (0 : Int32)) := f3_19.ext E4
  have f4_38 : Fld Z h4 a1 "com/example/dilate_query/dilatequery/collection/PostIds" "largest" "J" (.long (0 : Int64)) := f3_20.ext E4
  have f4_39 : Fld Z h4 a1 "com/example/dilate_query/dilatequery/collection/PostIds" "ascendingCount" "I" (.int (0 : Int32)) := f3_21.ext E4
  have f4_40 : Fld Z h4 a1 "com/example/dilate_query/dilatequery/collection/PostIds" "tableCount" "I" (.int (0 : Int32)) := f3_22.ext E4
  have f4_41 : Exa Z h4 b2 "[[J" := f3_23.ext E4
  have f4_42 : Arv Z h4 b2 k2 (.array .long) (1 : Int32) [] .null := f3_24.ext E4
  have Z4 : n0 ≤ h4.size := Nat.le_trans Z3 E4.1
  have f4_44 : Exa Z h4 b4 "[J" := Y4
  have f4_45 : Arv Z h4 b4 k4 .long (1024 : Int32) [] (.long (0 : Int64)) := Arv.new A4 (by decide)
  have f4_46 : own_Tb Z h4 b4 (fun _ => 0) := own_Tb.new A4
  obtain ⟨T5, h5, X5, e5, W5, st5⟩ := putF X4 hx hZ hown (host := "") (Or.inl (hw _ (List.mem_of_getElem? (i := 23) rfl))) Via.refl e4 f4_36 f4_34 (Or.inl (hw _ (List.mem_of_getElem? (i := 24) rfl))) (hw _ (List.mem_of_getElem? (i := 10) rfl)) (ty := (.array .long)) (by decide) rfl rfl (g := (mkF m 18 #[.val (.ref a1)] [(.ref b4), (.ref a1)])) rfl rfl (hb hby d3_18)
  have f5_48 : Exa Z h5 a1 "com/example/dilate_query/dilatequery/collection/PostIds" := f4_34.wr W5
  have f5_49 : Fld Z h5 a1 "com/example/dilate_query/dilatequery/collection/PostIds" "blocks" "[[J" (.ref b2) := Fld.other W5 f4_35 (Or.inr (slot_ne (Or.inl (hw _ (List.mem_of_getElem? (i := 21) rfl))) (Or.inl (hw _ (List.mem_of_getElem? (i := 24) rfl))) (by decide) (t := (.array (.array .long))) (t' := (.array .long)) (by decide) (by decide)))
  have f5_50 : Fld Z h5 a1 "com/example/dilate_query/dilatequery/collection/PostIds" "tableBits" "I" (.int (0 : Int32)) := Fld.other W5 f4_37 (Or.inr (slot_ne (Or.inl (hw _ (List.mem_of_getElem? (i := 26) rfl))) (Or.inl (hw _ (List.mem_of_getElem? (i := 24) rfl))) (by decide) (t := .int) (t' := (.array .long)) (by decide) (by decide)))
  have f5_51 : Fld Z h5 a1 "com/example/dilate_query/dilatequery/collection/PostIds" "largest" "J" (.long (0 : Int64)) := Fld.other W5 f4_38 (Or.inr (slot_ne (Or.inl (hw _ (List.mem_of_getElem? (i := 33) rfl))) (Or.inl (hw _ (List.mem_of_getElem? (i := 24) rfl))) (by decide) (t := .long) (t' := (.array .long)) (by decide) (by decide)))
  have f5_52 : Fld Z h5 a1 "com/example/dilate_query/dilatequery/collection/PostIds" "ascendingCount" "I" (.int (0 : Int32)) := Fld.other W5 f4_39 (Or.inr (slot_ne (Or.inl (hw _ (List.mem_of_getElem? (i := 39) rfl))) (Or.inl (hw _ (List.mem_of_getElem? (i := 24) rfl))) (by decide) (t := .int) (t' := (.array .long)) (by decide) (by decide)))
  have f5_53 : Fld Z h5 a1 "com/example/dilate_query/dilatequery/collection/PostIds" "tableCount" "I" (.int (0 : Int32)) := Fld.other W5 f4_40 (Or.inr (slot_ne (Or.inl (hw _ (List.mem_of_getElem? (i := 55) rfl))) (Or.inl (hw _ (List.mem_of_getElem? (i := 24) rfl))) (by decide) (t := .int) (t' := (.array .long)) (by decide) (by decide)))
  have f5_54 : Exa Z h5 b2 "[[J" := f4_41.wr W5
  have f5_55 : Arv Z h5 b2 k2 (.array .long) (1 : Int32) [] .null := f4_42.other W5 (Ne.symm ne_a1_b2)
  have f5_56 : Exa Z h5 b4 "[J" := f4_44.wr W5
  have f5_57 : own_Tb Z h5 b4 (fun _ => 0) := f4_46.other W5 (Ne.symm ne_a1_b4)
  have Z5 : n0 ≤ h5.size := by rw [W5.size]; exact Z4
  have f5_59 : Fld Z h5 a1 "com/example/dilate_query/dilatequery/collection/PostIds" "table" "[J" (.ref b4) := Fld.same W5 f4_36
  have N5 := Fr.snoc X5 N3 g_a
  obtain ⟨T6, h6, X6, e6, W6, st6⟩ := putF X5 hx hZ hown (host := "") (Or.inl (hw _ (List.mem_of_getElem? (i := 25) rfl))) Via.refl e5 f5_50 f5_48 (Or.inl (hw _ (List.mem_of_getElem? (i := 26) rfl))) (hw _ (List.mem_of_getElem? (i := 10) rfl)) (ty := .int) (by decide) rfl rfl (g := (mkF m 24 #[.val (.ref a1)] [(.int (10 : Int32)), (.ref a1)])) rfl rfl (hb hby d3_24)
  have f6_62 : Exa Z h6 a1 "com/example/dilate_query/dilatequery/collection/PostIds" := f5_48.wr W6
  have f6_63 : Fld Z h6 a1 "com/example/dilate_query/dilatequery/collection/PostIds" "blocks" "[[J" (.ref b2) := Fld.other W6 f5_49 (Or.inr (slot_ne (Or.inl (hw _ (List.mem_of_getElem? (i := 21) rfl))) (Or.inl (hw _ (List.mem_of_getElem? (i := 26) rfl))) (by decide) (t := (.array (.array .long))) (t' := .int) (by decide) (by decide)))
  have f6_64 : Fld Z h6 a1 "com/example/dilate_query/dilatequery/collection/PostIds" "table" "[J" (.ref b4) := Fld.other W6 f5_59 (Or.inr (slot_ne (Or.inl (hw _ (List.mem_of_getElem? (i := 24) rfl))) (Or.inl (hw _ (List.mem_of_getElem? (i := 26) rfl))) (by decide) (t := (.array .long)) (t' := .int) (by decide) (by decide)))
  have f6_65 : Fld Z h6 a1 "com/example/dilate_query/dilatequery/collection/PostIds" "largest" "J" (.long (0 : Int64)) := Fld.other W6 f5_51 (Or.inr (slot_ne (Or.inl (hw _ (List.mem_of_getElem? (i := 33) rfl))) (Or.inl (hw _ (List.mem_of_getElem? (i := 26) rfl))) (by decide) (t := .long) (t' := .int) (by decide) (by decide)))
  have f6_66 : Fld Z h6 a1 "com/example/dilate_query/dilatequery/collection/PostIds" "ascendingCount" "I" (.int (0 : Int32)) := Fld.other W6 f5_52 (Or.inr (slot_ne (Or.inl (hw _ (List.mem_of_getElem? (i := 39) rfl))) (Or.inl (hw _ (List.mem_of_getElem? (i := 26) rfl))) (by decide) (t := .int) (t' := .int) (by decide) (by decide)))
  have f6_67 : Fld Z h6 a1 "com/example/dilate_query/dilatequery/collection/PostIds" "tableCount" "I" (.int (0 : Int32)) := Fld.other W6 f5_53 (Or.inr (slot_ne (Or.inl (hw _ (List.mem_of_getElem? (i := 55) rfl))) (Or.inl (hw _ (List.mem_of_getElem? (i := 26) rfl))) (by decide) (t := .int) (t' := .int) (by decide) (by decide)))
  have f6_68 : Exa Z h6 b2 "[[J" := f5_54.wr W6
  have f6_69 : Arv Z h6 b2 k2 (.array .long) (1 : Int32) [] .null := f5_55.other W6 (Ne.symm ne_a1_b2)
  have f6_70 : Exa Z h6 b4 "[J" := f5_56.wr W6
  have f6_71 : own_Tb Z h6 b4 (fun _ => 0) := f5_57.other W6 (Ne.symm ne_a1_b4)
  have Z6 : n0 ≤ h6.size := by rw [W6.size]; exact Z5
  have f6_73 : Fld Z h6 a1 "com/example/dilate_query/dilatequery/collection/PostIds" "tableBits" "I" (.int (10 : Int32)) := Fld.same W6 f5_50
  have N6 := Fr.snoc X6 N5 g_a
  obtain ⟨fs, hr, hrun, hended, hW, hsame⟩ := X6.leave (v := none) (fun _ => rfl)
  refine ⟨_, _, pre0 _ ?_, hrun, hended, _, _, rfl, ?_, ⟨_, rfl⟩, hW, hsame.mono (by decide) (by decide)⟩
  · show Steps p.tables e below (s₁.setTop (mkF m 0 #[.val (.ref a1)] [])) _
    refine XS.aloadN X0.here hx rfl (hb hby d3_0) rfl rfl ?_
    show Steps p.tables e below (s₁.setTop (mkF m 1 #[.val (.ref a1)] [(.ref a1)])) _
    refine st1 _ ?_
    show Steps p.tables e below (T1.setTop (mkF m 4 #[.val (.ref a1)] [])) _
    refine XS.aloadN X1.here hx rfl (hb hby d3_4) rfl rfl ?_
    show Steps p.tables e below (T1.setTop (mkF m 5 #[.val (.ref a1)] [(.ref a1)])) _
    refine XS.iconst X1.here hx rfl (hb hby d3_5) ?_
    show Steps p.tables e below (T1.setTop (mkF m 6 #[.val (.ref a1)] [(.int (1 : Int32)), (.ref a1)])) _
    refine st2 _ ?_
    show Steps p.tables e below (T2.setTop (mkF m 9 #[.val (.ref a1)] [(.ref b2), (.ref a1)])) _
    refine st3 _ ?_
    show Steps p.tables e below (T3.setTop (mkF m 12 #[.val (.ref a1)] [])) _
    refine XS.aloadN X3.here hx rfl (hb hby d3_12) rfl rfl ?_
    show Steps p.tables e below (T3.setTop (mkF m 13 #[.val (.ref a1)] [(.ref a1)])) _
    refine XS.sipush X3.here hx rfl (hb hby d3_13) ?_
    show Steps p.tables e below (T3.setTop (mkF m 16 #[.val (.ref a1)] [(.int (1024 : Int32)), (.ref a1)])) _
    refine st4 _ ?_
    show Steps p.tables e below (T4.setTop (mkF m 18 #[.val (.ref a1)] [(.ref b4), (.ref a1)])) _
    refine st5 _ ?_
    show Steps p.tables e below (T5.setTop (mkF m 21 #[.val (.ref a1)] [])) _
    refine XS.aloadN X5.here hx rfl (hb hby d3_21) rfl rfl ?_
    show Steps p.tables e below (T5.setTop (mkF m 22 #[.val (.ref a1)] [(.ref a1)])) _
    refine XS.bipush X5.here hx rfl (hb hby d3_22) ?_
    show Steps p.tables e below (T5.setTop (mkF m 24 #[.val (.ref a1)] [(.int (10 : Int32)), (.ref a1)])) _
    refine st6 _ ?_
    show Steps p.tables e below (T6.setTop (mkF m 27 #[.val (.ref a1)] [])) _
    exact X6.returnOut hx Bd.returns (hb hby d3_27) hr
  · show Q3 Z a1 h0 n0 _ T6.heap _
    rw [e6]
    exact ⟨rfl, N6, b2, b4, k2, ⟨f6_62, f6_63, f6_64, f6_73, f6_65, f6_66, f6_67, f6_71, f6_69⟩, O2, fr_b2, fr_b4, ne_a1_b2, ne_a1_b4, ne_b2_b4, Z6⟩
theorem d6_0 : decode prog_2_method_3_code 0 = .ok (.aload_n 0, 1) := by decide +kernel
theorem d6_1 : decode prog_2_method_3_code 1 = .ok (.getfield 37, 3) := by decide +kernel
theorem d6_4 : decode prog_2_method_3_code 4 = .ok (.bipush 14, 2) := by decide +kernel
theorem d6_6 : decode prog_2_method_3_code 6 = .ok (.iushr, 1) := by decide +kernel
theorem d6_7 : decode prog_2_method_3_code 7 = .ok (.istore_n 3, 1) := by decide +kernel
theorem d6_8 : decode prog_2_method_3_code 8 = .ok (.iload_n 3, 1) := by decide +kernel
theorem d6_9 : decode prog_2_method_3_code 9 = .ok (.aload_n 0, 1) := by decide +kernel
theorem d6_10 : decode prog_2_method_3_code 10 = .ok (.getfield 11, 3) := by decide +kernel
theorem d6_13 : decode prog_2_method_3_code 13 = .ok (.arraylength, 1) := by decide +kernel
theorem d6_14 : decode prog_2_method_3_code 14 = .ok (.if_icmp .ne 24, 3) := by decide +kernel
theorem d6_17 : decode prog_2_method_3_code 17 = .ok (.aload_n 0, 1) := by decide +kernel
theorem d6_18 : decode prog_2_method_3_code 18 = .ok (.aload_n 0, 1) := by decide +kernel
theorem d6_19 : decode prog_2_method_3_code 19 = .ok (.getfield 11, 3) := by decide +kernel
theorem d6_22 : decode prog_2_method_3_code 22 = .ok (.aload_n 0, 1) := by decide +kernel
theorem d6_23 : decode prog_2_method_3_code 23 = .ok (.getfield 11, 3) := by decide +kernel
theorem d6_26 : decode prog_2_method_3_code 26 = .ok (.arraylength, 1) := by decide +kernel
theorem d6_27 : decode prog_2_method_3_code 27 = .ok (.iconst 2, 1) := by decide +kernel
theorem d6_28 : decode prog_2_method_3_code 28 = .ok (.imul, 1) := by decide +kernel
theorem d6_29 : decode prog_2_method_3_code 29 = .ok (.invokestatic 40, 3) := by decide +kernel
theorem d6_32 : decode prog_2_method_3_code 32 = .ok (.checkcast 46, 3) := by decide +kernel
theorem d6_35 : decode prog_2_method_3_code 35 = .ok (.putfield 11, 3) := by decide +kernel
theorem d6_38 : decode prog_2_method_3_code 38 = .ok (.aload_n 0, 1) := by decide +kernel
theorem d6_39 : decode prog_2_method_3_code 39 = .ok (.getfield 11, 3) := by decide +kernel
theorem d6_42 : decode prog_2_method_3_code 42 = .ok (.iload_n 3, 1) := by decide +kernel
theorem d6_43 : decode prog_2_method_3_code 43 = .ok (.aaload, 1) := by decide +kernel
theorem d6_44 : decode prog_2_method_3_code 44 = .ok (.ifnonnull 14, 3) := by decide +kernel
theorem d6_47 : decode prog_2_method_3_code 47 = .ok (.aload_n 0, 1) := by decide +kernel
theorem d6_48 : decode prog_2_method_3_code 48 = .ok (.getfield 11, 3) := by decide +kernel
theorem d6_51 : decode prog_2_method_3_code 51 = .ok (.iload_n 3, 1) := by decide +kernel
theorem d6_52 : decode prog_2_method_3_code 52 = .ok (.sipush 16384, 3) := by decide +kernel
theorem d6_55 : decode prog_2_method_3_code 55 = .ok (.newarray .long, 2) := by decide +kernel
theorem d6_57 : decode prog_2_method_3_code 57 = .ok (.aastore, 1) := by decide +kernel
theorem d6_58 : decode prog_2_method_3_code 58 = .ok (.aload_n 0, 1) := by decide +kernel
theorem d6_59 : decode prog_2_method_3_code 59 = .ok (.getfield 11, 3) := by decide +kernel
theorem d6_62 : decode prog_2_method_3_code 62 = .ok (.iload_n 3, 1) := by decide +kernel
theorem d6_63 : decode prog_2_method_3_code 63 = .ok (.aaload, 1) := by decide +kernel
theorem d6_64 : decode prog_2_method_3_code 64 = .ok (.aload_n 0, 1) := by decide +kernel
theorem d6_65 : decode prog_2_method_3_code 65 = .ok (.getfield 37, 3) := by decide +kernel
theorem d6_68 : decode prog_2_method_3_code 68 = .ok (.sipush 16383, 3) := by decide +kernel
theorem d6_71 : decode prog_2_method_3_code 71 = .ok (.iand, 1) := by decide +kernel
theorem d6_72 : decode prog_2_method_3_code 72 = .ok (.lload_n 1, 1) := by decide +kernel
theorem d6_73 : decode prog_2_method_3_code 73 = .ok (.lastore, 1) := by decide +kernel
theorem d6_74 : decode prog_2_method_3_code 74 = .ok (.aload_n 0, 1) := by decide +kernel
theorem d6_75 : decode prog_2_method_3_code 75 = .ok (.dup, 1) := by decide +kernel
theorem d6_76 : decode prog_2_method_3_code 76 = .ok (.getfield 37, 3) := by decide +kernel
theorem d6_79 : decode prog_2_method_3_code 79 = .ok (.iconst 1, 1) := by decide +kernel
theorem d6_80 : decode prog_2_method_3_code 80 = .ok (.iadd, 1) := by decide +kernel
theorem d6_81 : decode prog_2_method_3_code 81 = .ok (.putfield 37, 3) := by decide +kernel
theorem d6_84 : decode prog_2_method_3_code 84 = .ok (.aload_n 0, 1) := by decide +kernel
theorem d6_85 : decode prog_2_method_3_code 85 = .ok (.lload_n 1, 1) := by decide +kernel
theorem d6_86 : decode prog_2_method_3_code 86 = .ok (.putfield 22, 3) := by decide +kernel
theorem d6_89 : decode prog_2_method_3_code 89 = .ok (.return_, 1) := by decide +kernel
theorem ef_6 (m : MethodId) (x0 : Addr) (x1 : Int64) : entryFrame m #[(.ref x0), (.long x1)] 4 = mkF m 0 #[.val (.ref x0), .val (.long x1), .second, .unset] [] := by first | (simp [entryFrame, mkF, argsToLocals, Value.category]; done) | rfl
def Q6_0 (Z : State) (a1 : Addr) (q1 : Int64) (b1 t1 : Addr) (kb : ClassId) (h0 : Heap) (n0 : Nat) (v : Option Value) (h : Heap) (L : List Loc) : Prop := v = none ∧ Fr n0 L ∧ ∃ (k1 : Addr) (kk : ClassId), own_PS Z h n0 a1 b1 t1 k1 kb kk [q1] (fun _ => 0) (1 : Int32) (0 : Int32) q1 ∧ own_Sep n0 a1 b1 t1 k1
set_option maxRecDepth 65536 in
set_option maxHeartbeats 40000000 in
theorem rm6_0 (l : Launch) (Z : State) (a0 : Array Value) (hw : ∀ d ∈ tables_1, d.before a0 Z = true) (ws : List Jvm.Cond) (a1 : Addr) (q1 : Int64) (b1 t1 : Addr) (kb : ClassId) (h0 : Heap) (n0 : Nat) (Z0 : n0 ≤ h0.size) (I0 : Exa Z h0 a1 "com/example/dilate_query/dilatequery/collection/PostIds" ∧ Fld Z h0 a1 "com/example/dilate_query/dilatequery/collection/PostIds" "blocks" "[[J" (.ref b1) ∧ Fld Z h0 a1 "com/example/dilate_query/dilatequery/collection/PostIds" "table" "[J" (.ref t1) ∧ Fld Z h0 a1 "com/example/dilate_query/dilatequery/collection/PostIds" "tableBits" "I" (.int (10 : Int32)) ∧ Fld Z h0 a1 "com/example/dilate_query/dilatequery/collection/PostIds" "largest" "J" (.long (0 : Int64)) ∧ Fld Z h0 a1 "com/example/dilate_query/dilatequery/collection/PostIds" "ascendingCount" "I" (.int (0 : Int32)) ∧ Fld Z h0 a1 "com/example/dilate_query/dilatequery/collection/PostIds" "tableCount" "I" (.int (0 : Int32)) ∧ own_Tb Z h0 t1 (fun _ => 0) ∧ Arv Z h0 b1 kb (.array .long) (1 : Int32) [] .null) (O_b : OvrA Z kb .long "[J") (g_a : n0 ≤ a1) (g_b : n0 ≤ b1) (g_t : n0 ≤ t1) (n_ab : a1 ≠ b1) (n_at : a1 ≠ t1) (n_bt : b1 ≠ t1) :
    MetFree l (⟨"com/example/dilate_query/dilatequery/collection/PostIds", "append", "(J)V"⟩ : MethodName) (head1 (Jvm.Cond.code (⟨"com/example/dilate_query/dilatequery/collection/PostIds", "append", "(J)V"⟩ : MethodName) prog_2_method_3_code 4 none :: ws) ({ frames := 0, cells := 1, slots := 16384, locals := 0 } : Room)) (fun a U => a = #[(.ref a1), (.long q1)] ∧ Z.Warmed39 U.vm ∧ U.heap = h0) (fun _ _ _ _ _ => True) (fun _ U o U' => ∃ v L, o = .returned v ∧ Q6_0 Z a1 q1 b1 t1 kb h0 n0 v U'.heap L ∧ FrameEnd U o U' L ({ frames := 0, cells := 1, slots := 16384, locals := 0 } : Room).cells ({ frames := 0, cells := 1, slots := 16384, locals := 0 } : Room).slots) := by
  refine MetFree.of_bodySF (plainFor_of_name pn_PostIds) hisR ?_
  intro p e s m args below meth c s₁ Bd hml0 hP hK
  obtain ⟨rfl, hZ, hh⟩ := hP
  have hx := Bd.exec
  have hby := Bd.bytes
  have hml : c.maxLocals = 4 := hml0
  have hown : s.vm.findClass "com/example/dilate_query/dilatequery/collection/PostIds" = some m.cls := findClass_of_methodNamed Bd.named
  have hnm := (name_of_methodNamed Bd.named Bd.method).1
  have X0 : Stand p l e ({ frames := 0, cells := 1, slots := 16384, locals := 0 } : Room) s m #[(.ref a1), (.long q1)] below meth c s₁ [] 0 0 := Stand.of_body Bd
  have e0 : s₁.heap = h0 := by rw [← hh, Bd.state]; rfl
  have N0 := Fr.nil n0
  have pre0 : ∀ t, Steps p.tables e below (s₁.setTop (mkF m 0 #[.val (.ref a1), .val (.long q1), .second, .unset] [])) t → Steps p.tables e below (s₁.setTop (entryFrame m #[(.ref a1), (.long q1)] 4)) t := fun t k => castTop (ef_6 m a1 q1) k
  obtain ⟨E_a, F_bl, F_tb, F_bits, F_lg, F_n, F_tc, G_t, V_b⟩ := I0
  obtain ⟨T1, X1, e1, st1⟩ := getF X0 hx hZ hown (host := "") (Or.inl (hw _ (List.mem_of_getElem? (i := 38) rfl))) Via.refl e0 F_n (g := (mkF m 1 #[.val (.ref a1), .val (.long q1), .second, .unset] [(.ref a1)])) rfl rfl (hb hby d6_1)
  obtain ⟨T2, X2, e2, st2⟩ := getF X1 hx hZ hown (host := "") (Or.inl (hw _ (List.mem_of_getElem? (i := 20) rfl))) Via.refl e1 F_bl (g := (mkF m 10 #[.val (.ref a1), .val (.long q1), .second, .val (.int (0 : Int32))] [(.ref a1), (.int (0 : Int32))])) rfl rfl (hb hby d6_10)
  obtain ⟨cll2, Arl2, ql2, Sl2, Ml2, Hl2, Gl2⟩ := id V_b
  obtain ⟨T3, X3, e3, st3⟩ := getF X2 hx hZ hown (host := "") (Or.inl (hw _ (List.mem_of_getElem? (i := 20) rfl))) Via.refl e2 F_bl (g := (mkF m 39 #[.val (.ref a1), .val (.long q1), .second, .val (.int (0 : Int32))] [(.ref a1)])) rfl rfl (hb hby d6_39)
  obtain ⟨clr4, Arr4, qr4, Sr4, Mr4, Hr4, Gr4⟩ := id V_b
  obtain ⟨T4, X4, e4, st4⟩ := getF X3 hx hZ hown (host := "") (Or.inl (hw _ (List.mem_of_getElem? (i := 20) rfl))) Via.refl e3 F_bl (g := (mkF m 48 #[.val (.ref a1), .val (.long q1), .second, .val (.int (0 : Int32))] [(.ref a1)])) rfl rfl (hb hby d6_48)
  obtain ⟨T5, h5, k5, X5, e5, E5, A5, Y5, st5⟩ := newPE X4 hx hZ (hw _ (List.mem_of_getElem? (i := 22) rfl)) e4 (g := (mkF m 55 #[.val (.ref a1), .val (.long q1), .second, .val (.int (0 : Int32))] [(.int (16384 : Int32)), (.int (0 : Int32)), (.ref b1)])) rfl (hb hby d6_55) rfl (by decide) (cap := 16384) (by decide) (by decide) (by decide) (by decide) rfl
  obtain ⟨b5, g5⟩ : ∃ z, z = h0.size := ⟨_, rfl⟩
  rw [← g5] at A5 st5 Y5
  have fr_b5 : n0 ≤ b5 := Nat.le_trans Z0 (Nat.le_of_eq g5.symm)
  have ne_a1_b5 : a1 ≠ b5 := Nat.ne_of_lt (Nat.lt_of_lt_of_le E_a.lt (Nat.le_of_eq g5.symm))
  have ne_b1_b5 : b1 ≠ b5 := Nat.ne_of_lt (Nat.lt_of_lt_of_le V_b.lt (Nat.le_of_eq g5.symm))
  have ne_t1_b5 : t1 ≠ b5 := Nat.ne_of_lt (Nat.lt_of_lt_of_le G_t.lt (Nat.le_of_eq g5.symm))
  have f5_13 : Exa Z h5 a1 "com/example/dilate_query/dilatequery/collection/PostIds" := E_a.ext E5
  have f5_14 : Fld Z h5 a1 "com/example/dilate_query/dilatequery/collection/PostIds" "blocks" "[[J" (.ref b1) := F_bl.ext E5
  have f5_15 : Fld Z h5 a1 "com/example/dilate_query/dilatequery/collection/PostIds" "table" "[J" (.ref t1) := F_tb.ext E5
  have f5_16 : Fld Z h5 a1 "com/example/dilate_query/dilatequery/collection/PostIds" "tableBits" "I" (.int (10 : Int32)) := F_bits.ext E5
  have f5_17 : Fld Z h5 a1 "com/example/dilate_query/dilatequery/collection/PostIds" "largest" "J" (.long (0 : Int64)) := F_lg.ext E5
  have f5_18 : Fld Z h5 a1 "com/example/dilate_query/dilatequery/collection/PostIds" "ascendingCount" "I" (.int (0 : Int32)) := F_n.ext E5
  have f5_19 : Fld Z h5 a1 "com/example/dilate_query/dilatequery/collection/PostIds" "tableCount" "I" (.int (0 : Int32)) := F_tc.ext E5
  have f5_20 : own_Tb Z h5 t1 (fun _ => 0) := G_t.ext E5
  have f5_21 : Arv Z h5 b1 kb (.array .long) (1 : Int32) [] .null := V_b.ext E5
  have Z5 : n0 ≤ h5.size := Nat.le_trans Z0 E5.1
  have f5_23 : Exa Z h5 b5 "[J" := Y5
  have f5_24 : Arv Z h5 b5 k5 .long (16384 : Int32) [] (.long (0 : Int64)) := Arv.new A5 (by decide)
  have pad25 : Arv Z h5 b1 kb (.array .long) (1 : Int32) [.null] .null := Arv.pad f5_21 (pad_rep [] .null 1)
  obtain ⟨cls26, Ars26, qs26, Ss26, Ms26, Hs26, Gs26⟩ := id pad25
  obtain ⟨T6, h6, X6, e6, W6, st6⟩ := stR X5 hx hZ e5 Ars26 (j := (0 : Int32)) (inb_of Ss26 ⟨by decide, by decide⟩) rfl (Sto.ofVA Ars26 qs26 O_b (Ins.self f5_23)) (g := (mkF m 57 #[.val (.ref a1), .val (.long q1), .second, .val (.int (0 : Int32))] [(.ref b5), (.int (0 : Int32)), (.ref b1)])) rfl rfl (hb hby d6_57)
  have f6_28 : Exa Z h6 a1 "com/example/dilate_query/dilatequery/collection/PostIds" := f5_13.wr W6
  have f6_29 : Fld Z h6 a1 "com/example/dilate_query/dilatequery/collection/PostIds" "blocks" "[[J" (.ref b1) := Fld.other W6 f5_14 (Or.inl n_ab)
  have f6_30 : Fld Z h6 a1 "com/example/dilate_query/dilatequery/collection/PostIds" "table" "[J" (.ref t1) := Fld.other W6 f5_15 (Or.inl n_ab)
  have f6_31 : Fld Z h6 a1 "com/example/dilate_query/dilatequery/collection/PostIds" "tableBits" "I" (.int (10 : Int32)) := Fld.other W6 f5_16 (Or.inl n_ab)
  have f6_32 : Fld Z h6 a1 "com/example/dilate_query/dilatequery/collection/PostIds" "largest" "J" (.long (0 : Int64)) := Fld.other W6 f5_17 (Or.inl n_ab)
  have f6_33 : Fld Z h6 a1 "com/example/dilate_query/dilatequery/collection/PostIds" "ascendingCount" "I" (.int (0 : Int32)) := Fld.other W6 f5_18 (Or.inl n_ab)
  have f6_34 : Fld Z h6 a1 "com/example/dilate_query/dilatequery/collection/PostIds" "tableCount" "I" (.int (0 : Int32)) := Fld.other W6 f5_19 (Or.inl n_ab)
  have f6_35 : own_Tb Z h6 t1 (fun _ => 0) := f5_20.other W6 (Ne.symm n_bt)
  have f6_36 : Exa Z h6 b5 "[J" := f5_23.wr W6
  have f6_37 : Arv Z h6 b5 k5 .long (16384 : Int32) [] (.long (0 : Int64)) := f5_24.other W6 (Ne.symm ne_b1_b5)
  have Z6 : n0 ≤ h6.size := by rw [W6.size]; exact Z5
  have f6_39 : Arv Z h6 b1 kb (.array .long) (1 : Int32) [(.ref b5)] .null := Arv.set Ars26 qs26 Ss26 Ms26 Hs26 Gs26 rfl W6 0 rfl (Nat.le_of_ble_eq_true rfl)
  have N6 := Fr.snoc X6 N0 g_b
  obtain ⟨T7, X7, e7, st7⟩ := getF X6 hx hZ hown (host := "") (Or.inl (hw _ (List.mem_of_getElem? (i := 20) rfl))) Via.refl e6 f6_29 (g := (mkF m 59 #[.val (.ref a1), .val (.long q1), .second, .val (.int (0 : Int32))] [(.ref a1)])) rfl rfl (hb hby d6_59)
  obtain ⟨clr42, Arr42, qr42, Sr42, Mr42, Hr42, Gr42⟩ := id f6_39
  obtain ⟨T8, X8, e8, st8⟩ := getF X7 hx hZ hown (host := "") (Or.inl (hw _ (List.mem_of_getElem? (i := 38) rfl))) Via.refl e7 f6_33 (g := (mkF m 65 #[.val (.ref a1), .val (.long q1), .second, .val (.int (0 : Int32))] [(.ref a1), (.ref b5)])) rfl rfl (hb hby d6_65)
  have pad44 : Arv Z h6 b5 k5 .long (16384 : Int32) [(.long (0 : Int64))] (.long (0 : Int64)) := Arv.pad f6_37 (pad_rep [] (.long (0 : Int64)) 1)
  obtain ⟨cls45, Ars45, qs45, Ss45, Ms45, Hs45, Gs45⟩ := id pad44
  obtain ⟨T9, h9, X9, e9, W9, st9⟩ := stJ X8 hx hZ e8 Ars45 (j := (0 : Int32)) (inb_of Ss45 ⟨by decide, by decide⟩) (g := (mkF m 73 #[.val (.ref a1), .val (.long q1), .second, .val (.int (0 : Int32))] [(.long q1), (.int (0 : Int32)), (.ref b5)])) rfl rfl (hb hby d6_73)
  have f9_47 : Exa Z h9 a1 "com/example/dilate_query/dilatequery/collection/PostIds" := f6_28.wr W9
  have f9_48 : Fld Z h9 a1 "com/example/dilate_query/dilatequery/collection/PostIds" "blocks" "[[J" (.ref b1) := Fld.other W9 f6_29 (Or.inl ne_a1_b5)
  have f9_49 : Fld Z h9 a1 "com/example/dilate_query/dilatequery/collection/PostIds" "table" "[J" (.ref t1) := Fld.other W9 f6_30 (Or.inl ne_a1_b5)
  have f9_50 : Fld Z h9 a1 "com/example/dilate_query/dilatequery/collection/PostIds" "tableBits" "I" (.int (10 : Int32)) := Fld.other W9 f6_31 (Or.inl ne_a1_b5)
  have f9_51 : Fld Z h9 a1 "com/example/dilate_query/dilatequery/collection/PostIds" "largest" "J" (.long (0 : Int64)) := Fld.other W9 f6_32 (Or.inl ne_a1_b5)
  have f9_52 : Fld Z h9 a1 "com/example/dilate_query/dilatequery/collection/PostIds" "ascendingCount" "I" (.int (0 : Int32)) := Fld.other W9 f6_33 (Or.inl ne_a1_b5)
  have f9_53 : Fld Z h9 a1 "com/example/dilate_query/dilatequery/collection/PostIds" "tableCount" "I" (.int (0 : Int32)) := Fld.other W9 f6_34 (Or.inl ne_a1_b5)
  have f9_54 : own_Tb Z h9 t1 (fun _ => 0) := f6_35.other W9 ne_t1_b5
  have f9_55 : Arv Z h9 b1 kb (.array .long) (1 : Int32) [(.ref b5)] .null := f6_39.other W9 ne_b1_b5
  have f9_56 : Exa Z h9 b5 "[J" := f6_36.wr W9
  have Z9 : n0 ≤ h9.size := by rw [W9.size]; exact Z6
  have f9_58 : Arv Z h9 b5 k5 .long (16384 : Int32) [(.long q1)] (.long (0 : Int64)) := Arv.set Ars45 qs45 Ss45 Ms45 Hs45 Gs45 rfl W9 0 rfl (Nat.le_of_ble_eq_true rfl)
  have N9 := Fr.snoc X9 N6 fr_b5
  obtain ⟨T10, X10, e10, st10⟩ := getF X9 hx hZ hown (host := "") (Or.inl (hw _ (List.mem_of_getElem? (i := 38) rfl))) Via.refl e9 f9_52 (g := (mkF m 76 #[.val (.ref a1), .val (.long q1), .second, .val (.int (0 : Int32))] [(.ref a1), (.ref a1)])) rfl rfl (hb hby d6_76)
  obtain ⟨T11, h11, X11, e11, W11, st11⟩ := putF X10 hx hZ hown (host := "") (Or.inl (hw _ (List.mem_of_getElem? (i := 38) rfl))) Via.refl e10 f9_52 f9_47 (Or.inl (hw _ (List.mem_of_getElem? (i := 39) rfl))) (hw _ (List.mem_of_getElem? (i := 10) rfl)) (ty := .int) (by decide) rfl rfl (g := (mkF m 81 #[.val (.ref a1), .val (.long q1), .second, .val (.int (0 : Int32))] [(.int (1 : Int32)), (.ref a1)])) rfl rfl (hb hby d6_81)
  have f11_62 : Exa Z h11 a1 "com/example/dilate_query/dilatequery/collection/PostIds" := f9_47.wr W11
  have f11_63 : Fld Z h11 a1 "com/example/dilate_query/dilatequery/collection/PostIds" "blocks" "[[J" (.ref b1) := Fld.other W11 f9_48 (Or.inr (slot_ne (Or.inl (hw _ (List.mem_of_getElem? (i := 21) rfl))) (Or.inl (hw _ (List.mem_of_getElem? (i := 39) rfl))) (by decide) (t := (.array (.array .long))) (t' := .int) (by decide) (by decide)))
  have f11_64 : Fld Z h11 a1 "com/example/dilate_query/dilatequery/collection/PostIds" "table" "[J" (.ref t1) := Fld.other W11 f9_49 (Or.inr (slot_ne (Or.inl (hw _ (List.mem_of_getElem? (i := 24) rfl))) (Or.inl (hw _ (List.mem_of_getElem? (i := 39) rfl))) (by decide) (t := (.array .long)) (t' := .int) (by decide) (by decide)))
  have f11_65 : Fld Z h11 a1 "com/example/dilate_query/dilatequery/collection/PostIds" "tableBits" "I" (.int (10 : Int32)) := Fld.other W11 f9_50 (Or.inr (slot_ne (Or.inl (hw _ (List.mem_of_getElem? (i := 26) rfl))) (Or.inl (hw _ (List.mem_of_getElem? (i := 39) rfl))) (by decide) (t := .int) (t' := .int) (by decide) (by decide)))
  have f11_66 : Fld Z h11 a1 "com/example/dilate_query/dilatequery/collection/PostIds" "largest" "J" (.long (0 : Int64)) := Fld.other W11 f9_51 (Or.inr (slot_ne (Or.inl (hw _ (List.mem_of_getElem? (i := 33) rfl))) (Or.inl (hw _ (List.mem_of_getElem? (i := 39) rfl))) (by decide) (t := .long) (t' := .int) (by decide) (by decide)))
  have f11_67 : Fld Z h11 a1 "com/example/dilate_query/dilatequery/collection/PostIds" "tableCount" "I" (.int (0 : Int32)) := Fld.other W11 f9_53 (Or.inr (slot_ne (Or.inl (hw _ (List.mem_of_getElem? (i := 55) rfl))) (Or.inl (hw _ (List.mem_of_getElem? (i := 39) rfl))) (by decide) (t := .int) (t' := .int) (by decide) (by decide)))
  have f11_68 : own_Tb Z h11 t1 (fun _ => 0) := f9_54.other W11 (Ne.symm n_at)
  have f11_69 : Arv Z h11 b1 kb (.array .long) (1 : Int32) [(.ref b5)] .null := f9_55.other W11 (Ne.symm n_ab)
  have f11_70 : Exa Z h11 b5 "[J" := f9_56.wr W11
  have f11_71 : Arv Z h11 b5 k5 .long (16384 : Int32) [(.long q1)] (.long (0 : Int64)) := f9_58.other W11 (Ne.symm ne_a1_b5)
  have Z11 : n0 ≤ h11.size := by rw [W11.size]; exact Z9
  have f11_73 : Fld Z h11 a1 "com/example/dilate_query/dilatequery/collection/PostIds" "ascendingCount" "I" (.int (1 : Int32)) := Fld.same W11 f9_52
  have N11 := Fr.snoc X11 N9 g_a
  obtain ⟨T12, h12, X12, e12, W12, st12⟩ := putF X11 hx hZ hown (host := "") (Or.inl (hw _ (List.mem_of_getElem? (i := 32) rfl))) Via.refl e11 f11_66 f11_62 (Or.inl (hw _ (List.mem_of_getElem? (i := 33) rfl))) (hw _ (List.mem_of_getElem? (i := 10) rfl)) (ty := .long) (by decide) rfl rfl (g := (mkF m 86 #[.val (.ref a1), .val (.long q1), .second, .val (.int (0 : Int32))] [(.long q1), (.ref a1)])) rfl rfl (hb hby d6_86)
  have f12_76 : Exa Z h12 a1 "com/example/dilate_query/dilatequery/collection/PostIds" := f11_62.wr W12
  have f12_77 : Fld Z h12 a1 "com/example/dilate_query/dilatequery/collection/PostIds" "blocks" "[[J" (.ref b1) := Fld.other W12 f11_63 (Or.inr (slot_ne (Or.inl (hw _ (List.mem_of_getElem? (i := 21) rfl))) (Or.inl (hw _ (List.mem_of_getElem? (i := 33) rfl))) (by decide) (t := (.array (.array .long))) (t' := .long) (by decide) (by decide)))
  have f12_78 : Fld Z h12 a1 "com/example/dilate_query/dilatequery/collection/PostIds" "table" "[J" (.ref t1) := Fld.other W12 f11_64 (Or.inr (slot_ne (Or.inl (hw _ (List.mem_of_getElem? (i := 24) rfl))) (Or.inl (hw _ (List.mem_of_getElem? (i := 33) rfl))) (by decide) (t := (.array .long)) (t' := .long) (by decide) (by decide)))
  have f12_79 : Fld Z h12 a1 "com/example/dilate_query/dilatequery/collection/PostIds" "tableBits" "I" (.int (10 : Int32)) := Fld.other W12 f11_65 (Or.inr (slot_ne (Or.inl (hw _ (List.mem_of_getElem? (i := 26) rfl))) (Or.inl (hw _ (List.mem_of_getElem? (i := 33) rfl))) (by decide) (t := .int) (t' := .long) (by decide) (by decide)))
  have f12_80 : Fld Z h12 a1 "com/example/dilate_query/dilatequery/collection/PostIds" "ascendingCount" "I" (.int (1 : Int32)) := Fld.other W12 f11_73 (Or.inr (slot_ne (Or.inl (hw _ (List.mem_of_getElem? (i := 39) rfl))) (Or.inl (hw _ (List.mem_of_getElem? (i := 33) rfl))) (by decide) (t := .int) (t' := .long) (by decide) (by decide)))
  have f12_81 : Fld Z h12 a1 "com/example/dilate_query/dilatequery/collection/PostIds" "tableCount" "I" (.int (0 : Int32)) := Fld.other W12 f11_67 (Or.inr (slot_ne (Or.inl (hw _ (List.mem_of_getElem? (i := 55) rfl))) (Or.inl (hw _ (List.mem_of_getElem? (i := 33) rfl))) (by decide) (t := .int) (t' := .long) (by decide) (by decide)))
  have f12_82 : own_Tb Z h12 t1 (fun _ => 0) := f11_68.other W12 (Ne.symm n_at)
  have f12_83 : Arv Z h12 b1 kb (.array .long) (1 : Int32) [(.ref b5)] .null := f11_69.other W12 (Ne.symm n_ab)
  have f12_84 : Exa Z h12 b5 "[J" := f11_70.wr W12
  have f12_85 : Arv Z h12 b5 k5 .long (16384 : Int32) [(.long q1)] (.long (0 : Int64)) := f11_71.other W12 (Ne.symm ne_a1_b5)
  have Z12 : n0 ≤ h12.size := by rw [W12.size]; exact Z11
  have f12_87 : Fld Z h12 a1 "com/example/dilate_query/dilatequery/collection/PostIds" "largest" "J" (.long q1) := Fld.same W12 f11_66
  have N12 := Fr.snoc X12 N11 g_a
  obtain ⟨fs, hr, hrun, hended, hW, hsame⟩ := X12.leave (v := none) (fun _ => rfl)
  refine ⟨_, _, pre0 _ ?_, hrun, hended, _, _, rfl, ?_, ⟨_, rfl⟩, hW, hsame.mono (by decide) (by decide)⟩
  · show Steps p.tables e below (s₁.setTop (mkF m 0 #[.val (.ref a1), .val (.long q1), .second, .unset] [])) _
    refine XS.aloadN X0.here hx rfl (hb hby d6_0) rfl rfl ?_
    show Steps p.tables e below (s₁.setTop (mkF m 1 #[.val (.ref a1), .val (.long q1), .second, .unset] [(.ref a1)])) _
    refine st1 _ ?_
    show Steps p.tables e below (T1.setTop (mkF m 4 #[.val (.ref a1), .val (.long q1), .second, .unset] [(.int (0 : Int32))])) _
    refine XS.bipush X1.here hx rfl (hb hby d6_4) ?_
    show Steps p.tables e below (T1.setTop (mkF m 6 #[.val (.ref a1), .val (.long q1), .second, .unset] [(.int (14 : Int32)), (.int (0 : Int32))])) _
    refine XS.iushr X1.here hx rfl (hb hby d6_6) rfl ?_
    show Steps p.tables e below (T1.setTop (mkF m 7 #[.val (.ref a1), .val (.long q1), .second, .unset] [(.int (((0 : Int32).toUInt32 >>> ((14 : Int32) &&& 31).toUInt32).toInt32))])) _
    rw [show (((0 : Int32).toUInt32 >>> ((14 : Int32) &&& 31).toUInt32).toInt32) = (0 : Int32) from by decide +kernel]
    show Steps p.tables e below (T1.setTop (mkF m 7 #[.val (.ref a1), .val (.long q1), .second, .unset] [(.int (0 : Int32))])) _
    refine XS.istoreN X1.here hx rfl (hb hby d6_7) rfl (l' := #[.val (.ref a1), .val (.long q1), .second, .val (.int (0 : Int32))]) rfl ?_
    show Steps p.tables e below (T1.setTop (mkF m 8 #[.val (.ref a1), .val (.long q1), .second, .val (.int (0 : Int32))] [])) _
    refine XS.iloadN X1.here hx rfl (hb hby d6_8) rfl ?_
    show Steps p.tables e below (T1.setTop (mkF m 9 #[.val (.ref a1), .val (.long q1), .second, .val (.int (0 : Int32))] [(.int (0 : Int32))])) _
    refine XS.aloadN X1.here hx rfl (hb hby d6_9) rfl rfl ?_
    show Steps p.tables e below (T1.setTop (mkF m 10 #[.val (.ref a1), .val (.long q1), .second, .val (.int (0 : Int32))] [(.ref a1), (.int (0 : Int32))])) _
    refine st2 _ ?_
    show Steps p.tables e below (T2.setTop (mkF m 13 #[.val (.ref a1), .val (.long q1), .second, .val (.int (0 : Int32))] [(.ref b1), (.int (0 : Int32))])) _
    refine X2.arraylength hx (by rw [e2]; exact Arl2.1) (State.isArrayOf_alike hZ.alike Arl2.2.1) (g := (mkF m 13 #[.val (.ref a1), .val (.long q1), .second, .val (.int (0 : Int32))] [(.ref b1), (.int (0 : Int32))])) rfl rfl (hb hby d6_13) _ ?_
    rw [len_of Sl2 Ml2]
    show Steps p.tables e below (T2.setTop (mkF m 14 #[.val (.ref a1), .val (.long q1), .second, .val (.int (0 : Int32))] [(.int (1 : Int32)), (.int (0 : Int32))])) _
    refine XS.icmpYes X2.here hx rfl (pc0 := 14) (pc' := 38) rfl (hb hby d6_14) rfl (feq (by decide +kernel)).2 (by decide) (by decide) ?_
    show Steps p.tables e below (T2.setTop (mkF m 38 #[.val (.ref a1), .val (.long q1), .second, .val (.int (0 : Int32))] [])) _
    refine XS.aloadN X2.here hx rfl (hb hby d6_38) rfl rfl ?_
    show Steps p.tables e below (T2.setTop (mkF m 39 #[.val (.ref a1), .val (.long q1), .second, .val (.int (0 : Int32))] [(.ref a1)])) _
    refine st3 _ ?_
    show Steps p.tables e below (T3.setTop (mkF m 42 #[.val (.ref a1), .val (.long q1), .second, .val (.int (0 : Int32))] [(.ref b1)])) _
    refine XS.iloadN X3.here hx rfl (hb hby d6_42) rfl ?_
    show Steps p.tables e below (T3.setTop (mkF m 43 #[.val (.ref a1), .val (.long q1), .second, .val (.int (0 : Int32))] [(.int (0 : Int32)), (.ref b1)])) _
    refine X3.aaload hx (j := (0 : Int32)) (v := .null) (by rw [e3]; exact Arr4.1) (State.isArrayOf_alike hZ.alike Arr4.2.1) rfl Arr4.2.2 (inb_of Sr4 ⟨by decide, by decide⟩) (Hr4.at (inb_of Sr4 ⟨by decide, by decide⟩) rfl) (g := (mkF m 43 #[.val (.ref a1), .val (.long q1), .second, .val (.int (0 : Int32))] [(.int (0 : Int32)), (.ref b1)])) rfl rfl (hb hby d6_43) _ ?_
    show Steps p.tables e below (T3.setTop (mkF m 44 #[.val (.ref a1), .val (.long q1), .second, .val (.int (0 : Int32))] [.null])) _
    refine XS.ifnonnullNo X3.here hx rfl (hb hby d6_44) rfl ?_
    show Steps p.tables e below (T3.setTop (mkF m 47 #[.val (.ref a1), .val (.long q1), .second, .val (.int (0 : Int32))] [])) _
    refine XS.aloadN X3.here hx rfl (hb hby d6_47) rfl rfl ?_
    show Steps p.tables e below (T3.setTop (mkF m 48 #[.val (.ref a1), .val (.long q1), .second, .val (.int (0 : Int32))] [(.ref a1)])) _
    refine st4 _ ?_
    show Steps p.tables e below (T4.setTop (mkF m 51 #[.val (.ref a1), .val (.long q1), .second, .val (.int (0 : Int32))] [(.ref b1)])) _
    refine XS.iloadN X4.here hx rfl (hb hby d6_51) rfl ?_
    show Steps p.tables e below (T4.setTop (mkF m 52 #[.val (.ref a1), .val (.long q1), .second, .val (.int (0 : Int32))] [(.int (0 : Int32)), (.ref b1)])) _
    refine XS.sipush X4.here hx rfl (hb hby d6_52) ?_
    show Steps p.tables e below (T4.setTop (mkF m 55 #[.val (.ref a1), .val (.long q1), .second, .val (.int (0 : Int32))] [(.int (16384 : Int32)), (.int (0 : Int32)), (.ref b1)])) _
    refine st5 _ ?_
    show Steps p.tables e below (T5.setTop (mkF m 57 #[.val (.ref a1), .val (.long q1), .second, .val (.int (0 : Int32))] [(.ref b5), (.int (0 : Int32)), (.ref b1)])) _
    refine st6 _ ?_
    show Steps p.tables e below (T6.setTop (mkF m 58 #[.val (.ref a1), .val (.long q1), .second, .val (.int (0 : Int32))] [])) _
    refine XS.aloadN X6.here hx rfl (hb hby d6_58) rfl rfl ?_
    show Steps p.tables e below (T6.setTop (mkF m 59 #[.val (.ref a1), .val (.long q1), .second, .val (.int (0 : Int32))] [(.ref a1)])) _
    refine st7 _ ?_
    show Steps p.tables e below (T7.setTop (mkF m 62 #[.val (.ref a1), .val (.long q1), .second, .val (.int (0 : Int32))] [(.ref b1)])) _
    refine XS.iloadN X7.here hx rfl (hb hby d6_62) rfl ?_
    show Steps p.tables e below (T7.setTop (mkF m 63 #[.val (.ref a1), .val (.long q1), .second, .val (.int (0 : Int32))] [(.int (0 : Int32)), (.ref b1)])) _
    refine X7.aaload hx (j := (0 : Int32)) (v := (.ref b5)) (by rw [e7]; exact Arr42.1) (State.isArrayOf_alike hZ.alike Arr42.2.1) rfl Arr42.2.2 (inb_of Sr42 ⟨by decide, by decide⟩) (Hr42.at (inb_of Sr42 ⟨by decide, by decide⟩) rfl) (g := (mkF m 63 #[.val (.ref a1), .val (.long q1), .second, .val (.int (0 : Int32))] [(.int (0 : Int32)), (.ref b1)])) rfl rfl (hb hby d6_63) _ ?_
    show Steps p.tables e below (T7.setTop (mkF m 64 #[.val (.ref a1), .val (.long q1), .second, .val (.int (0 : Int32))] [(.ref b5)])) _
    refine XS.aloadN X7.here hx rfl (hb hby d6_64) rfl rfl ?_
    show Steps p.tables e below (T7.setTop (mkF m 65 #[.val (.ref a1), .val (.long q1), .second, .val (.int (0 : Int32))] [(.ref a1), (.ref b5)])) _
    refine st8 _ ?_
    show Steps p.tables e below (T8.setTop (mkF m 68 #[.val (.ref a1), .val (.long q1), .second, .val (.int (0 : Int32))] [(.int (0 : Int32)), (.ref b5)])) _
    refine XS.sipush X8.here hx rfl (hb hby d6_68) ?_
    show Steps p.tables e below (T8.setTop (mkF m 71 #[.val (.ref a1), .val (.long q1), .second, .val (.int (0 : Int32))] [(.int (16383 : Int32)), (.int (0 : Int32)), (.ref b5)])) _
    refine XS.iand X8.here hx rfl (hb hby d6_71) rfl ?_
    show Steps p.tables e below (T8.setTop (mkF m 72 #[.val (.ref a1), .val (.long q1), .second, .val (.int (0 : Int32))] [(.int ((0 : Int32) &&& (16383 : Int32))), (.ref b5)])) _
    rw [show ((0 : Int32) &&& (16383 : Int32)) = (0 : Int32) from by decide +kernel]
    show Steps p.tables e below (T8.setTop (mkF m 72 #[.val (.ref a1), .val (.long q1), .second, .val (.int (0 : Int32))] [(.int (0 : Int32)), (.ref b5)])) _
    refine XS.lloadN X8.here hx rfl (hb hby d6_72) rfl ?_
    show Steps p.tables e below (T8.setTop (mkF m 73 #[.val (.ref a1), .val (.long q1), .second, .val (.int (0 : Int32))] [(.long q1), (.int (0 : Int32)), (.ref b5)])) _
    refine st9 _ ?_
    show Steps p.tables e below (T9.setTop (mkF m 74 #[.val (.ref a1), .val (.long q1), .second, .val (.int (0 : Int32))] [])) _
    refine XS.aloadN X9.here hx rfl (hb hby d6_74) rfl rfl ?_
    show Steps p.tables e below (T9.setTop (mkF m 75 #[.val (.ref a1), .val (.long q1), .second, .val (.int (0 : Int32))] [(.ref a1)])) _
    refine XS.dup X9.here hx rfl (hb hby d6_75) rfl rfl ?_
    show Steps p.tables e below (T9.setTop (mkF m 76 #[.val (.ref a1), .val (.long q1), .second, .val (.int (0 : Int32))] [(.ref a1), (.ref a1)])) _
    refine st10 _ ?_
    show Steps p.tables e below (T10.setTop (mkF m 79 #[.val (.ref a1), .val (.long q1), .second, .val (.int (0 : Int32))] [(.int (0 : Int32)), (.ref a1)])) _
    refine XS.iconst X10.here hx rfl (hb hby d6_79) ?_
    show Steps p.tables e below (T10.setTop (mkF m 80 #[.val (.ref a1), .val (.long q1), .second, .val (.int (0 : Int32))] [(.int (1 : Int32)), (.int (0 : Int32)), (.ref a1)])) _
    refine XS.iadd X10.here hx rfl (hb hby d6_80) rfl ?_
    show Steps p.tables e below (T10.setTop (mkF m 81 #[.val (.ref a1), .val (.long q1), .second, .val (.int (0 : Int32))] [(.int ((0 : Int32) + (1 : Int32))), (.ref a1)])) _
    rw [show ((0 : Int32) + (1 : Int32)) = (1 : Int32) from by decide +kernel]
    show Steps p.tables e below (T10.setTop (mkF m 81 #[.val (.ref a1), .val (.long q1), .second, .val (.int (0 : Int32))] [(.int (1 : Int32)), (.ref a1)])) _
    refine st11 _ ?_
    show Steps p.tables e below (T11.setTop (mkF m 84 #[.val (.ref a1), .val (.long q1), .second, .val (.int (0 : Int32))] [])) _
    refine XS.aloadN X11.here hx rfl (hb hby d6_84) rfl rfl ?_
    show Steps p.tables e below (T11.setTop (mkF m 85 #[.val (.ref a1), .val (.long q1), .second, .val (.int (0 : Int32))] [(.ref a1)])) _
    refine XS.lloadN X11.here hx rfl (hb hby d6_85) rfl ?_
    show Steps p.tables e below (T11.setTop (mkF m 86 #[.val (.ref a1), .val (.long q1), .second, .val (.int (0 : Int32))] [(.long q1), (.ref a1)])) _
    refine st12 _ ?_
    show Steps p.tables e below (T12.setTop (mkF m 89 #[.val (.ref a1), .val (.long q1), .second, .val (.int (0 : Int32))] [])) _
    exact X12.returnOut hx Bd.returns (hb hby d6_89) hr
  · show Q6_0 Z a1 q1 b1 t1 kb h0 n0 _ T12.heap _
    rw [e12]
    exact ⟨rfl, N12, b5, k5, ⟨f12_76, f12_77, f12_78, f12_79, f12_87, f12_80, f12_81, f12_82, f12_83, f12_85, Z12⟩, ⟨g_a, g_b, g_t, fr_b5, n_ab, n_at, ne_a1_b5, n_bt, ne_b1_b5, ne_t1_b5⟩⟩
theorem own_14 {n : Int32} (h0 : 0 ≤ n.toInt) (h1 : n.toInt < 16384) : ((n.toUInt32 >>> ((14 : Int32) &&& 31).toUInt32).toInt32) = (0 : Int32) := by
  have e := c_iushr n (14 : Int32) 14 (by decide) (by decide)
  have e4 : ((2 ^ 14 : Nat) : Int) = 16384 := by decide
  rw [e4] at e
  exact Int32.toInt_inj.mp (by rw [e]; show _ = 0; omega)
theorem own_16 {n : Int32} (h0 : 0 ≤ n.toInt) (h1 : n.toInt < 16384) : (n &&& (16383 : Int32)) = n := by
  have e := c_mask n (16383 : Int32) 14 (by decide) (by decide)
  have e4 : ((2 ^ 14 : Nat) : Int) = 16384 := by decide
  rw [e4] at e
  exact Int32.toInt_inj.mp (by rw [e]; omega)
def Q6 (Z : State) (a1 : Addr) (q1 : Int64) (b1 t1 k1 : Addr) (kb kk : ClassId) (asc : List Int64) (T : Nat → Int64) (n1 tc : Int32) (lg : Int64) (h0 : Heap) (n0 : Nat) (v : Option Value) (h : Heap) (L : List Loc) : Prop := v = none ∧ Fr n0 L ∧ own_PS Z h n0 a1 b1 t1 k1 kb kk (asc ++ [q1]) T (n1 + (1 : Int32)) tc q1
set_option maxRecDepth 65536 in
set_option maxHeartbeats 40000000 in
theorem rm6 (l : Launch) (Z : State) (a0 : Array Value) (hw : ∀ d ∈ tables_1, d.before a0 Z = true) (ws : List Jvm.Cond) (a1 : Addr) (q1 : Int64) (b1 t1 k1 : Addr) (kb kk : ClassId) (asc : List Int64) (T : Nat → Int64) (n1 tc : Int32) (lg : Int64) (h0 : Heap) (n0 : Nat) (Z0 : n0 ≤ h0.size) (P : own_PS Z h0 n0 a1 b1 t1 k1 kb kk asc T n1 tc lg) (D : own_Sep n0 a1 b1 t1 k1) (hn : n1 = Int32.ofNat asc.length) (hl : asc.length < 1000) :
    MetFree l (⟨"com/example/dilate_query/dilatequery/collection/PostIds", "append", "(J)V"⟩ : MethodName) (head1 (Jvm.Cond.code (⟨"com/example/dilate_query/dilatequery/collection/PostIds", "append", "(J)V"⟩ : MethodName) prog_2_method_3_code 4 none :: ws) ({ frames := 0, cells := 0, slots := 0, locals := 0 } : Room)) (fun a U => a = #[(.ref a1), (.long q1)] ∧ Z.Warmed39 U.vm ∧ U.heap = h0) (fun _ _ _ _ _ => True) (fun _ U o U' => ∃ v L, o = .returned v ∧ Q6 Z a1 q1 b1 t1 k1 kb kk asc T n1 tc lg h0 n0 v U'.heap L ∧ FrameEnd U o U' L ({ frames := 0, cells := 0, slots := 0, locals := 0 } : Room).cells ({ frames := 0, cells := 0, slots := 0, locals := 0 } : Room).slots) := by
  refine MetFree.of_bodySF (plainFor_of_name pn_PostIds) hisR ?_
  intro p e s m args below meth c s₁ Bd hml0 hP hK
  obtain ⟨rfl, hZ, hh⟩ := hP
  have hx := Bd.exec
  have hby := Bd.bytes
  have hml : c.maxLocals = 4 := hml0
  have hown : s.vm.findClass "com/example/dilate_query/dilatequery/collection/PostIds" = some m.cls := findClass_of_methodNamed Bd.named
  have hnm := (name_of_methodNamed Bd.named Bd.method).1
  have X0 : Stand p l e ({ frames := 0, cells := 0, slots := 0, locals := 0 } : Room) s m #[(.ref a1), (.long q1)] below meth c s₁ [] 0 0 := Stand.of_body Bd
  have e0 : s₁.heap = h0 := by rw [← hh, Bd.state]; rfl
  have N0 := Fr.nil n0
  have pre0 : ∀ t, Steps p.tables e below (s₁.setTop (mkF m 0 #[.val (.ref a1), .val (.long q1), .second, .unset] [])) t → Steps p.tables e below (s₁.setTop (entryFrame m #[(.ref a1), (.long q1)] 4)) t := fun t k => castTop (ef_6 m a1 q1) k
  obtain ⟨E_a, F_bl, F_tb, F_bits, F_lg, F_n, F_tc, G_t, V_b, G_k, Zp⟩ := P
  obtain ⟨g_a, g_b, g_t, g_k, n_ab, n_at, n_ak, n_bt, n_bk, n_tk⟩ := D
  have hq0 : n1.toInt = asc.length := by rw [hn]; exact own_nat (by omega)
  have h14 := own_14 (n := n1) (by omega) (by omega)
  have h16 := own_16 (n := n1) (by omega) (by omega)
  have hn0 : ¬ n1 < 0 := by rw [hn]; exact own_nnat (by omega)
  have hn1 : n1 < (16384 : Int32) := by rw [Int32.lt_iff_toInt_lt]; show n1.toInt < 16384; omega
  have hnl : n1.toNatClampNeg = asc.length := by rw [hn]; exact own_clamp (by omega)
  obtain ⟨T1, X1, e1, st1⟩ := getF X0 hx hZ hown (host := "") (Or.inl (hw _ (List.mem_of_getElem? (i := 38) rfl))) Via.refl e0 F_n (g := (mkF m 1 #[.val (.ref a1), .val (.long q1), .second, .unset] [(.ref a1)])) rfl rfl (hb hby d6_1)
  obtain ⟨T2, X2, e2, st2⟩ := getF X1 hx hZ hown (host := "") (Or.inl (hw _ (List.mem_of_getElem? (i := 20) rfl))) Via.refl e1 F_bl (g := (mkF m 10 #[.val (.ref a1), .val (.long q1), .second, .val (.int (0 : Int32))] [(.ref a1), (.int (0 : Int32))])) rfl rfl (hb hby d6_10)
  obtain ⟨cll2, Arl2, ql2, Sl2, Ml2, Hl2, Gl2⟩ := id V_b
  obtain ⟨T3, X3, e3, st3⟩ := getF X2 hx hZ hown (host := "") (Or.inl (hw _ (List.mem_of_getElem? (i := 20) rfl))) Via.refl e2 F_bl (g := (mkF m 39 #[.val (.ref a1), .val (.long q1), .second, .val (.int (0 : Int32))] [(.ref a1)])) rfl rfl (hb hby d6_39)
  obtain ⟨clr4, Arr4, qr4, Sr4, Mr4, Hr4, Gr4⟩ := id V_b
  obtain ⟨T4, X4, e4, st4⟩ := getF X3 hx hZ hown (host := "") (Or.inl (hw _ (List.mem_of_getElem? (i := 20) rfl))) Via.refl e3 F_bl (g := (mkF m 59 #[.val (.ref a1), .val (.long q1), .second, .val (.int (0 : Int32))] [(.ref a1)])) rfl rfl (hb hby d6_59)
  obtain ⟨clr6, Arr6, qr6, Sr6, Mr6, Hr6, Gr6⟩ := id V_b
  obtain ⟨T5, X5, e5, st5⟩ := getF X4 hx hZ hown (host := "") (Or.inl (hw _ (List.mem_of_getElem? (i := 38) rfl))) Via.refl e4 F_n (g := (mkF m 65 #[.val (.ref a1), .val (.long q1), .second, .val (.int (0 : Int32))] [(.ref a1), (.ref k1)])) rfl rfl (hb hby d6_65)
  have padk := Arv.pad G_k (pad_rep _ _ 1)
  obtain ⟨clk, Ark, qk, Sk, Mk, Hk, Gk⟩ := padk
  obtain ⟨T6, h6, X6, e6, W6, st6⟩ := stJ X5 hx hZ e5 Ark (j := n1) (inb_of Sk ⟨hn0, hn1⟩) (g := (mkF m 73 #[.val (.ref a1), .val (.long q1), .second, .val (.int (0 : Int32))] [(.long q1), (.int n1), (.ref k1)])) rfl rfl (hb hby d6_73)
  have f6_11 : Exa Z h6 a1 "com/example/dilate_query/dilatequery/collection/PostIds" := E_a.wr W6
  have f6_12 : Fld Z h6 a1 "com/example/dilate_query/dilatequery/collection/PostIds" "blocks" "[[J" (.ref b1) := Fld.other W6 F_bl (Or.inl n_ak)
  have f6_13 : Fld Z h6 a1 "com/example/dilate_query/dilatequery/collection/PostIds" "table" "[J" (.ref t1) := Fld.other W6 F_tb (Or.inl n_ak)
  have f6_14 : Fld Z h6 a1 "com/example/dilate_query/dilatequery/collection/PostIds" "tableBits" "I" (.int (10 : Int32)) := Fld.other W6 F_bits (Or.inl n_ak)
  have f6_15 : Fld Z h6 a1 "com/example/dilate_query/dilatequery/collection/PostIds" "largest" "J" (.long lg) := Fld.other W6 F_lg (Or.inl n_ak)
  have f6_16 : Fld Z h6 a1 "com/example/dilate_query/dilatequery/collection/PostIds" "ascendingCount" "I" (.int n1) := Fld.other W6 F_n (Or.inl n_ak)
  have f6_17 : Fld Z h6 a1 "com/example/dilate_query/dilatequery/collection/PostIds" "tableCount" "I" (.int tc) := Fld.other W6 F_tc (Or.inl n_ak)
  have f6_18 : own_Tb Z h6 t1 T := G_t.other W6 n_tk
  have f6_19 : Arv Z h6 b1 kb (.array .long) (1 : Int32) [(.ref k1)] .null := V_b.other W6 n_bk
  have Z6 : n0 ≤ h6.size := by rw [W6.size]; exact Z0
  have f6_21 : Arv Z h6 k1 kk .long (16384 : Int32) ((asc ++ [q1]).map Value.long) (.long (0 : Int64)) := own_setL asc q1 ▸ Arv.set Ark qk Sk Mk Hk Gk rfl W6 asc.length hnl (by simp)
  have N6 := Fr.snoc X6 N0 g_k
  obtain ⟨T7, X7, e7, st7⟩ := getF X6 hx hZ hown (host := "") (Or.inl (hw _ (List.mem_of_getElem? (i := 38) rfl))) Via.refl e6 f6_16 (g := (mkF m 76 #[.val (.ref a1), .val (.long q1), .second, .val (.int (0 : Int32))] [(.ref a1), (.ref a1)])) rfl rfl (hb hby d6_76)
  obtain ⟨T8, h8, X8, e8, W8, st8⟩ := putF X7 hx hZ hown (host := "") (Or.inl (hw _ (List.mem_of_getElem? (i := 38) rfl))) Via.refl e7 f6_16 f6_11 (Or.inl (hw _ (List.mem_of_getElem? (i := 39) rfl))) (hw _ (List.mem_of_getElem? (i := 10) rfl)) (ty := .int) (by decide) rfl rfl (g := (mkF m 81 #[.val (.ref a1), .val (.long q1), .second, .val (.int (0 : Int32))] [(.int (n1 + (1 : Int32))), (.ref a1)])) rfl rfl (hb hby d6_81)
  have f8_25 : Exa Z h8 a1 "com/example/dilate_query/dilatequery/collection/PostIds" := f6_11.wr W8
  have f8_26 : Fld Z h8 a1 "com/example/dilate_query/dilatequery/collection/PostIds" "blocks" "[[J" (.ref b1) := Fld.other W8 f6_12 (Or.inr (slot_ne (Or.inl (hw _ (List.mem_of_getElem? (i := 21) rfl))) (Or.inl (hw _ (List.mem_of_getElem? (i := 39) rfl))) (by decide) (t := (.array (.array .long))) (t' := .int) (by decide) (by decide)))
  have f8_27 : Fld Z h8 a1 "com/example/dilate_query/dilatequery/collection/PostIds" "table" "[J" (.ref t1) := Fld.other W8 f6_13 (Or.inr (slot_ne (Or.inl (hw _ (List.mem_of_getElem? (i := 24) rfl))) (Or.inl (hw _ (List.mem_of_getElem? (i := 39) rfl))) (by decide) (t := (.array .long)) (t' := .int) (by decide) (by decide)))
  have f8_28 : Fld Z h8 a1 "com/example/dilate_query/dilatequery/collection/PostIds" "tableBits" "I" (.int (10 : Int32)) := Fld.other W8 f6_14 (Or.inr (slot_ne (Or.inl (hw _ (List.mem_of_getElem? (i := 26) rfl))) (Or.inl (hw _ (List.mem_of_getElem? (i := 39) rfl))) (by decide) (t := .int) (t' := .int) (by decide) (by decide)))
  have f8_29 : Fld Z h8 a1 "com/example/dilate_query/dilatequery/collection/PostIds" "largest" "J" (.long lg) := Fld.other W8 f6_15 (Or.inr (slot_ne (Or.inl (hw _ (List.mem_of_getElem? (i := 33) rfl))) (Or.inl (hw _ (List.mem_of_getElem? (i := 39) rfl))) (by decide) (t := .long) (t' := .int) (by decide) (by decide)))
  have f8_30 : Fld Z h8 a1 "com/example/dilate_query/dilatequery/collection/PostIds" "tableCount" "I" (.int tc) := Fld.other W8 f6_17 (Or.inr (slot_ne (Or.inl (hw _ (List.mem_of_getElem? (i := 55) rfl))) (Or.inl (hw _ (List.mem_of_getElem? (i := 39) rfl))) (by decide) (t := .int) (t' := .int) (by decide) (by decide)))
  have f8_31 : own_Tb Z h8 t1 T := f6_18.other W8 (Ne.symm n_at)
  have f8_32 : Arv Z h8 b1 kb (.array .long) (1 : Int32) [(.ref k1)] .null := f6_19.other W8 (Ne.symm n_ab)
  have f8_33 : Arv Z h8 k1 kk .long (16384 : Int32) ((asc ++ [q1]).map Value.long) (.long (0 : Int64)) := f6_21.other W8 (Ne.symm n_ak)
  have Z8 : n0 ≤ h8.size := by rw [W8.size]; exact Z6
  have f8_35 : Fld Z h8 a1 "com/example/dilate_query/dilatequery/collection/PostIds" "ascendingCount" "I" (.int (n1 + (1 : Int32))) := Fld.same W8 f6_16
  have N8 := Fr.snoc X8 N6 g_a
  obtain ⟨T9, h9, X9, e9, W9, st9⟩ := putF X8 hx hZ hown (host := "") (Or.inl (hw _ (List.mem_of_getElem? (i := 32) rfl))) Via.refl e8 f8_29 f8_25 (Or.inl (hw _ (List.mem_of_getElem? (i := 33) rfl))) (hw _ (List.mem_of_getElem? (i := 10) rfl)) (ty := .long) (by decide) rfl rfl (g := (mkF m 86 #[.val (.ref a1), .val (.long q1), .second, .val (.int (0 : Int32))] [(.long q1), (.ref a1)])) rfl rfl (hb hby d6_86)
  have f9_38 : Exa Z h9 a1 "com/example/dilate_query/dilatequery/collection/PostIds" := f8_25.wr W9
  have f9_39 : Fld Z h9 a1 "com/example/dilate_query/dilatequery/collection/PostIds" "blocks" "[[J" (.ref b1) := Fld.other W9 f8_26 (Or.inr (slot_ne (Or.inl (hw _ (List.mem_of_getElem? (i := 21) rfl))) (Or.inl (hw _ (List.mem_of_getElem? (i := 33) rfl))) (by decide) (t := (.array (.array .long))) (t' := .long) (by decide) (by decide)))
  have f9_40 : Fld Z h9 a1 "com/example/dilate_query/dilatequery/collection/PostIds" "table" "[J" (.ref t1) := Fld.other W9 f8_27 (Or.inr (slot_ne (Or.inl (hw _ (List.mem_of_getElem? (i := 24) rfl))) (Or.inl (hw _ (List.mem_of_getElem? (i := 33) rfl))) (by decide) (t := (.array .long)) (t' := .long) (by decide) (by decide)))
  have f9_41 : Fld Z h9 a1 "com/example/dilate_query/dilatequery/collection/PostIds" "tableBits" "I" (.int (10 : Int32)) := Fld.other W9 f8_28 (Or.inr (slot_ne (Or.inl (hw _ (List.mem_of_getElem? (i := 26) rfl))) (Or.inl (hw _ (List.mem_of_getElem? (i := 33) rfl))) (by decide) (t := .int) (t' := .long) (by decide) (by decide)))
  have f9_42 : Fld Z h9 a1 "com/example/dilate_query/dilatequery/collection/PostIds" "ascendingCount" "I" (.int (n1 + (1 : Int32))) := Fld.other W9 f8_35 (Or.inr (slot_ne (Or.inl (hw _ (List.mem_of_getElem? (i := 39) rfl))) (Or.inl (hw _ (List.mem_of_getElem? (i := 33) rfl))) (by decide) (t := .int) (t' := .long) (by decide) (by decide)))
  have f9_43 : Fld Z h9 a1 "com/example/dilate_query/dilatequery/collection/PostIds" "tableCount" "I" (.int tc) := Fld.other W9 f8_30 (Or.inr (slot_ne (Or.inl (hw _ (List.mem_of_getElem? (i := 55) rfl))) (Or.inl (hw _ (List.mem_of_getElem? (i := 33) rfl))) (by decide) (t := .int) (t' := .long) (by decide) (by decide)))
  have f9_44 : own_Tb Z h9 t1 T := f8_31.other W9 (Ne.symm n_at)
  have f9_45 : Arv Z h9 b1 kb (.array .long) (1 : Int32) [(.ref k1)] .null := f8_32.other W9 (Ne.symm n_ab)
  have f9_46 : Arv Z h9 k1 kk .long (16384 : Int32) ((asc ++ [q1]).map Value.long) (.long (0 : Int64)) := f8_33.other W9 (Ne.symm n_ak)
  have Z9 : n0 ≤ h9.size := by rw [W9.size]; exact Z8
  have f9_48 : Fld Z h9 a1 "com/example/dilate_query/dilatequery/collection/PostIds" "largest" "J" (.long q1) := Fld.same W9 f8_29
  have N9 := Fr.snoc X9 N8 g_a
  obtain ⟨fs, hr, hrun, hended, hW, hsame⟩ := X9.leave (v := none) (fun _ => rfl)
  refine ⟨_, _, pre0 _ ?_, hrun, hended, _, _, rfl, ?_, ⟨_, rfl⟩, hW, hsame.mono (by decide) (by decide)⟩
  · show Steps p.tables e below (s₁.setTop (mkF m 0 #[.val (.ref a1), .val (.long q1), .second, .unset] [])) _
    refine XS.aloadN X0.here hx rfl (hb hby d6_0) rfl rfl ?_
    show Steps p.tables e below (s₁.setTop (mkF m 1 #[.val (.ref a1), .val (.long q1), .second, .unset] [(.ref a1)])) _
    refine st1 _ ?_
    show Steps p.tables e below (T1.setTop (mkF m 4 #[.val (.ref a1), .val (.long q1), .second, .unset] [(.int n1)])) _
    refine XS.bipush X1.here hx rfl (hb hby d6_4) ?_
    show Steps p.tables e below (T1.setTop (mkF m 6 #[.val (.ref a1), .val (.long q1), .second, .unset] [(.int (14 : Int32)), (.int n1)])) _
    refine XS.iushr X1.here hx rfl (hb hby d6_6) rfl ?_
    show Steps p.tables e below (T1.setTop (mkF m 7 #[.val (.ref a1), .val (.long q1), .second, .unset] [(.int ((n1.toUInt32 >>> ((14 : Int32) &&& 31).toUInt32).toInt32))])) _
    rw [h14]
    show Steps p.tables e below (T1.setTop (mkF m 7 #[.val (.ref a1), .val (.long q1), .second, .unset] [(.int (0 : Int32))])) _
    refine XS.istoreN X1.here hx rfl (hb hby d6_7) rfl (l' := #[.val (.ref a1), .val (.long q1), .second, .val (.int (0 : Int32))]) rfl ?_
    show Steps p.tables e below (T1.setTop (mkF m 8 #[.val (.ref a1), .val (.long q1), .second, .val (.int (0 : Int32))] [])) _
    refine XS.iloadN X1.here hx rfl (hb hby d6_8) rfl ?_
    show Steps p.tables e below (T1.setTop (mkF m 9 #[.val (.ref a1), .val (.long q1), .second, .val (.int (0 : Int32))] [(.int (0 : Int32))])) _
    refine XS.aloadN X1.here hx rfl (hb hby d6_9) rfl rfl ?_
    show Steps p.tables e below (T1.setTop (mkF m 10 #[.val (.ref a1), .val (.long q1), .second, .val (.int (0 : Int32))] [(.ref a1), (.int (0 : Int32))])) _
    refine st2 _ ?_
    show Steps p.tables e below (T2.setTop (mkF m 13 #[.val (.ref a1), .val (.long q1), .second, .val (.int (0 : Int32))] [(.ref b1), (.int (0 : Int32))])) _
    refine X2.arraylength hx (by rw [e2]; exact Arl2.1) (State.isArrayOf_alike hZ.alike Arl2.2.1) (g := (mkF m 13 #[.val (.ref a1), .val (.long q1), .second, .val (.int (0 : Int32))] [(.ref b1), (.int (0 : Int32))])) rfl rfl (hb hby d6_13) _ ?_
    rw [len_of Sl2 Ml2]
    show Steps p.tables e below (T2.setTop (mkF m 14 #[.val (.ref a1), .val (.long q1), .second, .val (.int (0 : Int32))] [(.int (1 : Int32)), (.int (0 : Int32))])) _
    refine XS.icmpYes X2.here hx rfl (pc0 := 14) (pc' := 38) rfl (hb hby d6_14) rfl (feq (by decide +kernel)).2 (by decide) (by decide) ?_
    show Steps p.tables e below (T2.setTop (mkF m 38 #[.val (.ref a1), .val (.long q1), .second, .val (.int (0 : Int32))] [])) _
    refine XS.aloadN X2.here hx rfl (hb hby d6_38) rfl rfl ?_
    show Steps p.tables e below (T2.setTop (mkF m 39 #[.val (.ref a1), .val (.long q1), .second, .val (.int (0 : Int32))] [(.ref a1)])) _
    refine st3 _ ?_
    show Steps p.tables e below (T3.setTop (mkF m 42 #[.val (.ref a1), .val (.long q1), .second, .val (.int (0 : Int32))] [(.ref b1)])) _
    refine XS.iloadN X3.here hx rfl (hb hby d6_42) rfl ?_
    show Steps p.tables e below (T3.setTop (mkF m 43 #[.val (.ref a1), .val (.long q1), .second, .val (.int (0 : Int32))] [(.int (0 : Int32)), (.ref b1)])) _
    refine X3.aaload hx (j := (0 : Int32)) (v := (.ref k1)) (by rw [e3]; exact Arr4.1) (State.isArrayOf_alike hZ.alike Arr4.2.1) rfl Arr4.2.2 (inb_of Sr4 ⟨by decide, by decide⟩) (Hr4.at (inb_of Sr4 ⟨by decide, by decide⟩) rfl) (g := (mkF m 43 #[.val (.ref a1), .val (.long q1), .second, .val (.int (0 : Int32))] [(.int (0 : Int32)), (.ref b1)])) rfl rfl (hb hby d6_43) _ ?_
    show Steps p.tables e below (T3.setTop (mkF m 44 #[.val (.ref a1), .val (.long q1), .second, .val (.int (0 : Int32))] [(.ref k1)])) _
    refine XS.ifnonnullYes X3.here hx rfl (pc0 := 44) (pc' := 58) rfl (hb hby d6_44) rfl (by decide) (by decide) ?_
    show Steps p.tables e below (T3.setTop (mkF m 58 #[.val (.ref a1), .val (.long q1), .second, .val (.int (0 : Int32))] [])) _
    refine XS.aloadN X3.here hx rfl (hb hby d6_58) rfl rfl ?_
    show Steps p.tables e below (T3.setTop (mkF m 59 #[.val (.ref a1), .val (.long q1), .second, .val (.int (0 : Int32))] [(.ref a1)])) _
    refine st4 _ ?_
    show Steps p.tables e below (T4.setTop (mkF m 62 #[.val (.ref a1), .val (.long q1), .second, .val (.int (0 : Int32))] [(.ref b1)])) _
    refine XS.iloadN X4.here hx rfl (hb hby d6_62) rfl ?_
    show Steps p.tables e below (T4.setTop (mkF m 63 #[.val (.ref a1), .val (.long q1), .second, .val (.int (0 : Int32))] [(.int (0 : Int32)), (.ref b1)])) _
    refine X4.aaload hx (j := (0 : Int32)) (v := (.ref k1)) (by rw [e4]; exact Arr6.1) (State.isArrayOf_alike hZ.alike Arr6.2.1) rfl Arr6.2.2 (inb_of Sr6 ⟨by decide, by decide⟩) (Hr6.at (inb_of Sr6 ⟨by decide, by decide⟩) rfl) (g := (mkF m 63 #[.val (.ref a1), .val (.long q1), .second, .val (.int (0 : Int32))] [(.int (0 : Int32)), (.ref b1)])) rfl rfl (hb hby d6_63) _ ?_
    show Steps p.tables e below (T4.setTop (mkF m 64 #[.val (.ref a1), .val (.long q1), .second, .val (.int (0 : Int32))] [(.ref k1)])) _
    refine XS.aloadN X4.here hx rfl (hb hby d6_64) rfl rfl ?_
    show Steps p.tables e below (T4.setTop (mkF m 65 #[.val (.ref a1), .val (.long q1), .second, .val (.int (0 : Int32))] [(.ref a1), (.ref k1)])) _
    refine st5 _ ?_
    show Steps p.tables e below (T5.setTop (mkF m 68 #[.val (.ref a1), .val (.long q1), .second, .val (.int (0 : Int32))] [(.int n1), (.ref k1)])) _
    refine XS.sipush X5.here hx rfl (hb hby d6_68) ?_
    show Steps p.tables e below (T5.setTop (mkF m 71 #[.val (.ref a1), .val (.long q1), .second, .val (.int (0 : Int32))] [(.int (16383 : Int32)), (.int n1), (.ref k1)])) _
    refine XS.iand X5.here hx rfl (hb hby d6_71) rfl ?_
    show Steps p.tables e below (T5.setTop (mkF m 72 #[.val (.ref a1), .val (.long q1), .second, .val (.int (0 : Int32))] [(.int (n1 &&& (16383 : Int32))), (.ref k1)])) _
    rw [h16]
    show Steps p.tables e below (T5.setTop (mkF m 72 #[.val (.ref a1), .val (.long q1), .second, .val (.int (0 : Int32))] [(.int n1), (.ref k1)])) _
    refine XS.lloadN X5.here hx rfl (hb hby d6_72) rfl ?_
    show Steps p.tables e below (T5.setTop (mkF m 73 #[.val (.ref a1), .val (.long q1), .second, .val (.int (0 : Int32))] [(.long q1), (.int n1), (.ref k1)])) _
    refine st6 _ ?_
    show Steps p.tables e below (T6.setTop (mkF m 74 #[.val (.ref a1), .val (.long q1), .second, .val (.int (0 : Int32))] [])) _
    refine XS.aloadN X6.here hx rfl (hb hby d6_74) rfl rfl ?_
    show Steps p.tables e below (T6.setTop (mkF m 75 #[.val (.ref a1), .val (.long q1), .second, .val (.int (0 : Int32))] [(.ref a1)])) _
    refine XS.dup X6.here hx rfl (hb hby d6_75) rfl rfl ?_
    show Steps p.tables e below (T6.setTop (mkF m 76 #[.val (.ref a1), .val (.long q1), .second, .val (.int (0 : Int32))] [(.ref a1), (.ref a1)])) _
    refine st7 _ ?_
    show Steps p.tables e below (T7.setTop (mkF m 79 #[.val (.ref a1), .val (.long q1), .second, .val (.int (0 : Int32))] [(.int n1), (.ref a1)])) _
    refine XS.iconst X7.here hx rfl (hb hby d6_79) ?_
    show Steps p.tables e below (T7.setTop (mkF m 80 #[.val (.ref a1), .val (.long q1), .second, .val (.int (0 : Int32))] [(.int (1 : Int32)), (.int n1), (.ref a1)])) _
    refine XS.iadd X7.here hx rfl (hb hby d6_80) rfl ?_
    show Steps p.tables e below (T7.setTop (mkF m 81 #[.val (.ref a1), .val (.long q1), .second, .val (.int (0 : Int32))] [(.int (n1 + (1 : Int32))), (.ref a1)])) _
    refine st8 _ ?_
    show Steps p.tables e below (T8.setTop (mkF m 84 #[.val (.ref a1), .val (.long q1), .second, .val (.int (0 : Int32))] [])) _
    refine XS.aloadN X8.here hx rfl (hb hby d6_84) rfl rfl ?_
    show Steps p.tables e below (T8.setTop (mkF m 85 #[.val (.ref a1), .val (.long q1), .second, .val (.int (0 : Int32))] [(.ref a1)])) _
    refine XS.lloadN X8.here hx rfl (hb hby d6_85) rfl ?_
    show Steps p.tables e below (T8.setTop (mkF m 86 #[.val (.ref a1), .val (.long q1), .second, .val (.int (0 : Int32))] [(.long q1), (.ref a1)])) _
    refine st9 _ ?_
    show Steps p.tables e below (T9.setTop (mkF m 89 #[.val (.ref a1), .val (.long q1), .second, .val (.int (0 : Int32))] [])) _
    exact X9.returnOut hx Bd.returns (hb hby d6_89) hr
  · show Q6 Z a1 q1 b1 t1 k1 kb kk asc T n1 tc lg h0 n0 _ T9.heap _
    rw [e9]
    exact ⟨rfl, N9, f9_38, f9_39, f9_40, f9_41, f9_48, f9_42, f9_43, f9_44, f9_45, f9_46, Z9⟩
theorem own_os5 {z0 z1 z2 z3 : Value} {s5 s6 s7 : Slot} {v : Int32} (h : One s5) : storeLocals #[.val z0, .val z1, .second, .val z2, .val z3, s5, s6, s7] 5 (.int v) = some #[.val z0, .val z1, .second, .val z2, .val z3, .val (.int v), s6, s7] := by
  rcases h with rfl | ⟨w, rfl, hw⟩
  · rfl
  · cases w <;> first | rfl | (simp [Value.category] at hw)
theorem own_os6 {z0 z1 z2 z3 z5 : Value} {s6 s7 : Slot} {v : Int64} (h : own_Two s6 s7) : storeLocals #[.val z0, .val z1, .second, .val z2, .val z3, .val z5, s6, s7] 6 (.long v) = some #[.val z0, .val z1, .second, .val z2, .val z3, .val z5, .val (.long v), .second] := by
  rcases h with ⟨rfl, rfl⟩ | ⟨x, rfl, rfl⟩ <;> rfl
theorem d7_0 : decode prog_2_method_4_code 0 = .ok (.iconst 0, 1) := by decide +kernel
theorem d7_1 : decode prog_2_method_4_code 1 = .ok (.istore_n 3, 1) := by decide +kernel
theorem d7_2 : decode prog_2_method_4_code 2 = .ok (.aload_n 0, 1) := by decide +kernel
theorem d7_3 : decode prog_2_method_4_code 3 = .ok (.getfield 37, 3) := by decide +kernel
theorem d7_6 : decode prog_2_method_4_code 6 = .ok (.iconst 1, 1) := by decide +kernel
theorem d7_7 : decode prog_2_method_4_code 7 = .ok (.isub, 1) := by decide +kernel
theorem d7_8 : decode prog_2_method_4_code 8 = .ok (.istore 4, 2) := by decide +kernel
theorem d7_10 : decode prog_2_method_4_code 10 = .ok (.iload_n 3, 1) := by decide +kernel
theorem d7_11 : decode prog_2_method_4_code 11 = .ok (.iload 4, 2) := by decide +kernel
theorem d7_13 : decode prog_2_method_4_code 13 = .ok (.if_icmp .gt 66, 3) := by decide +kernel
theorem d7_16 : decode prog_2_method_4_code 16 = .ok (.iload_n 3, 1) := by decide +kernel
theorem d7_17 : decode prog_2_method_4_code 17 = .ok (.iload 4, 2) := by decide +kernel
theorem d7_19 : decode prog_2_method_4_code 19 = .ok (.iadd, 1) := by decide +kernel
theorem d7_20 : decode prog_2_method_4_code 20 = .ok (.iconst 1, 1) := by decide +kernel
theorem d7_21 : decode prog_2_method_4_code 21 = .ok (.iushr, 1) := by decide +kernel
theorem d7_22 : decode prog_2_method_4_code 22 = .ok (.istore 5, 2) := by decide +kernel
theorem d7_24 : decode prog_2_method_4_code 24 = .ok (.aload_n 0, 1) := by decide +kernel
theorem d7_25 : decode prog_2_method_4_code 25 = .ok (.getfield 11, 3) := by decide +kernel
theorem d7_28 : decode prog_2_method_4_code 28 = .ok (.iload 5, 2) := by decide +kernel
theorem d7_30 : decode prog_2_method_4_code 30 = .ok (.bipush 14, 2) := by decide +kernel
theorem d7_32 : decode prog_2_method_4_code 32 = .ok (.iushr, 1) := by decide +kernel
theorem d7_33 : decode prog_2_method_4_code 33 = .ok (.aaload, 1) := by decide +kernel
theorem d7_34 : decode prog_2_method_4_code 34 = .ok (.iload 5, 2) := by decide +kernel
theorem d7_36 : decode prog_2_method_4_code 36 = .ok (.sipush 16383, 3) := by decide +kernel
theorem d7_39 : decode prog_2_method_4_code 39 = .ok (.iand, 1) := by decide +kernel
theorem d7_40 : decode prog_2_method_4_code 40 = .ok (.laload, 1) := by decide +kernel
theorem d7_41 : decode prog_2_method_4_code 41 = .ok (.lstore 6, 2) := by decide +kernel
theorem d7_43 : decode prog_2_method_4_code 43 = .ok (.lload 6, 2) := by decide +kernel
theorem d7_45 : decode prog_2_method_4_code 45 = .ok (.lload_n 1, 1) := by decide +kernel
theorem d7_46 : decode prog_2_method_4_code 46 = .ok (.lcmp, 1) := by decide +kernel
theorem d7_47 : decode prog_2_method_4_code 47 = .ok (.ifCond .ge 11, 3) := by decide +kernel
theorem d7_50 : decode prog_2_method_4_code 50 = .ok (.iload 5, 2) := by decide +kernel
theorem d7_52 : decode prog_2_method_4_code 52 = .ok (.iconst 1, 1) := by decide +kernel
theorem d7_53 : decode prog_2_method_4_code 53 = .ok (.iadd, 1) := by decide +kernel
theorem d7_54 : decode prog_2_method_4_code 54 = .ok (.istore_n 3, 1) := by decide +kernel
theorem d7_55 : decode prog_2_method_4_code 55 = .ok (.goto 21, 3) := by decide +kernel
theorem d7_58 : decode prog_2_method_4_code 58 = .ok (.lload 6, 2) := by decide +kernel
theorem d7_60 : decode prog_2_method_4_code 60 = .ok (.lload_n 1, 1) := by decide +kernel
theorem d7_61 : decode prog_2_method_4_code 61 = .ok (.lcmp, 1) := by decide +kernel
theorem d7_62 : decode prog_2_method_4_code 62 = .ok (.ifCond .le 12, 3) := by decide +kernel
theorem d7_65 : decode prog_2_method_4_code 65 = .ok (.iload 5, 2) := by decide +kernel
theorem d7_67 : decode prog_2_method_4_code 67 = .ok (.iconst 1, 1) := by decide +kernel
theorem d7_68 : decode prog_2_method_4_code 68 = .ok (.isub, 1) := by decide +kernel
theorem d7_69 : decode prog_2_method_4_code 69 = .ok (.istore 4, 2) := by decide +kernel
theorem d7_71 : decode prog_2_method_4_code 71 = .ok (.goto 5, 3) := by decide +kernel
theorem d7_74 : decode prog_2_method_4_code 74 = .ok (.iconst 1, 1) := by decide +kernel
theorem d7_75 : decode prog_2_method_4_code 75 = .ok (.ireturn, 1) := by decide +kernel
theorem d7_76 : decode prog_2_method_4_code 76 = .ok (.goto (-66), 3) := by decide +kernel
theorem d7_79 : decode prog_2_method_4_code 79 = .ok (.iconst 0, 1) := by decide +kernel
theorem d7_80 : decode prog_2_method_4_code 80 = .ok (.ireturn, 1) := by decide +kernel
set_option maxRecDepth 65536 in
set_option maxHeartbeats 40000000 in
theorem tn7A {p : Program} {l : Launch} {e : Env} {R : Room} {s : State} {m : MethodId} {args : Array Value} {below : List Frame} {meth : Method} {c : Code} {T0 : State} {locs : List Loc} {cells slots : Nat} {Z : State} {a0 : Array Value} {h0 : Heap} (a1 b1 k1 : Addr) (kb : ClassId) (q1 : Int64) (i3 i4 m5 : Int32) (v6 : Int64) (s5 s6 s7 : Slot) (ck : Cell)
    (X0 : Stand p l e R s m args below meth c T0 locs cells slots) (hx : p.tables.exec = Jvm.exec) (hZ : Z.Warmed39 s.vm) (hw : ∀ d ∈ tables_1, d.before a0 Z = true) (hby : c.code = prog_2_method_4_code) (hml : c.maxLocals = 8) (hown : s.vm.findClass "com/example/dilate_query/dilatequery/collection/PostIds" = some m.cls) (e0 : T0.heap = h0) (F_bl : Fld Z h0 a1 "com/example/dilate_query/dilatequery/collection/PostIds" "blocks" "[[J" (.ref b1)) (V_b : Arv Z h0 b1 kb (.array .long) (1 : Int32) [(.ref k1)] .null) (Ark : Arr Z h0 k1 ck .long) (hin : ¬ (m5 < 0 ∨ ck.slots.size ≤ m5.toNatClampNeg)) (hat : ck.slots[m5.toNatClampNeg]? = some (.long v6)) (hs5 : One s5) (hs6 : own_Two s6 s7) (hle : ¬ i4 < i3) (hmid : (((i3 + i4).toUInt32 >>> ((1 : Int32) &&& 31).toUInt32).toInt32) = m5) (h14 : ((m5.toUInt32 >>> ((14 : Int32) &&& 31).toUInt32).toInt32) = (0 : Int32)) (h16 : (m5 &&& (16383 : Int32)) = m5) (hlt : v6 < q1) :
    ∃ T' : State, Stand p l e R s m args below meth c T' locs cells slots ∧ T'.heap = h0 ∧ ∀ target, Steps p.tables e below (T'.setTop (mkF m 10 #[.val (.ref a1), .val (.long q1), .second, .val (.int (m5 + (1 : Int32))), .val (.int i4), .val (.int m5), .val (.long v6), .second] [])) target → Steps p.tables e below (T0.setTop (mkF m 10 #[.val (.ref a1), .val (.long q1), .second, .val (.int i3), .val (.int i4), s5, s6, s7] [])) target := by
  obtain ⟨T1, X1, e1, st1⟩ := getF X0 hx hZ hown (host := "") (Or.inl (hw _ (List.mem_of_getElem? (i := 20) rfl))) Via.refl e0 F_bl (g := (mkF m 25 #[.val (.ref a1), .val (.long q1), .second, .val (.int i3), .val (.int i4), .val (.int m5), s6, s7] [(.ref a1)])) rfl rfl (hb hby d7_25)
  obtain ⟨clr1, Arr1, qr1, Sr1, Mr1, Hr1, Gr1⟩ := id V_b
  refine ⟨T1, X1, e1, fun target kt => ?_⟩
  show Steps p.tables e below (T0.setTop (mkF m 10 #[.val (.ref a1), .val (.long q1), .second, .val (.int i3), .val (.int i4), s5, s6, s7] [])) _
  refine XS.iloadN X0.here hx rfl (hb hby d7_10) rfl ?_
  show Steps p.tables e below (T0.setTop (mkF m 11 #[.val (.ref a1), .val (.long q1), .second, .val (.int i3), .val (.int i4), s5, s6, s7] [(.int i3)])) _
  refine XS.iload X0.here hx rfl (hb hby d7_11) rfl ?_
  show Steps p.tables e below (T0.setTop (mkF m 13 #[.val (.ref a1), .val (.long q1), .second, .val (.int i3), .val (.int i4), s5, s6, s7] [(.int i4), (.int i3)])) _
  refine XS.icmpNo X0.here hx rfl (hb hby d7_13) rfl (flt hle).2.2.1 ?_
  show Steps p.tables e below (T0.setTop (mkF m 16 #[.val (.ref a1), .val (.long q1), .second, .val (.int i3), .val (.int i4), s5, s6, s7] [])) _
  refine XS.iloadN X0.here hx rfl (hb hby d7_16) rfl ?_
  show Steps p.tables e below (T0.setTop (mkF m 17 #[.val (.ref a1), .val (.long q1), .second, .val (.int i3), .val (.int i4), s5, s6, s7] [(.int i3)])) _
  refine XS.iload X0.here hx rfl (hb hby d7_17) rfl ?_
  show Steps p.tables e below (T0.setTop (mkF m 19 #[.val (.ref a1), .val (.long q1), .second, .val (.int i3), .val (.int i4), s5, s6, s7] [(.int i4), (.int i3)])) _
  refine XS.iadd X0.here hx rfl (hb hby d7_19) rfl ?_
  show Steps p.tables e below (T0.setTop (mkF m 20 #[.val (.ref a1), .val (.long q1), .second, .val (.int i3), .val (.int i4), s5, s6, s7] [(.int (i3 + i4))])) _
  refine XS.iconst X0.here hx rfl (hb hby d7_20) ?_
  show Steps p.tables e below (T0.setTop (mkF m 21 #[.val (.ref a1), .val (.long q1), .second, .val (.int i3), .val (.int i4), s5, s6, s7] [(.int (1 : Int32)), (.int (i3 + i4))])) _
  refine XS.iushr X0.here hx rfl (hb hby d7_21) rfl ?_
  show Steps p.tables e below (T0.setTop (mkF m 22 #[.val (.ref a1), .val (.long q1), .second, .val (.int i3), .val (.int i4), s5, s6, s7] [(.int (((i3 + i4).toUInt32 >>> ((1 : Int32) &&& 31).toUInt32).toInt32))])) _
  rw [hmid]
  show Steps p.tables e below (T0.setTop (mkF m 22 #[.val (.ref a1), .val (.long q1), .second, .val (.int i3), .val (.int i4), s5, s6, s7] [(.int m5)])) _
  refine XS.istore X0.here hx rfl (hb hby d7_22) rfl (l' := #[.val (.ref a1), .val (.long q1), .second, .val (.int i3), .val (.int i4), .val (.int m5), s6, s7]) (own_os5 hs5) ?_
  show Steps p.tables e below (T0.setTop (mkF m 24 #[.val (.ref a1), .val (.long q1), .second, .val (.int i3), .val (.int i4), .val (.int m5), s6, s7] [])) _
  refine XS.aloadN X0.here hx rfl (hb hby d7_24) rfl rfl ?_
  show Steps p.tables e below (T0.setTop (mkF m 25 #[.val (.ref a1), .val (.long q1), .second, .val (.int i3), .val (.int i4), .val (.int m5), s6, s7] [(.ref a1)])) _
  refine st1 _ ?_
  show Steps p.tables e below (T1.setTop (mkF m 28 #[.val (.ref a1), .val (.long q1), .second, .val (.int i3), .val (.int i4), .val (.int m5), s6, s7] [(.ref b1)])) _
  refine XS.iload X1.here hx rfl (hb hby d7_28) rfl ?_
  show Steps p.tables e below (T1.setTop (mkF m 30 #[.val (.ref a1), .val (.long q1), .second, .val (.int i3), .val (.int i4), .val (.int m5), s6, s7] [(.int m5), (.ref b1)])) _
  refine XS.bipush X1.here hx rfl (hb hby d7_30) ?_
  show Steps p.tables e below (T1.setTop (mkF m 32 #[.val (.ref a1), .val (.long q1), .second, .val (.int i3), .val (.int i4), .val (.int m5), s6, s7] [(.int (14 : Int32)), (.int m5), (.ref b1)])) _
  refine XS.iushr X1.here hx rfl (hb hby d7_32) rfl ?_
  show Steps p.tables e below (T1.setTop (mkF m 33 #[.val (.ref a1), .val (.long q1), .second, .val (.int i3), .val (.int i4), .val (.int m5), s6, s7] [(.int ((m5.toUInt32 >>> ((14 : Int32) &&& 31).toUInt32).toInt32)), (.ref b1)])) _
  rw [h14]
  show Steps p.tables e below (T1.setTop (mkF m 33 #[.val (.ref a1), .val (.long q1), .second, .val (.int i3), .val (.int i4), .val (.int m5), s6, s7] [(.int (0 : Int32)), (.ref b1)])) _
  refine X1.aaload hx (j := (0 : Int32)) (v := (.ref k1)) (by rw [e1]; exact Arr1.1) (State.isArrayOf_alike hZ.alike Arr1.2.1) rfl Arr1.2.2 (inb_of Sr1 ⟨by decide, by decide⟩) (Hr1.at (inb_of Sr1 ⟨by decide, by decide⟩) rfl) (g := (mkF m 33 #[.val (.ref a1), .val (.long q1), .second, .val (.int i3), .val (.int i4), .val (.int m5), s6, s7] [(.int (0 : Int32)), (.ref b1)])) rfl rfl (hb hby d7_33) _ ?_
  show Steps p.tables e below (T1.setTop (mkF m 34 #[.val (.ref a1), .val (.long q1), .second, .val (.int i3), .val (.int i4), .val (.int m5), s6, s7] [(.ref k1)])) _
  refine XS.iload X1.here hx rfl (hb hby d7_34) rfl ?_
  show Steps p.tables e below (T1.setTop (mkF m 36 #[.val (.ref a1), .val (.long q1), .second, .val (.int i3), .val (.int i4), .val (.int m5), s6, s7] [(.int m5), (.ref k1)])) _
  refine XS.sipush X1.here hx rfl (hb hby d7_36) ?_
  show Steps p.tables e below (T1.setTop (mkF m 39 #[.val (.ref a1), .val (.long q1), .second, .val (.int i3), .val (.int i4), .val (.int m5), s6, s7] [(.int (16383 : Int32)), (.int m5), (.ref k1)])) _
  refine XS.iand X1.here hx rfl (hb hby d7_39) rfl ?_
  show Steps p.tables e below (T1.setTop (mkF m 40 #[.val (.ref a1), .val (.long q1), .second, .val (.int i3), .val (.int i4), .val (.int m5), s6, s7] [(.int (m5 &&& (16383 : Int32))), (.ref k1)])) _
  rw [h16]
  show Steps p.tables e below (T1.setTop (mkF m 40 #[.val (.ref a1), .val (.long q1), .second, .val (.int i3), .val (.int i4), .val (.int m5), s6, s7] [(.int m5), (.ref k1)])) _
  refine X1.laload hx (j := m5) (v := (.long v6)) (by rw [e1]; exact Ark.1) (State.isArrayOf_alike hZ.alike Ark.2.1) Ark.2.2 hin hat (g := (mkF m 40 #[.val (.ref a1), .val (.long q1), .second, .val (.int i3), .val (.int i4), .val (.int m5), s6, s7] [(.int m5), (.ref k1)])) rfl rfl (hb hby d7_40) _ ?_
  show Steps p.tables e below (T1.setTop (mkF m 41 #[.val (.ref a1), .val (.long q1), .second, .val (.int i3), .val (.int i4), .val (.int m5), s6, s7] [(.long v6)])) _
  refine XS.lstore X1.here hx rfl (hb hby d7_41) rfl (l' := #[.val (.ref a1), .val (.long q1), .second, .val (.int i3), .val (.int i4), .val (.int m5), .val (.long v6), .second]) (own_os6 hs6) ?_
  show Steps p.tables e below (T1.setTop (mkF m 43 #[.val (.ref a1), .val (.long q1), .second, .val (.int i3), .val (.int i4), .val (.int m5), .val (.long v6), .second] [])) _
  refine XS.lload X1.here hx rfl (hb hby d7_43) rfl ?_
  show Steps p.tables e below (T1.setTop (mkF m 45 #[.val (.ref a1), .val (.long q1), .second, .val (.int i3), .val (.int i4), .val (.int m5), .val (.long v6), .second] [(.long v6)])) _
  refine XS.lloadN X1.here hx rfl (hb hby d7_45) rfl ?_
  show Steps p.tables e below (T1.setTop (mkF m 46 #[.val (.ref a1), .val (.long q1), .second, .val (.int i3), .val (.int i4), .val (.int m5), .val (.long v6), .second] [(.long q1), (.long v6)])) _
  refine XS.lcmp X1.here hx rfl (hb hby d7_46) rfl ?_
  show Steps p.tables e below (T1.setTop (mkF m 47 #[.val (.ref a1), .val (.long q1), .second, .val (.int i3), .val (.int i4), .val (.int m5), .val (.long v6), .second] [(.int (lcmpW v6 q1))])) _
  refine XS.ifNo X1.here hx rfl (hb hby d7_47) rfl ((if0 _ _).trans (tlt ((lw_lt _ _).mpr hlt)).2.1) ?_
  show Steps p.tables e below (T1.setTop (mkF m 50 #[.val (.ref a1), .val (.long q1), .second, .val (.int i3), .val (.int i4), .val (.int m5), .val (.long v6), .second] [])) _
  refine XS.iload X1.here hx rfl (hb hby d7_50) rfl ?_
  show Steps p.tables e below (T1.setTop (mkF m 52 #[.val (.ref a1), .val (.long q1), .second, .val (.int i3), .val (.int i4), .val (.int m5), .val (.long v6), .second] [(.int m5)])) _
  refine XS.iconst X1.here hx rfl (hb hby d7_52) ?_
  show Steps p.tables e below (T1.setTop (mkF m 53 #[.val (.ref a1), .val (.long q1), .second, .val (.int i3), .val (.int i4), .val (.int m5), .val (.long v6), .second] [(.int (1 : Int32)), (.int m5)])) _
  refine XS.iadd X1.here hx rfl (hb hby d7_53) rfl ?_
  show Steps p.tables e below (T1.setTop (mkF m 54 #[.val (.ref a1), .val (.long q1), .second, .val (.int i3), .val (.int i4), .val (.int m5), .val (.long v6), .second] [(.int (m5 + (1 : Int32)))])) _
  refine XS.istoreN X1.here hx rfl (hb hby d7_54) rfl (l' := #[.val (.ref a1), .val (.long q1), .second, .val (.int (m5 + (1 : Int32))), .val (.int i4), .val (.int m5), .val (.long v6), .second]) rfl ?_
  show Steps p.tables e below (T1.setTop (mkF m 55 #[.val (.ref a1), .val (.long q1), .second, .val (.int (m5 + (1 : Int32))), .val (.int i4), .val (.int m5), .val (.long v6), .second] [])) _
  refine XS.goto X1.here hx rfl (pc0 := 55) (pc' := 76) rfl (hb hby d7_55) (by decide) (by decide) ?_
  show Steps p.tables e below (T1.setTop (mkF m 76 #[.val (.ref a1), .val (.long q1), .second, .val (.int (m5 + (1 : Int32))), .val (.int i4), .val (.int m5), .val (.long v6), .second] [])) _
  refine XS.goto X1.here hx rfl (pc0 := 76) (pc' := 10) rfl (hb hby d7_76) (by decide) (by decide) ?_
  exact kt
set_option maxRecDepth 65536 in
set_option maxHeartbeats 40000000 in
theorem tn7B {p : Program} {l : Launch} {e : Env} {R : Room} {s : State} {m : MethodId} {args : Array Value} {below : List Frame} {meth : Method} {c : Code} {T0 : State} {locs : List Loc} {cells slots : Nat} {Z : State} {a0 : Array Value} {h0 : Heap} (a1 b1 k1 : Addr) (kb : ClassId) (q1 : Int64) (i3 i4 m5 : Int32) (v6 : Int64) (s5 s6 s7 : Slot) (ck : Cell)
    (X0 : Stand p l e R s m args below meth c T0 locs cells slots) (hx : p.tables.exec = Jvm.exec) (hZ : Z.Warmed39 s.vm) (hw : ∀ d ∈ tables_1, d.before a0 Z = true) (hby : c.code = prog_2_method_4_code) (hml : c.maxLocals = 8) (hown : s.vm.findClass "com/example/dilate_query/dilatequery/collection/PostIds" = some m.cls) (e0 : T0.heap = h0) (F_bl : Fld Z h0 a1 "com/example/dilate_query/dilatequery/collection/PostIds" "blocks" "[[J" (.ref b1)) (V_b : Arv Z h0 b1 kb (.array .long) (1 : Int32) [(.ref k1)] .null) (Ark : Arr Z h0 k1 ck .long) (hin : ¬ (m5 < 0 ∨ ck.slots.size ≤ m5.toNatClampNeg)) (hat : ck.slots[m5.toNatClampNeg]? = some (.long v6)) (hs5 : One s5) (hs6 : own_Two s6 s7) (hle : ¬ i4 < i3) (hmid : (((i3 + i4).toUInt32 >>> ((1 : Int32) &&& 31).toUInt32).toInt32) = m5) (h14 : ((m5.toUInt32 >>> ((14 : Int32) &&& 31).toUInt32).toInt32) = (0 : Int32)) (h16 : (m5 &&& (16383 : Int32)) = m5) (hlt : ¬ v6 < q1) (hgt : q1 < v6) :
    ∃ T' : State, Stand p l e R s m args below meth c T' locs cells slots ∧ T'.heap = h0 ∧ ∀ target, Steps p.tables e below (T'.setTop (mkF m 10 #[.val (.ref a1), .val (.long q1), .second, .val (.int i3), .val (.int (m5 - (1 : Int32))), .val (.int m5), .val (.long v6), .second] [])) target → Steps p.tables e below (T0.setTop (mkF m 10 #[.val (.ref a1), .val (.long q1), .second, .val (.int i3), .val (.int i4), s5, s6, s7] [])) target := by
  obtain ⟨T1, X1, e1, st1⟩ := getF X0 hx hZ hown (host := "") (Or.inl (hw _ (List.mem_of_getElem? (i := 20) rfl))) Via.refl e0 F_bl (g := (mkF m 25 #[.val (.ref a1), .val (.long q1), .second, .val (.int i3), .val (.int i4), .val (.int m5), s6, s7] [(.ref a1)])) rfl rfl (hb hby d7_25)
  obtain ⟨clr1, Arr1, qr1, Sr1, Mr1, Hr1, Gr1⟩ := id V_b
  refine ⟨T1, X1, e1, fun target kt => ?_⟩
  show Steps p.tables e below (T0.setTop (mkF m 10 #[.val (.ref a1), .val (.long q1), .second, .val (.int i3), .val (.int i4), s5, s6, s7] [])) _
  refine XS.iloadN X0.here hx rfl (hb hby d7_10) rfl ?_
  show Steps p.tables e below (T0.setTop (mkF m 11 #[.val (.ref a1), .val (.long q1), .second, .val (.int i3), .val (.int i4), s5, s6, s7] [(.int i3)])) _
  refine XS.iload X0.here hx rfl (hb hby d7_11) rfl ?_
  show Steps p.tables e below (T0.setTop (mkF m 13 #[.val (.ref a1), .val (.long q1), .second, .val (.int i3), .val (.int i4), s5, s6, s7] [(.int i4), (.int i3)])) _
  refine XS.icmpNo X0.here hx rfl (hb hby d7_13) rfl (flt hle).2.2.1 ?_
  show Steps p.tables e below (T0.setTop (mkF m 16 #[.val (.ref a1), .val (.long q1), .second, .val (.int i3), .val (.int i4), s5, s6, s7] [])) _
  refine XS.iloadN X0.here hx rfl (hb hby d7_16) rfl ?_
  show Steps p.tables e below (T0.setTop (mkF m 17 #[.val (.ref a1), .val (.long q1), .second, .val (.int i3), .val (.int i4), s5, s6, s7] [(.int i3)])) _
  refine XS.iload X0.here hx rfl (hb hby d7_17) rfl ?_
  show Steps p.tables e below (T0.setTop (mkF m 19 #[.val (.ref a1), .val (.long q1), .second, .val (.int i3), .val (.int i4), s5, s6, s7] [(.int i4), (.int i3)])) _
  refine XS.iadd X0.here hx rfl (hb hby d7_19) rfl ?_
  show Steps p.tables e below (T0.setTop (mkF m 20 #[.val (.ref a1), .val (.long q1), .second, .val (.int i3), .val (.int i4), s5, s6, s7] [(.int (i3 + i4))])) _
  refine XS.iconst X0.here hx rfl (hb hby d7_20) ?_
  show Steps p.tables e below (T0.setTop (mkF m 21 #[.val (.ref a1), .val (.long q1), .second, .val (.int i3), .val (.int i4), s5, s6, s7] [(.int (1 : Int32)), (.int (i3 + i4))])) _
  refine XS.iushr X0.here hx rfl (hb hby d7_21) rfl ?_
  show Steps p.tables e below (T0.setTop (mkF m 22 #[.val (.ref a1), .val (.long q1), .second, .val (.int i3), .val (.int i4), s5, s6, s7] [(.int (((i3 + i4).toUInt32 >>> ((1 : Int32) &&& 31).toUInt32).toInt32))])) _
  rw [hmid]
  show Steps p.tables e below (T0.setTop (mkF m 22 #[.val (.ref a1), .val (.long q1), .second, .val (.int i3), .val (.int i4), s5, s6, s7] [(.int m5)])) _
  refine XS.istore X0.here hx rfl (hb hby d7_22) rfl (l' := #[.val (.ref a1), .val (.long q1), .second, .val (.int i3), .val (.int i4), .val (.int m5), s6, s7]) (own_os5 hs5) ?_
  show Steps p.tables e below (T0.setTop (mkF m 24 #[.val (.ref a1), .val (.long q1), .second, .val (.int i3), .val (.int i4), .val (.int m5), s6, s7] [])) _
  refine XS.aloadN X0.here hx rfl (hb hby d7_24) rfl rfl ?_
  show Steps p.tables e below (T0.setTop (mkF m 25 #[.val (.ref a1), .val (.long q1), .second, .val (.int i3), .val (.int i4), .val (.int m5), s6, s7] [(.ref a1)])) _
  refine st1 _ ?_
  show Steps p.tables e below (T1.setTop (mkF m 28 #[.val (.ref a1), .val (.long q1), .second, .val (.int i3), .val (.int i4), .val (.int m5), s6, s7] [(.ref b1)])) _
  refine XS.iload X1.here hx rfl (hb hby d7_28) rfl ?_
  show Steps p.tables e below (T1.setTop (mkF m 30 #[.val (.ref a1), .val (.long q1), .second, .val (.int i3), .val (.int i4), .val (.int m5), s6, s7] [(.int m5), (.ref b1)])) _
  refine XS.bipush X1.here hx rfl (hb hby d7_30) ?_
  show Steps p.tables e below (T1.setTop (mkF m 32 #[.val (.ref a1), .val (.long q1), .second, .val (.int i3), .val (.int i4), .val (.int m5), s6, s7] [(.int (14 : Int32)), (.int m5), (.ref b1)])) _
  refine XS.iushr X1.here hx rfl (hb hby d7_32) rfl ?_
  show Steps p.tables e below (T1.setTop (mkF m 33 #[.val (.ref a1), .val (.long q1), .second, .val (.int i3), .val (.int i4), .val (.int m5), s6, s7] [(.int ((m5.toUInt32 >>> ((14 : Int32) &&& 31).toUInt32).toInt32)), (.ref b1)])) _
  rw [h14]
  show Steps p.tables e below (T1.setTop (mkF m 33 #[.val (.ref a1), .val (.long q1), .second, .val (.int i3), .val (.int i4), .val (.int m5), s6, s7] [(.int (0 : Int32)), (.ref b1)])) _
  refine X1.aaload hx (j := (0 : Int32)) (v := (.ref k1)) (by rw [e1]; exact Arr1.1) (State.isArrayOf_alike hZ.alike Arr1.2.1) rfl Arr1.2.2 (inb_of Sr1 ⟨by decide, by decide⟩) (Hr1.at (inb_of Sr1 ⟨by decide, by decide⟩) rfl) (g := (mkF m 33 #[.val (.ref a1), .val (.long q1), .second, .val (.int i3), .val (.int i4), .val (.int m5), s6, s7] [(.int (0 : Int32)), (.ref b1)])) rfl rfl (hb hby d7_33) _ ?_
  show Steps p.tables e below (T1.setTop (mkF m 34 #[.val (.ref a1), .val (.long q1), .second, .val (.int i3), .val (.int i4), .val (.int m5), s6, s7] [(.ref k1)])) _
  refine XS.iload X1.here hx rfl (hb hby d7_34) rfl ?_
  show Steps p.tables e below (T1.setTop (mkF m 36 #[.val (.ref a1), .val (.long q1), .second, .val (.int i3), .val (.int i4), .val (.int m5), s6, s7] [(.int m5), (.ref k1)])) _
  refine XS.sipush X1.here hx rfl (hb hby d7_36) ?_
  show Steps p.tables e below (T1.setTop (mkF m 39 #[.val (.ref a1), .val (.long q1), .second, .val (.int i3), .val (.int i4), .val (.int m5), s6, s7] [(.int (16383 : Int32)), (.int m5), (.ref k1)])) _
  refine XS.iand X1.here hx rfl (hb hby d7_39) rfl ?_
  show Steps p.tables e below (T1.setTop (mkF m 40 #[.val (.ref a1), .val (.long q1), .second, .val (.int i3), .val (.int i4), .val (.int m5), s6, s7] [(.int (m5 &&& (16383 : Int32))), (.ref k1)])) _
  rw [h16]
  show Steps p.tables e below (T1.setTop (mkF m 40 #[.val (.ref a1), .val (.long q1), .second, .val (.int i3), .val (.int i4), .val (.int m5), s6, s7] [(.int m5), (.ref k1)])) _
  refine X1.laload hx (j := m5) (v := (.long v6)) (by rw [e1]; exact Ark.1) (State.isArrayOf_alike hZ.alike Ark.2.1) Ark.2.2 hin hat (g := (mkF m 40 #[.val (.ref a1), .val (.long q1), .second, .val (.int i3), .val (.int i4), .val (.int m5), s6, s7] [(.int m5), (.ref k1)])) rfl rfl (hb hby d7_40) _ ?_
  show Steps p.tables e below (T1.setTop (mkF m 41 #[.val (.ref a1), .val (.long q1), .second, .val (.int i3), .val (.int i4), .val (.int m5), s6, s7] [(.long v6)])) _
  refine XS.lstore X1.here hx rfl (hb hby d7_41) rfl (l' := #[.val (.ref a1), .val (.long q1), .second, .val (.int i3), .val (.int i4), .val (.int m5), .val (.long v6), .second]) (own_os6 hs6) ?_
  show Steps p.tables e below (T1.setTop (mkF m 43 #[.val (.ref a1), .val (.long q1), .second, .val (.int i3), .val (.int i4), .val (.int m5), .val (.long v6), .second] [])) _
  refine XS.lload X1.here hx rfl (hb hby d7_43) rfl ?_
  show Steps p.tables e below (T1.setTop (mkF m 45 #[.val (.ref a1), .val (.long q1), .second, .val (.int i3), .val (.int i4), .val (.int m5), .val (.long v6), .second] [(.long v6)])) _
  refine XS.lloadN X1.here hx rfl (hb hby d7_45) rfl ?_
  show Steps p.tables e below (T1.setTop (mkF m 46 #[.val (.ref a1), .val (.long q1), .second, .val (.int i3), .val (.int i4), .val (.int m5), .val (.long v6), .second] [(.long q1), (.long v6)])) _
  refine XS.lcmp X1.here hx rfl (hb hby d7_46) rfl ?_
  show Steps p.tables e below (T1.setTop (mkF m 47 #[.val (.ref a1), .val (.long q1), .second, .val (.int i3), .val (.int i4), .val (.int m5), .val (.long v6), .second] [(.int (lcmpW v6 q1))])) _
  refine XS.ifYes X1.here hx rfl (pc0 := 47) (pc' := 58) rfl (hb hby d7_47) rfl ((if0 _ _).trans (flt (fun z => hlt ((lw_lt _ _).mp z))).2.1) (by decide) (by decide) ?_
  show Steps p.tables e below (T1.setTop (mkF m 58 #[.val (.ref a1), .val (.long q1), .second, .val (.int i3), .val (.int i4), .val (.int m5), .val (.long v6), .second] [])) _
  refine XS.lload X1.here hx rfl (hb hby d7_58) rfl ?_
  show Steps p.tables e below (T1.setTop (mkF m 60 #[.val (.ref a1), .val (.long q1), .second, .val (.int i3), .val (.int i4), .val (.int m5), .val (.long v6), .second] [(.long v6)])) _
  refine XS.lloadN X1.here hx rfl (hb hby d7_60) rfl ?_
  show Steps p.tables e below (T1.setTop (mkF m 61 #[.val (.ref a1), .val (.long q1), .second, .val (.int i3), .val (.int i4), .val (.int m5), .val (.long v6), .second] [(.long q1), (.long v6)])) _
  refine XS.lcmp X1.here hx rfl (hb hby d7_61) rfl ?_
  show Steps p.tables e below (T1.setTop (mkF m 62 #[.val (.ref a1), .val (.long q1), .second, .val (.int i3), .val (.int i4), .val (.int m5), .val (.long v6), .second] [(.int (lcmpW v6 q1))])) _
  refine XS.ifNo X1.here hx rfl (hb hby d7_62) rfl ((if0 _ _).trans (tlt ((lw_gt _ _).mpr hgt)).2.2.2) ?_
  show Steps p.tables e below (T1.setTop (mkF m 65 #[.val (.ref a1), .val (.long q1), .second, .val (.int i3), .val (.int i4), .val (.int m5), .val (.long v6), .second] [])) _
  refine XS.iload X1.here hx rfl (hb hby d7_65) rfl ?_
  show Steps p.tables e below (T1.setTop (mkF m 67 #[.val (.ref a1), .val (.long q1), .second, .val (.int i3), .val (.int i4), .val (.int m5), .val (.long v6), .second] [(.int m5)])) _
  refine XS.iconst X1.here hx rfl (hb hby d7_67) ?_
  show Steps p.tables e below (T1.setTop (mkF m 68 #[.val (.ref a1), .val (.long q1), .second, .val (.int i3), .val (.int i4), .val (.int m5), .val (.long v6), .second] [(.int (1 : Int32)), (.int m5)])) _
  refine XS.isub X1.here hx rfl (hb hby d7_68) rfl ?_
  show Steps p.tables e below (T1.setTop (mkF m 69 #[.val (.ref a1), .val (.long q1), .second, .val (.int i3), .val (.int i4), .val (.int m5), .val (.long v6), .second] [(.int (m5 - (1 : Int32)))])) _
  refine XS.istore X1.here hx rfl (hb hby d7_69) rfl (l' := #[.val (.ref a1), .val (.long q1), .second, .val (.int i3), .val (.int (m5 - (1 : Int32))), .val (.int m5), .val (.long v6), .second]) rfl ?_
  show Steps p.tables e below (T1.setTop (mkF m 71 #[.val (.ref a1), .val (.long q1), .second, .val (.int i3), .val (.int (m5 - (1 : Int32))), .val (.int m5), .val (.long v6), .second] [])) _
  refine XS.goto X1.here hx rfl (pc0 := 71) (pc' := 76) rfl (hb hby d7_71) (by decide) (by decide) ?_
  show Steps p.tables e below (T1.setTop (mkF m 76 #[.val (.ref a1), .val (.long q1), .second, .val (.int i3), .val (.int (m5 - (1 : Int32))), .val (.int m5), .val (.long v6), .second] [])) _
  refine XS.goto X1.here hx rfl (pc0 := 76) (pc' := 10) rfl (hb hby d7_76) (by decide) (by decide) ?_
  exact kt
set_option maxRecDepth 65536 in
set_option maxHeartbeats 40000000 in
theorem tn7F {p : Program} {l : Launch} {e : Env} {R : Room} {s : State} {m : MethodId} {args : Array Value} {below : List Frame} {meth : Method} {c : Code} {T0 : State} {locs : List Loc} {cells slots : Nat} {Z : State} {a0 : Array Value} {h0 : Heap} (a1 b1 k1 : Addr) (kb : ClassId) (q1 : Int64) (i3 i4 m5 : Int32) (v6 : Int64) (s5 s6 s7 : Slot) (ck : Cell)
    (X0 : Stand p l e R s m args below meth c T0 locs cells slots) (hx : p.tables.exec = Jvm.exec) (hZ : Z.Warmed39 s.vm) (hw : ∀ d ∈ tables_1, d.before a0 Z = true) (hby : c.code = prog_2_method_4_code) (hml : c.maxLocals = 8) (hown : s.vm.findClass "com/example/dilate_query/dilatequery/collection/PostIds" = some m.cls) (e0 : T0.heap = h0) (F_bl : Fld Z h0 a1 "com/example/dilate_query/dilatequery/collection/PostIds" "blocks" "[[J" (.ref b1)) (V_b : Arv Z h0 b1 kb (.array .long) (1 : Int32) [(.ref k1)] .null) (Ark : Arr Z h0 k1 ck .long) (hin : ¬ (m5 < 0 ∨ ck.slots.size ≤ m5.toNatClampNeg)) (hat : ck.slots[m5.toNatClampNeg]? = some (.long v6)) (hs5 : One s5) (hs6 : own_Two s6 s7) (hle : ¬ i4 < i3) (hmid : (((i3 + i4).toUInt32 >>> ((1 : Int32) &&& 31).toUInt32).toInt32) = m5) (h14 : ((m5.toUInt32 >>> ((14 : Int32) &&& 31).toUInt32).toInt32) = (0 : Int32)) (h16 : (m5 &&& (16383 : Int32)) = m5) (hlt : ¬ v6 < q1) (hgt : ¬ q1 < v6) :
    ∃ T' : State, Stand p l e R s m args below meth c T' locs cells slots ∧ T'.heap = h0 ∧ ∀ target, Steps p.tables e below (T'.setTop (mkF m 74 #[.val (.ref a1), .val (.long q1), .second, .val (.int i3), .val (.int i4), .val (.int m5), .val (.long v6), .second] [])) target → Steps p.tables e below (T0.setTop (mkF m 10 #[.val (.ref a1), .val (.long q1), .second, .val (.int i3), .val (.int i4), s5, s6, s7] [])) target := by
  obtain ⟨T1, X1, e1, st1⟩ := getF X0 hx hZ hown (host := "") (Or.inl (hw _ (List.mem_of_getElem? (i := 20) rfl))) Via.refl e0 F_bl (g := (mkF m 25 #[.val (.ref a1), .val (.long q1), .second, .val (.int i3), .val (.int i4), .val (.int m5), s6, s7] [(.ref a1)])) rfl rfl (hb hby d7_25)
  obtain ⟨clr1, Arr1, qr1, Sr1, Mr1, Hr1, Gr1⟩ := id V_b
  refine ⟨T1, X1, e1, fun target kt => ?_⟩
  show Steps p.tables e below (T0.setTop (mkF m 10 #[.val (.ref a1), .val (.long q1), .second, .val (.int i3), .val (.int i4), s5, s6, s7] [])) _
  refine XS.iloadN X0.here hx rfl (hb hby d7_10) rfl ?_
  show Steps p.tables e below (T0.setTop (mkF m 11 #[.val (.ref a1), .val (.long q1), .second, .val (.int i3), .val (.int i4), s5, s6, s7] [(.int i3)])) _
  refine XS.iload X0.here hx rfl (hb hby d7_11) rfl ?_
  show Steps p.tables e below (T0.setTop (mkF m 13 #[.val (.ref a1), .val (.long q1), .second, .val (.int i3), .val (.int i4), s5, s6, s7] [(.int i4), (.int i3)])) _
  refine XS.icmpNo X0.here hx rfl (hb hby d7_13) rfl (flt hle).2.2.1 ?_
  show Steps p.tables e below (T0.setTop (mkF m 16 #[.val (.ref a1), .val (.long q1), .second, .val (.int i3), .val (.int i4), s5, s6, s7] [])) _
  refine XS.iloadN X0.here hx rfl (hb hby d7_16) rfl ?_
  show Steps p.tables e below (T0.setTop (mkF m 17 #[.val (.ref a1), .val (.long q1), .second, .val (.int i3), .val (.int i4), s5, s6, s7] [(.int i3)])) _
  refine XS.iload X0.here hx rfl (hb hby d7_17) rfl ?_
  show Steps p.tables e below (T0.setTop (mkF m 19 #[.val (.ref a1), .val (.long q1), .second, .val (.int i3), .val (.int i4), s5, s6, s7] [(.int i4), (.int i3)])) _
  refine XS.iadd X0.here hx rfl (hb hby d7_19) rfl ?_
  show Steps p.tables e below (T0.setTop (mkF m 20 #[.val (.ref a1), .val (.long q1), .second, .val (.int i3), .val (.int i4), s5, s6, s7] [(.int (i3 + i4))])) _
  refine XS.iconst X0.here hx rfl (hb hby d7_20) ?_
  show Steps p.tables e below (T0.setTop (mkF m 21 #[.val (.ref a1), .val (.long q1), .second, .val (.int i3), .val (.int i4), s5, s6, s7] [(.int (1 : Int32)), (.int (i3 + i4))])) _
  refine XS.iushr X0.here hx rfl (hb hby d7_21) rfl ?_
  show Steps p.tables e below (T0.setTop (mkF m 22 #[.val (.ref a1), .val (.long q1), .second, .val (.int i3), .val (.int i4), s5, s6, s7] [(.int (((i3 + i4).toUInt32 >>> ((1 : Int32) &&& 31).toUInt32).toInt32))])) _
  rw [hmid]
  show Steps p.tables e below (T0.setTop (mkF m 22 #[.val (.ref a1), .val (.long q1), .second, .val (.int i3), .val (.int i4), s5, s6, s7] [(.int m5)])) _
  refine XS.istore X0.here hx rfl (hb hby d7_22) rfl (l' := #[.val (.ref a1), .val (.long q1), .second, .val (.int i3), .val (.int i4), .val (.int m5), s6, s7]) (own_os5 hs5) ?_
  show Steps p.tables e below (T0.setTop (mkF m 24 #[.val (.ref a1), .val (.long q1), .second, .val (.int i3), .val (.int i4), .val (.int m5), s6, s7] [])) _
  refine XS.aloadN X0.here hx rfl (hb hby d7_24) rfl rfl ?_
  show Steps p.tables e below (T0.setTop (mkF m 25 #[.val (.ref a1), .val (.long q1), .second, .val (.int i3), .val (.int i4), .val (.int m5), s6, s7] [(.ref a1)])) _
  refine st1 _ ?_
  show Steps p.tables e below (T1.setTop (mkF m 28 #[.val (.ref a1), .val (.long q1), .second, .val (.int i3), .val (.int i4), .val (.int m5), s6, s7] [(.ref b1)])) _
  refine XS.iload X1.here hx rfl (hb hby d7_28) rfl ?_
  show Steps p.tables e below (T1.setTop (mkF m 30 #[.val (.ref a1), .val (.long q1), .second, .val (.int i3), .val (.int i4), .val (.int m5), s6, s7] [(.int m5), (.ref b1)])) _
  refine XS.bipush X1.here hx rfl (hb hby d7_30) ?_
  show Steps p.tables e below (T1.setTop (mkF m 32 #[.val (.ref a1), .val (.long q1), .second, .val (.int i3), .val (.int i4), .val (.int m5), s6, s7] [(.int (14 : Int32)), (.int m5), (.ref b1)])) _
  refine XS.iushr X1.here hx rfl (hb hby d7_32) rfl ?_
  show Steps p.tables e below (T1.setTop (mkF m 33 #[.val (.ref a1), .val (.long q1), .second, .val (.int i3), .val (.int i4), .val (.int m5), s6, s7] [(.int ((m5.toUInt32 >>> ((14 : Int32) &&& 31).toUInt32).toInt32)), (.ref b1)])) _
  rw [h14]
  show Steps p.tables e below (T1.setTop (mkF m 33 #[.val (.ref a1), .val (.long q1), .second, .val (.int i3), .val (.int i4), .val (.int m5), s6, s7] [(.int (0 : Int32)), (.ref b1)])) _
  refine X1.aaload hx (j := (0 : Int32)) (v := (.ref k1)) (by rw [e1]; exact Arr1.1) (State.isArrayOf_alike hZ.alike Arr1.2.1) rfl Arr1.2.2 (inb_of Sr1 ⟨by decide, by decide⟩) (Hr1.at (inb_of Sr1 ⟨by decide, by decide⟩) rfl) (g := (mkF m 33 #[.val (.ref a1), .val (.long q1), .second, .val (.int i3), .val (.int i4), .val (.int m5), s6, s7] [(.int (0 : Int32)), (.ref b1)])) rfl rfl (hb hby d7_33) _ ?_
  show Steps p.tables e below (T1.setTop (mkF m 34 #[.val (.ref a1), .val (.long q1), .second, .val (.int i3), .val (.int i4), .val (.int m5), s6, s7] [(.ref k1)])) _
  refine XS.iload X1.here hx rfl (hb hby d7_34) rfl ?_
  show Steps p.tables e below (T1.setTop (mkF m 36 #[.val (.ref a1), .val (.long q1), .second, .val (.int i3), .val (.int i4), .val (.int m5), s6, s7] [(.int m5), (.ref k1)])) _
  refine XS.sipush X1.here hx rfl (hb hby d7_36) ?_
  show Steps p.tables e below (T1.setTop (mkF m 39 #[.val (.ref a1), .val (.long q1), .second, .val (.int i3), .val (.int i4), .val (.int m5), s6, s7] [(.int (16383 : Int32)), (.int m5), (.ref k1)])) _
  refine XS.iand X1.here hx rfl (hb hby d7_39) rfl ?_
  show Steps p.tables e below (T1.setTop (mkF m 40 #[.val (.ref a1), .val (.long q1), .second, .val (.int i3), .val (.int i4), .val (.int m5), s6, s7] [(.int (m5 &&& (16383 : Int32))), (.ref k1)])) _
  rw [h16]
  show Steps p.tables e below (T1.setTop (mkF m 40 #[.val (.ref a1), .val (.long q1), .second, .val (.int i3), .val (.int i4), .val (.int m5), s6, s7] [(.int m5), (.ref k1)])) _
  refine X1.laload hx (j := m5) (v := (.long v6)) (by rw [e1]; exact Ark.1) (State.isArrayOf_alike hZ.alike Ark.2.1) Ark.2.2 hin hat (g := (mkF m 40 #[.val (.ref a1), .val (.long q1), .second, .val (.int i3), .val (.int i4), .val (.int m5), s6, s7] [(.int m5), (.ref k1)])) rfl rfl (hb hby d7_40) _ ?_
  show Steps p.tables e below (T1.setTop (mkF m 41 #[.val (.ref a1), .val (.long q1), .second, .val (.int i3), .val (.int i4), .val (.int m5), s6, s7] [(.long v6)])) _
  refine XS.lstore X1.here hx rfl (hb hby d7_41) rfl (l' := #[.val (.ref a1), .val (.long q1), .second, .val (.int i3), .val (.int i4), .val (.int m5), .val (.long v6), .second]) (own_os6 hs6) ?_
  show Steps p.tables e below (T1.setTop (mkF m 43 #[.val (.ref a1), .val (.long q1), .second, .val (.int i3), .val (.int i4), .val (.int m5), .val (.long v6), .second] [])) _
  refine XS.lload X1.here hx rfl (hb hby d7_43) rfl ?_
  show Steps p.tables e below (T1.setTop (mkF m 45 #[.val (.ref a1), .val (.long q1), .second, .val (.int i3), .val (.int i4), .val (.int m5), .val (.long v6), .second] [(.long v6)])) _
  refine XS.lloadN X1.here hx rfl (hb hby d7_45) rfl ?_
  show Steps p.tables e below (T1.setTop (mkF m 46 #[.val (.ref a1), .val (.long q1), .second, .val (.int i3), .val (.int i4), .val (.int m5), .val (.long v6), .second] [(.long q1), (.long v6)])) _
  refine XS.lcmp X1.here hx rfl (hb hby d7_46) rfl ?_
  show Steps p.tables e below (T1.setTop (mkF m 47 #[.val (.ref a1), .val (.long q1), .second, .val (.int i3), .val (.int i4), .val (.int m5), .val (.long v6), .second] [(.int (lcmpW v6 q1))])) _
  refine XS.ifYes X1.here hx rfl (pc0 := 47) (pc' := 58) rfl (hb hby d7_47) rfl ((if0 _ _).trans (flt (fun z => hlt ((lw_lt _ _).mp z))).2.1) (by decide) (by decide) ?_
  show Steps p.tables e below (T1.setTop (mkF m 58 #[.val (.ref a1), .val (.long q1), .second, .val (.int i3), .val (.int i4), .val (.int m5), .val (.long v6), .second] [])) _
  refine XS.lload X1.here hx rfl (hb hby d7_58) rfl ?_
  show Steps p.tables e below (T1.setTop (mkF m 60 #[.val (.ref a1), .val (.long q1), .second, .val (.int i3), .val (.int i4), .val (.int m5), .val (.long v6), .second] [(.long v6)])) _
  refine XS.lloadN X1.here hx rfl (hb hby d7_60) rfl ?_
  show Steps p.tables e below (T1.setTop (mkF m 61 #[.val (.ref a1), .val (.long q1), .second, .val (.int i3), .val (.int i4), .val (.int m5), .val (.long v6), .second] [(.long q1), (.long v6)])) _
  refine XS.lcmp X1.here hx rfl (hb hby d7_61) rfl ?_
  show Steps p.tables e below (T1.setTop (mkF m 62 #[.val (.ref a1), .val (.long q1), .second, .val (.int i3), .val (.int i4), .val (.int m5), .val (.long v6), .second] [(.int (lcmpW v6 q1))])) _
  refine XS.ifYes X1.here hx rfl (pc0 := 62) (pc' := 74) rfl (hb hby d7_62) rfl ((if0 _ _).trans (flt (fun z => hgt ((lw_gt _ _).mp z))).2.2.2) (by decide) (by decide) ?_
  exact kt
set_option maxRecDepth 65536 in
set_option maxHeartbeats 40000000 in
theorem tn7E {p : Program} {l : Launch} {e : Env} {R : Room} {s : State} {m : MethodId} {args : Array Value} {below : List Frame} {meth : Method} {c : Code} {T0 : State} {locs : List Loc} {cells slots : Nat} {Z : State} {a0 : Array Value} {h0 : Heap} (a1 : Addr) (q1 : Int64) (i3 i4 : Int32) (s5 s6 s7 : Slot)
    (X0 : Stand p l e R s m args below meth c T0 locs cells slots) (hx : p.tables.exec = Jvm.exec) (hZ : Z.Warmed39 s.vm) (hw : ∀ d ∈ tables_1, d.before a0 Z = true) (hby : c.code = prog_2_method_4_code) (hml : c.maxLocals = 8) (hown : s.vm.findClass "com/example/dilate_query/dilatequery/collection/PostIds" = some m.cls) (e0 : T0.heap = h0) (hle : i4 < i3) :
    ∃ T' : State, Stand p l e R s m args below meth c T' locs cells slots ∧ T'.heap = h0 ∧ ∀ target, Steps p.tables e below (T'.setTop (mkF m 79 #[.val (.ref a1), .val (.long q1), .second, .val (.int i3), .val (.int i4), s5, s6, s7] [])) target → Steps p.tables e below (T0.setTop (mkF m 10 #[.val (.ref a1), .val (.long q1), .second, .val (.int i3), .val (.int i4), s5, s6, s7] [])) target := by
  refine ⟨T0, X0, e0, fun target kt => ?_⟩
  show Steps p.tables e below (T0.setTop (mkF m 10 #[.val (.ref a1), .val (.long q1), .second, .val (.int i3), .val (.int i4), s5, s6, s7] [])) _
  refine XS.iloadN X0.here hx rfl (hb hby d7_10) rfl ?_
  show Steps p.tables e below (T0.setTop (mkF m 11 #[.val (.ref a1), .val (.long q1), .second, .val (.int i3), .val (.int i4), s5, s6, s7] [(.int i3)])) _
  refine XS.iload X0.here hx rfl (hb hby d7_11) rfl ?_
  show Steps p.tables e below (T0.setTop (mkF m 13 #[.val (.ref a1), .val (.long q1), .second, .val (.int i3), .val (.int i4), s5, s6, s7] [(.int i4), (.int i3)])) _
  refine XS.icmpYes X0.here hx rfl (pc0 := 13) (pc' := 79) rfl (hb hby d7_13) rfl (tlt hle).2.2.1 (by decide) (by decide) ?_
  exact kt
theorem own_mid {i3 i4 : Int32} (h0 : 0 ≤ i3.toInt) (h1 : i3.toInt ≤ i4.toInt) (h2 : i4.toInt < 1000) : ((((i3 + i4).toUInt32 >>> ((1 : Int32) &&& 31).toUInt32).toInt32)).toInt = (i3.toInt + i4.toInt) / 2 := by
  have e := c_iushr (i3 + i4) (1 : Int32) 1 (by decide) (by decide)
  rw [e, Jvm.Kit.i32_add (by omega) (by omega)]
  have e4 : ((2 ^ 1 : Nat) : Int) = 2 := by decide
  rw [e4]; omega
theorem own_asc {asc : List Int64} (hs : asc.Pairwise (· < ·)) {i j : Nat} {x y : Int64} (hi : asc[i]? = some x) (hj : asc[j]? = some y) (h : i < j) : x < y := by
  obtain ⟨hi', rfl⟩ := List.getElem?_eq_some_iff.mp hi
  obtain ⟨hj', rfl⟩ := List.getElem?_eq_some_iff.mp hj
  exact List.pairwise_iff_getElem.mp hs i j hi' hj' h
set_option maxRecDepth 65536 in
set_option maxHeartbeats 40000000 in
theorem own_bs {p : Program} {l : Launch} {e : Env} {R : Room} {s : State} {m : MethodId} {args : Array Value} {below : List Frame} {meth : Method} {c : Code} {locs : List Loc} {cells slots : Nat} {Z : State} {a0 : Array Value} {h0 : Heap} (a1 b1 k1 : Addr) (kb kk : ClassId) (q1 : Int64) (asc : List Int64) (hs : asc.Pairwise (· < ·)) (hl : asc.length < 1000)
    (hx : p.tables.exec = Jvm.exec) (hZ : Z.Warmed39 s.vm) (hw : ∀ d ∈ tables_1, d.before a0 Z = true) (hby : c.code = prog_2_method_4_code) (hml : c.maxLocals = 8) (hown : s.vm.findClass "com/example/dilate_query/dilatequery/collection/PostIds" = some m.cls) (F_bl : Fld Z h0 a1 "com/example/dilate_query/dilatequery/collection/PostIds" "blocks" "[[J" (.ref b1)) (V_b : Arv Z h0 b1 kb (.array .long) (1 : Int32) [(.ref k1)] .null) (G_k : Arv Z h0 k1 kk .long (16384 : Int32) (asc.map Value.long) (.long (0 : Int64))) :
    ∀ (n : Nat) (T0 : State) (i3 i4 : Int32) (s5 s6 s7 : Slot), Stand p l e R s m args below meth c T0 locs cells slots → T0.heap = h0 → One s5 → own_Two s6 s7 → 0 ≤ i3.toInt → i4.toInt < asc.length → i3.toInt ≤ i4.toInt + 1 → (i4.toInt + 1 - i3.toInt).toNat ≤ n →
      (∀ (j : Nat) (v : Int64), (j : Int) < i3.toInt → asc[j]? = some v → v < q1) → (∀ (j : Nat) (v : Int64), i4.toInt < (j : Int) → asc[j]? = some v → q1 < v) →
      ∃ (T' : State) (L' : Array Slot), Stand p l e R s m args below meth c T' locs cells slots ∧ T'.heap = h0 ∧ ((q1 ∈ asc ∧ ∀ target, Steps p.tables e below (T'.setTop (mkF m 74 L' [])) target → Steps p.tables e below (T0.setTop (mkF m 10 #[.val (.ref a1), .val (.long q1), .second, .val (.int i3), .val (.int i4), s5, s6, s7] [])) target) ∨ (q1 ∉ asc ∧ ∀ target, Steps p.tables e below (T'.setTop (mkF m 79 L' [])) target → Steps p.tables e below (T0.setTop (mkF m 10 #[.val (.ref a1), .val (.long q1), .second, .val (.int i3), .val (.int i4), s5, s6, s7] [])) target)) := by
  have leave : ∀ (T0 : State) (i3 i4 : Int32) (s5 s6 s7 : Slot), Stand p l e R s m args below meth c T0 locs cells slots → T0.heap = h0 → i4 < i3 → i3.toInt ≤ i4.toInt + 1 → (∀ (j : Nat) (v : Int64), (j : Int) < i3.toInt → asc[j]? = some v → v < q1) → (∀ (j : Nat) (v : Int64), i4.toInt < (j : Int) → asc[j]? = some v → q1 < v) →
      ∃ (T' : State) (L' : Array Slot), Stand p l e R s m args below meth c T' locs cells slots ∧ T'.heap = h0 ∧ ((q1 ∈ asc ∧ ∀ target, Steps p.tables e below (T'.setTop (mkF m 74 L' [])) target → Steps p.tables e below (T0.setTop (mkF m 10 #[.val (.ref a1), .val (.long q1), .second, .val (.int i3), .val (.int i4), s5, s6, s7] [])) target) ∨ (q1 ∉ asc ∧ ∀ target, Steps p.tables e below (T'.setTop (mkF m 79 L' [])) target → Steps p.tables e below (T0.setTop (mkF m 10 #[.val (.ref a1), .val (.long q1), .second, .val (.int i3), .val (.int i4), s5, s6, s7] [])) target)) := by
    intro T0 i3 i4 s5 s6 s7 X e0 hlt h3 hlo hhi
    obtain ⟨T', X', e', st⟩ := tn7E a1 q1 i3 i4 s5 s6 s7 X hx hZ hw hby hml hown e0 hlt
    refine ⟨T', _, X', e', Or.inr ⟨fun hm => ?_, st⟩⟩
    obtain ⟨j, hj⟩ := List.mem_iff_getElem?.mp hm
    rw [Int32.lt_iff_toInt_lt] at hlt
    by_cases q : (j : Int) < i3.toInt
    · exact Int64.lt_irrefl (hlo j q1 q hj)
    · exact Int64.lt_irrefl (hhi j q1 (by omega) hj)
  intro n
  induction n with
  | zero =>
    intro T0 i3 i4 s5 s6 s7 X e0 h5 h6 h0' h1 h2 h3 hlo hhi
    exact leave T0 i3 i4 s5 s6 s7 X e0 (by rw [Int32.lt_iff_toInt_lt]; omega) h2 hlo hhi
  | succ n ih =>
    intro T0 i3 i4 s5 s6 s7 X e0 h5 h6 h0' h1 h2 h3 hlo hhi
    by_cases hle : i4 < i3
    · exact leave T0 i3 i4 s5 s6 s7 X e0 hle h2 hlo hhi
    have hle' : i3.toInt ≤ i4.toInt := by rw [Int32.lt_iff_toInt_lt] at hle; omega
    have em := own_mid h0' hle' (by omega)
    obtain ⟨m5, hmid⟩ : ∃ m5, (((i3 + i4).toUInt32 >>> ((1 : Int32) &&& 31).toUInt32).toInt32) = m5 := ⟨_, rfl⟩
    rw [hmid] at em
    have hm0 : 0 ≤ m5.toInt := by omega
    have hm1 : m5.toInt < asc.length := by omega
    have hmn : (m5.toNatClampNeg : Int) = m5.toInt := by simp only [Int32.toNatClampNeg]; omega
    have hnn : ¬ m5 < 0 := by rw [Int32.lt_iff_toInt_lt]; show ¬ m5.toInt < 0; omega
    have hlt16 : m5 < (16384 : Int32) := by rw [Int32.lt_iff_toInt_lt]; show m5.toInt < 16384; omega
    obtain ⟨ck, Ark, -, Sk, -, Hk, -⟩ := G_k
    have hin := inb_of Sk ⟨hnn, hlt16⟩
    have hidx : m5.toNatClampNeg < asc.length := by omega
    have hv : asc[m5.toNatClampNeg]? = some asc[m5.toNatClampNeg] := List.getElem?_eq_getElem hidx
    have hat : ck.slots[m5.toNatClampNeg]? = some (.long asc[m5.toNatClampNeg]) := Hk.at hin (by rw [own_fitsL, List.getD_eq_getElem?_getD, hv]; rfl)
    have h14 := own_14 (n := m5) (by omega) (by omega)
    have h16 := own_16 (n := m5) (by omega) (by omega)
    generalize asc[m5.toNatClampNeg] = v6 at hv hat
    by_cases hlt : v6 < q1
    · obtain ⟨T1, X1, e1, st1⟩ := tn7A a1 b1 k1 kb q1 i3 i4 m5 v6 s5 s6 s7 ck X hx hZ hw hby hml hown e0 F_bl V_b Ark hin hat h5 h6 hle hmid h14 h16 hlt
      have ea : (m5 + (1 : Int32)).toInt = m5.toInt + 1 := Jvm.Kit.i32_add (by show _ ≤ m5.toInt + 1; omega) (by show m5.toInt + 1 < _; omega)
      obtain ⟨T', L', X', e', r⟩ := ih T1 (m5 + (1 : Int32)) i4 (.val (.int m5)) (.val (.long v6)) .second X1 e1 (One.val rfl) (Or.inr ⟨v6, rfl, rfl⟩) (by omega) h1 (by omega) (by omega) (fun j v hj hv' => by
        rcases Nat.lt_or_ge j m5.toNatClampNeg with q | q
        · exact Int64.lt_trans (own_asc hs hv' hv q) hlt
        · have : j = m5.toNatClampNeg := by omega
          subst this
          rw [hv] at hv'; cases hv'; exact hlt) hhi
      exact ⟨T', L', X', e', r.imp (fun h => ⟨h.1, fun t k => st1 t (h.2 t k)⟩) (fun h => ⟨h.1, fun t k => st1 t (h.2 t k)⟩)⟩
    · by_cases hgt : q1 < v6
      · obtain ⟨T1, X1, e1, st1⟩ := tn7B a1 b1 k1 kb q1 i3 i4 m5 v6 s5 s6 s7 ck X hx hZ hw hby hml hown e0 F_bl V_b Ark hin hat h5 h6 hle hmid h14 h16 hlt hgt
        have ea : (m5 - (1 : Int32)).toInt = m5.toInt - 1 := Jvm.Kit.i32_sub (by show _ ≤ m5.toInt - 1; omega) (by show m5.toInt - 1 < _; omega)
        obtain ⟨T', L', X', e', r⟩ := ih T1 i3 (m5 - (1 : Int32)) (.val (.int m5)) (.val (.long v6)) .second X1 e1 (One.val rfl) (Or.inr ⟨v6, rfl, rfl⟩) h0' (by omega) (by omega) (by omega) hlo (fun j v hj hv' => by
          rcases Nat.lt_or_ge m5.toNatClampNeg j with q | q
          · exact Int64.lt_trans hgt (own_asc hs hv hv' q)
          · have : j = m5.toNatClampNeg := by omega
            subst this
            rw [hv] at hv'; cases hv'; exact hgt)
        exact ⟨T', L', X', e', r.imp (fun h => ⟨h.1, fun t k => st1 t (h.2 t k)⟩) (fun h => ⟨h.1, fun t k => st1 t (h.2 t k)⟩)⟩
      · obtain ⟨T1, X1, e1, st1⟩ := tn7F a1 b1 k1 kb q1 i3 i4 m5 v6 s5 s6 s7 ck X hx hZ hw hby hml hown e0 F_bl V_b Ark hin hat h5 h6 hle hmid h14 h16 hlt hgt
        have hq : v6 = q1 := Int64.le_antisymm (Int64.not_lt.mp hgt) (Int64.not_lt.mp hlt)
        exact ⟨T1, _, X1, e1, Or.inl ⟨hq ▸ List.mem_of_getElem? hv, st1⟩⟩
theorem ef_7 (m : MethodId) (x0 : Addr) (x1 : Int64) : entryFrame m #[(.ref x0), (.long x1)] 8 = mkF m 0 #[.val (.ref x0), .val (.long x1), .second, .unset, .unset, .unset, .unset, .unset] [] := by first | (simp [entryFrame, mkF, argsToLocals, Value.category]; done) | rfl
def Q7 (Z : State) (a1 : Addr) (q1 : Int64) (b1 t1 k1 : Addr) (kb kk : ClassId) (asc : List Int64) (T : Nat → Int64) (n1 tc : Int32) (lg : Int64) (h0 : Heap) (n0 : Nat) (v : Option Value) (h : Heap) (L : List Loc) : Prop := v = some (.int (if q1 ∈ asc then 1 else 0)) ∧ Fr n0 L ∧ h = h0
set_option maxRecDepth 65536 in
set_option maxHeartbeats 40000000 in
theorem rm7 (l : Launch) (Z : State) (a0 : Array Value) (hw : ∀ d ∈ tables_1, d.before a0 Z = true) (ws : List Jvm.Cond) (a1 : Addr) (q1 : Int64) (b1 t1 k1 : Addr) (kb kk : ClassId) (asc : List Int64) (T : Nat → Int64) (n1 tc : Int32) (lg : Int64) (h0 : Heap) (n0 : Nat) (Z0 : n0 ≤ h0.size) (P : own_PS Z h0 n0 a1 b1 t1 k1 kb kk asc T n1 tc lg) (D : own_Sep n0 a1 b1 t1 k1) (hn : n1 = Int32.ofNat asc.length) (hl : asc.length < 1000) (hs : asc.Pairwise (· < ·)) :
    MetFree l (⟨"com/example/dilate_query/dilatequery/collection/PostIds", "inAscendingList", "(J)Z"⟩ : MethodName) (head1 (Jvm.Cond.code (⟨"com/example/dilate_query/dilatequery/collection/PostIds", "inAscendingList", "(J)Z"⟩ : MethodName) prog_2_method_4_code 8 (some .boolean) :: ws) ({ frames := 0, cells := 0, slots := 0, locals := 0 } : Room)) (fun a U => a = #[(.ref a1), (.long q1)] ∧ Z.Warmed39 U.vm ∧ U.heap = h0) (fun _ _ _ _ _ => True) (fun _ U o U' => ∃ v L, o = .returned v ∧ Q7 Z a1 q1 b1 t1 k1 kb kk asc T n1 tc lg h0 n0 v U'.heap L ∧ FrameEnd U o U' L ({ frames := 0, cells := 0, slots := 0, locals := 0 } : Room).cells ({ frames := 0, cells := 0, slots := 0, locals := 0 } : Room).slots) := by
  refine MetFree.of_bodySF (plainFor_of_name pn_PostIds) hisR ?_
  intro p e s m args below meth c s₁ Bd hml0 hP hK
  obtain ⟨rfl, hZ, hh⟩ := hP
  have hx := Bd.exec
  have hby := Bd.bytes
  have hml : c.maxLocals = 8 := hml0
  have hown : s.vm.findClass "com/example/dilate_query/dilatequery/collection/PostIds" = some m.cls := findClass_of_methodNamed Bd.named
  have hnm := (name_of_methodNamed Bd.named Bd.method).1
  have X0 : Stand p l e ({ frames := 0, cells := 0, slots := 0, locals := 0 } : Room) s m #[(.ref a1), (.long q1)] below meth c s₁ [] 0 0 := Stand.of_body Bd
  have e0 : s₁.heap = h0 := by rw [← hh, Bd.state]; rfl
  have N0 := Fr.nil n0
  have pre0 : ∀ t, Steps p.tables e below (s₁.setTop (mkF m 0 #[.val (.ref a1), .val (.long q1), .second, .unset, .unset, .unset, .unset, .unset] [])) t → Steps p.tables e below (s₁.setTop (entryFrame m #[(.ref a1), (.long q1)] 8)) t := fun t k => castTop (ef_7 m a1 q1) k
  obtain ⟨E_a, F_bl, F_tb, F_bits, F_lg, F_n, F_tc, G_t, V_b, G_k, Zp⟩ := P
  obtain ⟨g_a, g_b, g_t, g_k, n_ab, n_at, n_ak, n_bt, n_bk, n_tk⟩ := D
  have hq0 : n1.toInt = asc.length := by rw [hn]; exact own_nat (by omega)
  have em1 : (n1 - (1 : Int32)).toInt = n1.toInt - 1 := Jvm.Kit.i32_sub (by show _ ≤ n1.toInt - 1; omega) (by show n1.toInt - 1 < _; omega)
  obtain ⟨T1, X1, e1, st1⟩ := getF X0 hx hZ hown (host := "") (Or.inl (hw _ (List.mem_of_getElem? (i := 38) rfl))) Via.refl e0 F_n (g := (mkF m 3 #[.val (.ref a1), .val (.long q1), .second, .val (.int (0 : Int32)), .unset, .unset, .unset, .unset] [(.ref a1)])) rfl rfl (hb hby d7_3)
  obtain ⟨TB, LB, XB, eB, hB⟩ := own_bs (locs := []) (cells := 0) (slots := 0) a1 b1 k1 kb kk q1 asc hs hl hx hZ hw hby hml hown F_bl V_b G_k asc.length T1 (0 : Int32) (n1 - (1 : Int32)) .unset .unset .unset X1 e1 One.u (Or.inl ⟨rfl, rfl⟩) (by decide) (by omega) (by show (0 : Int) ≤ _; omega) (by show ((n1 - (1 : Int32)).toInt + 1 - (0 : Int)).toNat ≤ _; omega) (fun j v h _ => absurd h (by show ¬ (j : Int) < 0; omega)) (fun j v h hv => absurd (List.getElem?_eq_some_iff.mp hv).1 (by omega))
  rcases hB with ⟨hm, stB⟩ | ⟨hm, stB⟩
  · obtain ⟨fs, hr, hrun, hended, hW, hsame⟩ := XB.leave (v := some (.int (1 : Int32))) (fun h => by rw [Bd.returns] at h; cases h)
    refine ⟨_, _, pre0 _ ?_, hrun, hended, _, _, rfl, ?_, ⟨_, rfl⟩, hW, hsame.mono (by decide) (by decide)⟩
    · show Steps p.tables e below (s₁.setTop (mkF m 0 #[.val (.ref a1), .val (.long q1), .second, .unset, .unset, .unset, .unset, .unset] [])) _
      refine XS.iconst X0.here hx rfl (hb hby d7_0) ?_
      show Steps p.tables e below (s₁.setTop (mkF m 1 #[.val (.ref a1), .val (.long q1), .second, .unset, .unset, .unset, .unset, .unset] [(.int (0 : Int32))])) _
      refine XS.istoreN X0.here hx rfl (hb hby d7_1) rfl (l' := #[.val (.ref a1), .val (.long q1), .second, .val (.int (0 : Int32)), .unset, .unset, .unset, .unset]) rfl ?_
      show Steps p.tables e below (s₁.setTop (mkF m 2 #[.val (.ref a1), .val (.long q1), .second, .val (.int (0 : Int32)), .unset, .unset, .unset, .unset] [])) _
      refine XS.aloadN X0.here hx rfl (hb hby d7_2) rfl rfl ?_
      show Steps p.tables e below (s₁.setTop (mkF m 3 #[.val (.ref a1), .val (.long q1), .second, .val (.int (0 : Int32)), .unset, .unset, .unset, .unset] [(.ref a1)])) _
      refine st1 _ ?_
      show Steps p.tables e below (T1.setTop (mkF m 6 #[.val (.ref a1), .val (.long q1), .second, .val (.int (0 : Int32)), .unset, .unset, .unset, .unset] [(.int n1)])) _
      refine XS.iconst X1.here hx rfl (hb hby d7_6) ?_
      show Steps p.tables e below (T1.setTop (mkF m 7 #[.val (.ref a1), .val (.long q1), .second, .val (.int (0 : Int32)), .unset, .unset, .unset, .unset] [(.int (1 : Int32)), (.int n1)])) _
      refine XS.isub X1.here hx rfl (hb hby d7_7) rfl ?_
      show Steps p.tables e below (T1.setTop (mkF m 8 #[.val (.ref a1), .val (.long q1), .second, .val (.int (0 : Int32)), .unset, .unset, .unset, .unset] [(.int (n1 - (1 : Int32)))])) _
      refine XS.istore X1.here hx rfl (hb hby d7_8) rfl (l' := #[.val (.ref a1), .val (.long q1), .second, .val (.int (0 : Int32)), .val (.int (n1 - (1 : Int32))), .unset, .unset, .unset]) rfl ?_
      show Steps p.tables e below (T1.setTop (mkF m 10 #[.val (.ref a1), .val (.long q1), .second, .val (.int (0 : Int32)), .val (.int (n1 - (1 : Int32))), .unset, .unset, .unset] [])) _
      refine stB _ ?_
      show Steps p.tables e below (TB.setTop (mkF m 74 LB [])) _
      refine XS.iconst XB.here hx rfl (hb hby d7_74) ?_
      show Steps p.tables e below (TB.setTop (mkF m 75 LB [(.int (1 : Int32))])) _
      exact retN XB hx (t := .boolean) Bd.returns (by simp) (hb hby d7_75) hr
    · show Q7 Z a1 q1 b1 t1 k1 kb kk asc T n1 tc lg h0 n0 _ TB.heap _
      rw [eB]
      exact ⟨(by rw [if_pos hm]), N0, rfl⟩
  · obtain ⟨fs, hr, hrun, hended, hW, hsame⟩ := XB.leave (v := some (.int (0 : Int32))) (fun h => by rw [Bd.returns] at h; cases h)
    refine ⟨_, _, pre0 _ ?_, hrun, hended, _, _, rfl, ?_, ⟨_, rfl⟩, hW, hsame.mono (by decide) (by decide)⟩
    · show Steps p.tables e below (s₁.setTop (mkF m 0 #[.val (.ref a1), .val (.long q1), .second, .unset, .unset, .unset, .unset, .unset] [])) _
      refine XS.iconst X0.here hx rfl (hb hby d7_0) ?_
      show Steps p.tables e below (s₁.setTop (mkF m 1 #[.val (.ref a1), .val (.long q1), .second, .unset, .unset, .unset, .unset, .unset] [(.int (0 : Int32))])) _
      refine XS.istoreN X0.here hx rfl (hb hby d7_1) rfl (l' := #[.val (.ref a1), .val (.long q1), .second, .val (.int (0 : Int32)), .unset, .unset, .unset, .unset]) rfl ?_
      show Steps p.tables e below (s₁.setTop (mkF m 2 #[.val (.ref a1), .val (.long q1), .second, .val (.int (0 : Int32)), .unset, .unset, .unset, .unset] [])) _
      refine XS.aloadN X0.here hx rfl (hb hby d7_2) rfl rfl ?_
      show Steps p.tables e below (s₁.setTop (mkF m 3 #[.val (.ref a1), .val (.long q1), .second, .val (.int (0 : Int32)), .unset, .unset, .unset, .unset] [(.ref a1)])) _
      refine st1 _ ?_
      show Steps p.tables e below (T1.setTop (mkF m 6 #[.val (.ref a1), .val (.long q1), .second, .val (.int (0 : Int32)), .unset, .unset, .unset, .unset] [(.int n1)])) _
      refine XS.iconst X1.here hx rfl (hb hby d7_6) ?_
      show Steps p.tables e below (T1.setTop (mkF m 7 #[.val (.ref a1), .val (.long q1), .second, .val (.int (0 : Int32)), .unset, .unset, .unset, .unset] [(.int (1 : Int32)), (.int n1)])) _
      refine XS.isub X1.here hx rfl (hb hby d7_7) rfl ?_
      show Steps p.tables e below (T1.setTop (mkF m 8 #[.val (.ref a1), .val (.long q1), .second, .val (.int (0 : Int32)), .unset, .unset, .unset, .unset] [(.int (n1 - (1 : Int32)))])) _
      refine XS.istore X1.here hx rfl (hb hby d7_8) rfl (l' := #[.val (.ref a1), .val (.long q1), .second, .val (.int (0 : Int32)), .val (.int (n1 - (1 : Int32))), .unset, .unset, .unset]) rfl ?_
      show Steps p.tables e below (T1.setTop (mkF m 10 #[.val (.ref a1), .val (.long q1), .second, .val (.int (0 : Int32)), .val (.int (n1 - (1 : Int32))), .unset, .unset, .unset] [])) _
      refine stB _ ?_
      show Steps p.tables e below (TB.setTop (mkF m 79 LB [])) _
      refine XS.iconst XB.here hx rfl (hb hby d7_79) ?_
      show Steps p.tables e below (TB.setTop (mkF m 80 LB [(.int (0 : Int32))])) _
      exact retN XB hx (t := .boolean) Bd.returns (by simp) (hb hby d7_80) hr
    · show Q7 Z a1 q1 b1 t1 k1 kb kk asc T n1 tc lg h0 n0 _ TB.heap _
      rw [eB]
      exact ⟨(by rw [if_neg hm]), N0, rfl⟩
theorem d9_0 : decode prog_2_method_6_code 0 = .ok (.aload_n 0, 1) := by decide +kernel
theorem d9_1 : decode prog_2_method_6_code 1 = .ok (.getfield 15, 3) := by decide +kernel
theorem d9_4 : decode prog_2_method_6_code 4 = .ok (.arraylength, 1) := by decide +kernel
theorem d9_5 : decode prog_2_method_6_code 5 = .ok (.iconst 1, 1) := by decide +kernel
theorem d9_6 : decode prog_2_method_6_code 6 = .ok (.isub, 1) := by decide +kernel
theorem d9_7 : decode prog_2_method_6_code 7 = .ok (.istore_n 3, 1) := by decide +kernel
theorem d9_8 : decode prog_2_method_6_code 8 = .ok (.lload_n 1, 1) := by decide +kernel
theorem d9_9 : decode prog_2_method_6_code 9 = .ok (.ldc2_w 61, 3) := by decide +kernel
theorem d9_12 : decode prog_2_method_6_code 12 = .ok (.lmul, 1) := by decide +kernel
theorem d9_13 : decode prog_2_method_6_code 13 = .ok (.bipush 64, 2) := by decide +kernel
theorem d9_15 : decode prog_2_method_6_code 15 = .ok (.aload_n 0, 1) := by decide +kernel
theorem d9_16 : decode prog_2_method_6_code 16 = .ok (.getfield 18, 3) := by decide +kernel
theorem d9_19 : decode prog_2_method_6_code 19 = .ok (.isub, 1) := by decide +kernel
theorem d9_20 : decode prog_2_method_6_code 20 = .ok (.lushr, 1) := by decide +kernel
theorem d9_21 : decode prog_2_method_6_code 21 = .ok (.l2i, 1) := by decide +kernel
theorem d9_22 : decode prog_2_method_6_code 22 = .ok (.istore 4, 2) := by decide +kernel
theorem d9_24 : decode prog_2_method_6_code 24 = .ok (.aload_n 0, 1) := by decide +kernel
theorem d9_25 : decode prog_2_method_6_code 25 = .ok (.getfield 15, 3) := by decide +kernel
theorem d9_28 : decode prog_2_method_6_code 28 = .ok (.iload 4, 2) := by decide +kernel
theorem d9_30 : decode prog_2_method_6_code 30 = .ok (.laload, 1) := by decide +kernel
theorem d9_31 : decode prog_2_method_6_code 31 = .ok (.lconst 0, 1) := by decide +kernel
theorem d9_32 : decode prog_2_method_6_code 32 = .ok (.lcmp, 1) := by decide +kernel
theorem d9_33 : decode prog_2_method_6_code 33 = .ok (.ifCond .eq 26, 3) := by decide +kernel
theorem d9_36 : decode prog_2_method_6_code 36 = .ok (.aload_n 0, 1) := by decide +kernel
theorem d9_37 : decode prog_2_method_6_code 37 = .ok (.getfield 15, 3) := by decide +kernel
theorem d9_40 : decode prog_2_method_6_code 40 = .ok (.iload 4, 2) := by decide +kernel
theorem d9_42 : decode prog_2_method_6_code 42 = .ok (.laload, 1) := by decide +kernel
theorem d9_43 : decode prog_2_method_6_code 43 = .ok (.lload_n 1, 1) := by decide +kernel
theorem d9_44 : decode prog_2_method_6_code 44 = .ok (.lcmp, 1) := by decide +kernel
theorem d9_45 : decode prog_2_method_6_code 45 = .ok (.ifCond .eq 14, 3) := by decide +kernel
theorem d9_48 : decode prog_2_method_6_code 48 = .ok (.iload 4, 2) := by decide +kernel
theorem d9_50 : decode prog_2_method_6_code 50 = .ok (.iconst 1, 1) := by decide +kernel
theorem d9_51 : decode prog_2_method_6_code 51 = .ok (.iadd, 1) := by decide +kernel
theorem d9_52 : decode prog_2_method_6_code 52 = .ok (.iload_n 3, 1) := by decide +kernel
theorem d9_53 : decode prog_2_method_6_code 53 = .ok (.iand, 1) := by decide +kernel
theorem d9_54 : decode prog_2_method_6_code 54 = .ok (.istore 4, 2) := by decide +kernel
theorem d9_56 : decode prog_2_method_6_code 56 = .ok (.goto (-32), 3) := by decide +kernel
theorem d9_59 : decode prog_2_method_6_code 59 = .ok (.iload 4, 2) := by decide +kernel
theorem d9_61 : decode prog_2_method_6_code 61 = .ok (.ireturn, 1) := by decide +kernel
set_option maxRecDepth 65536 in
set_option maxHeartbeats 40000000 in
theorem tn9A {p : Program} {l : Launch} {e : Env} {R : Room} {s : State} {m : MethodId} {args : Array Value} {below : List Frame} {meth : Method} {c : Code} {T0 : State} {locs : List Loc} {cells slots : Nat} {Z : State} {a0 : Array Value} {h0 : Heap} (a1 t1 : Addr) (q1 : Int64) (i4 : Int32) (v6 : Int64) (ct : Cell)
    (X0 : Stand p l e R s m args below meth c T0 locs cells slots) (hx : p.tables.exec = Jvm.exec) (hZ : Z.Warmed39 s.vm) (hw : ∀ d ∈ tables_1, d.before a0 Z = true) (hby : c.code = prog_2_method_6_code) (hml : c.maxLocals = 5) (hown : s.vm.findClass "com/example/dilate_query/dilatequery/collection/PostIds" = some m.cls) (e0 : T0.heap = h0) (F_tb : Fld Z h0 a1 "com/example/dilate_query/dilatequery/collection/PostIds" "table" "[J" (.ref t1)) (Art : Arr Z h0 t1 ct .long) (hin : ¬ (i4 < 0 ∨ ct.slots.size ≤ i4.toNatClampNeg)) (hat : ct.slots[i4.toNatClampNeg]? = some (.long v6)) (hz : ¬ v6 = (0 : Int64)) (hq : ¬ v6 = q1) :
    ∃ T' : State, Stand p l e R s m args below meth c T' locs cells slots ∧ T'.heap = h0 ∧ ∀ target, Steps p.tables e below (T'.setTop (mkF m 24 #[.val (.ref a1), .val (.long q1), .second, .val (.int (1023 : Int32)), .val (.int ((i4 + (1 : Int32)) &&& (1023 : Int32)))] [])) target → Steps p.tables e below (T0.setTop (mkF m 24 #[.val (.ref a1), .val (.long q1), .second, .val (.int (1023 : Int32)), .val (.int i4)] [])) target := by
  obtain ⟨T1, X1, e1, st1⟩ := getF X0 hx hZ hown (host := "") (Or.inl (hw _ (List.mem_of_getElem? (i := 23) rfl))) Via.refl e0 F_tb (g := (mkF m 25 #[.val (.ref a1), .val (.long q1), .second, .val (.int (1023 : Int32)), .val (.int i4)] [(.ref a1)])) rfl rfl (hb hby d9_25)
  obtain ⟨T2, X2, e2, st2⟩ := getF X1 hx hZ hown (host := "") (Or.inl (hw _ (List.mem_of_getElem? (i := 23) rfl))) Via.refl e1 F_tb (g := (mkF m 37 #[.val (.ref a1), .val (.long q1), .second, .val (.int (1023 : Int32)), .val (.int i4)] [(.ref a1)])) rfl rfl (hb hby d9_37)
  refine ⟨T2, X2, e2, fun target kt => ?_⟩
  show Steps p.tables e below (T0.setTop (mkF m 24 #[.val (.ref a1), .val (.long q1), .second, .val (.int (1023 : Int32)), .val (.int i4)] [])) _
  refine XS.aloadN X0.here hx rfl (hb hby d9_24) rfl rfl ?_
  show Steps p.tables e below (T0.setTop (mkF m 25 #[.val (.ref a1), .val (.long q1), .second, .val (.int (1023 : Int32)), .val (.int i4)] [(.ref a1)])) _
  refine st1 _ ?_
  show Steps p.tables e below (T1.setTop (mkF m 28 #[.val (.ref a1), .val (.long q1), .second, .val (.int (1023 : Int32)), .val (.int i4)] [(.ref t1)])) _
  refine XS.iload X1.here hx rfl (hb hby d9_28) rfl ?_
  show Steps p.tables e below (T1.setTop (mkF m 30 #[.val (.ref a1), .val (.long q1), .second, .val (.int (1023 : Int32)), .val (.int i4)] [(.int i4), (.ref t1)])) _
  refine X1.laload hx (j := i4) (v := (.long v6)) (by rw [e1]; exact Art.1) (State.isArrayOf_alike hZ.alike Art.2.1) Art.2.2 hin hat (g := (mkF m 30 #[.val (.ref a1), .val (.long q1), .second, .val (.int (1023 : Int32)), .val (.int i4)] [(.int i4), (.ref t1)])) rfl rfl (hb hby d9_30) _ ?_
  show Steps p.tables e below (T1.setTop (mkF m 31 #[.val (.ref a1), .val (.long q1), .second, .val (.int (1023 : Int32)), .val (.int i4)] [(.long v6)])) _
  refine XS.lconst X1.here hx rfl (hb hby d9_31) ?_
  show Steps p.tables e below (T1.setTop (mkF m 32 #[.val (.ref a1), .val (.long q1), .second, .val (.int (1023 : Int32)), .val (.int i4)] [(.long (0 : Int64)), (.long v6)])) _
  refine XS.lcmp X1.here hx rfl (hb hby d9_32) rfl ?_
  show Steps p.tables e below (T1.setTop (mkF m 33 #[.val (.ref a1), .val (.long q1), .second, .val (.int (1023 : Int32)), .val (.int i4)] [(.int (lcmpW v6 (0 : Int64)))])) _
  refine XS.ifNo X1.here hx rfl (hb hby d9_33) rfl ((if0 _ _).trans (feq (fun z => hz ((lw_eq _ _).mp z))).1) ?_
  show Steps p.tables e below (T1.setTop (mkF m 36 #[.val (.ref a1), .val (.long q1), .second, .val (.int (1023 : Int32)), .val (.int i4)] [])) _
  refine XS.aloadN X1.here hx rfl (hb hby d9_36) rfl rfl ?_
  show Steps p.tables e below (T1.setTop (mkF m 37 #[.val (.ref a1), .val (.long q1), .second, .val (.int (1023 : Int32)), .val (.int i4)] [(.ref a1)])) _
  refine st2 _ ?_
  show Steps p.tables e below (T2.setTop (mkF m 40 #[.val (.ref a1), .val (.long q1), .second, .val (.int (1023 : Int32)), .val (.int i4)] [(.ref t1)])) _
  refine XS.iload X2.here hx rfl (hb hby d9_40) rfl ?_
  show Steps p.tables e below (T2.setTop (mkF m 42 #[.val (.ref a1), .val (.long q1), .second, .val (.int (1023 : Int32)), .val (.int i4)] [(.int i4), (.ref t1)])) _
  refine X2.laload hx (j := i4) (v := (.long v6)) (by rw [e2]; exact Art.1) (State.isArrayOf_alike hZ.alike Art.2.1) Art.2.2 hin hat (g := (mkF m 42 #[.val (.ref a1), .val (.long q1), .second, .val (.int (1023 : Int32)), .val (.int i4)] [(.int i4), (.ref t1)])) rfl rfl (hb hby d9_42) _ ?_
  show Steps p.tables e below (T2.setTop (mkF m 43 #[.val (.ref a1), .val (.long q1), .second, .val (.int (1023 : Int32)), .val (.int i4)] [(.long v6)])) _
  refine XS.lloadN X2.here hx rfl (hb hby d9_43) rfl ?_
  show Steps p.tables e below (T2.setTop (mkF m 44 #[.val (.ref a1), .val (.long q1), .second, .val (.int (1023 : Int32)), .val (.int i4)] [(.long q1), (.long v6)])) _
  refine XS.lcmp X2.here hx rfl (hb hby d9_44) rfl ?_
  show Steps p.tables e below (T2.setTop (mkF m 45 #[.val (.ref a1), .val (.long q1), .second, .val (.int (1023 : Int32)), .val (.int i4)] [(.int (lcmpW v6 q1))])) _
  refine XS.ifNo X2.here hx rfl (hb hby d9_45) rfl ((if0 _ _).trans (feq (fun z => hq ((lw_eq _ _).mp z))).1) ?_
  show Steps p.tables e below (T2.setTop (mkF m 48 #[.val (.ref a1), .val (.long q1), .second, .val (.int (1023 : Int32)), .val (.int i4)] [])) _
  refine XS.iload X2.here hx rfl (hb hby d9_48) rfl ?_
  show Steps p.tables e below (T2.setTop (mkF m 50 #[.val (.ref a1), .val (.long q1), .second, .val (.int (1023 : Int32)), .val (.int i4)] [(.int i4)])) _
  refine XS.iconst X2.here hx rfl (hb hby d9_50) ?_
  show Steps p.tables e below (T2.setTop (mkF m 51 #[.val (.ref a1), .val (.long q1), .second, .val (.int (1023 : Int32)), .val (.int i4)] [(.int (1 : Int32)), (.int i4)])) _
  refine XS.iadd X2.here hx rfl (hb hby d9_51) rfl ?_
  show Steps p.tables e below (T2.setTop (mkF m 52 #[.val (.ref a1), .val (.long q1), .second, .val (.int (1023 : Int32)), .val (.int i4)] [(.int (i4 + (1 : Int32)))])) _
  refine XS.iloadN X2.here hx rfl (hb hby d9_52) rfl ?_
  show Steps p.tables e below (T2.setTop (mkF m 53 #[.val (.ref a1), .val (.long q1), .second, .val (.int (1023 : Int32)), .val (.int i4)] [(.int (1023 : Int32)), (.int (i4 + (1 : Int32)))])) _
  refine XS.iand X2.here hx rfl (hb hby d9_53) rfl ?_
  show Steps p.tables e below (T2.setTop (mkF m 54 #[.val (.ref a1), .val (.long q1), .second, .val (.int (1023 : Int32)), .val (.int i4)] [(.int ((i4 + (1 : Int32)) &&& (1023 : Int32)))])) _
  refine XS.istore X2.here hx rfl (hb hby d9_54) rfl (l' := #[.val (.ref a1), .val (.long q1), .second, .val (.int (1023 : Int32)), .val (.int ((i4 + (1 : Int32)) &&& (1023 : Int32)))]) rfl ?_
  show Steps p.tables e below (T2.setTop (mkF m 56 #[.val (.ref a1), .val (.long q1), .second, .val (.int (1023 : Int32)), .val (.int ((i4 + (1 : Int32)) &&& (1023 : Int32)))] [])) _
  refine XS.goto X2.here hx rfl (pc0 := 56) (pc' := 24) rfl (hb hby d9_56) (by decide) (by decide) ?_
  exact kt
set_option maxRecDepth 65536 in
set_option maxHeartbeats 40000000 in
theorem tn9Z {p : Program} {l : Launch} {e : Env} {R : Room} {s : State} {m : MethodId} {args : Array Value} {below : List Frame} {meth : Method} {c : Code} {T0 : State} {locs : List Loc} {cells slots : Nat} {Z : State} {a0 : Array Value} {h0 : Heap} (a1 t1 : Addr) (q1 : Int64) (i4 : Int32) (v6 : Int64) (ct : Cell)
    (X0 : Stand p l e R s m args below meth c T0 locs cells slots) (hx : p.tables.exec = Jvm.exec) (hZ : Z.Warmed39 s.vm) (hw : ∀ d ∈ tables_1, d.before a0 Z = true) (hby : c.code = prog_2_method_6_code) (hml : c.maxLocals = 5) (hown : s.vm.findClass "com/example/dilate_query/dilatequery/collection/PostIds" = some m.cls) (e0 : T0.heap = h0) (F_tb : Fld Z h0 a1 "com/example/dilate_query/dilatequery/collection/PostIds" "table" "[J" (.ref t1)) (Art : Arr Z h0 t1 ct .long) (hin : ¬ (i4 < 0 ∨ ct.slots.size ≤ i4.toNatClampNeg)) (hat : ct.slots[i4.toNatClampNeg]? = some (.long v6)) (hz : v6 = (0 : Int64)) :
    ∃ T' : State, Stand p l e R s m args below meth c T' locs cells slots ∧ T'.heap = h0 ∧ ∀ target, Steps p.tables e below (T'.setTop (mkF m 59 #[.val (.ref a1), .val (.long q1), .second, .val (.int (1023 : Int32)), .val (.int i4)] [])) target → Steps p.tables e below (T0.setTop (mkF m 24 #[.val (.ref a1), .val (.long q1), .second, .val (.int (1023 : Int32)), .val (.int i4)] [])) target := by
  obtain ⟨T1, X1, e1, st1⟩ := getF X0 hx hZ hown (host := "") (Or.inl (hw _ (List.mem_of_getElem? (i := 23) rfl))) Via.refl e0 F_tb (g := (mkF m 25 #[.val (.ref a1), .val (.long q1), .second, .val (.int (1023 : Int32)), .val (.int i4)] [(.ref a1)])) rfl rfl (hb hby d9_25)
  refine ⟨T1, X1, e1, fun target kt => ?_⟩
  show Steps p.tables e below (T0.setTop (mkF m 24 #[.val (.ref a1), .val (.long q1), .second, .val (.int (1023 : Int32)), .val (.int i4)] [])) _
  refine XS.aloadN X0.here hx rfl (hb hby d9_24) rfl rfl ?_
  show Steps p.tables e below (T0.setTop (mkF m 25 #[.val (.ref a1), .val (.long q1), .second, .val (.int (1023 : Int32)), .val (.int i4)] [(.ref a1)])) _
  refine st1 _ ?_
  show Steps p.tables e below (T1.setTop (mkF m 28 #[.val (.ref a1), .val (.long q1), .second, .val (.int (1023 : Int32)), .val (.int i4)] [(.ref t1)])) _
  refine XS.iload X1.here hx rfl (hb hby d9_28) rfl ?_
  show Steps p.tables e below (T1.setTop (mkF m 30 #[.val (.ref a1), .val (.long q1), .second, .val (.int (1023 : Int32)), .val (.int i4)] [(.int i4), (.ref t1)])) _
  refine X1.laload hx (j := i4) (v := (.long v6)) (by rw [e1]; exact Art.1) (State.isArrayOf_alike hZ.alike Art.2.1) Art.2.2 hin hat (g := (mkF m 30 #[.val (.ref a1), .val (.long q1), .second, .val (.int (1023 : Int32)), .val (.int i4)] [(.int i4), (.ref t1)])) rfl rfl (hb hby d9_30) _ ?_
  show Steps p.tables e below (T1.setTop (mkF m 31 #[.val (.ref a1), .val (.long q1), .second, .val (.int (1023 : Int32)), .val (.int i4)] [(.long v6)])) _
  refine XS.lconst X1.here hx rfl (hb hby d9_31) ?_
  show Steps p.tables e below (T1.setTop (mkF m 32 #[.val (.ref a1), .val (.long q1), .second, .val (.int (1023 : Int32)), .val (.int i4)] [(.long (0 : Int64)), (.long v6)])) _
  refine XS.lcmp X1.here hx rfl (hb hby d9_32) rfl ?_
  show Steps p.tables e below (T1.setTop (mkF m 33 #[.val (.ref a1), .val (.long q1), .second, .val (.int (1023 : Int32)), .val (.int i4)] [(.int (lcmpW v6 (0 : Int64)))])) _
  refine XS.ifYes X1.here hx rfl (pc0 := 33) (pc' := 59) rfl (hb hby d9_33) rfl ((if0 _ _).trans (teq ((lw_eq _ _).mpr hz)).1) (by decide) (by decide) ?_
  exact kt
set_option maxRecDepth 65536 in
set_option maxHeartbeats 40000000 in
theorem tn9Q {p : Program} {l : Launch} {e : Env} {R : Room} {s : State} {m : MethodId} {args : Array Value} {below : List Frame} {meth : Method} {c : Code} {T0 : State} {locs : List Loc} {cells slots : Nat} {Z : State} {a0 : Array Value} {h0 : Heap} (a1 t1 : Addr) (q1 : Int64) (i4 : Int32) (v6 : Int64) (ct : Cell)
    (X0 : Stand p l e R s m args below meth c T0 locs cells slots) (hx : p.tables.exec = Jvm.exec) (hZ : Z.Warmed39 s.vm) (hw : ∀ d ∈ tables_1, d.before a0 Z = true) (hby : c.code = prog_2_method_6_code) (hml : c.maxLocals = 5) (hown : s.vm.findClass "com/example/dilate_query/dilatequery/collection/PostIds" = some m.cls) (e0 : T0.heap = h0) (F_tb : Fld Z h0 a1 "com/example/dilate_query/dilatequery/collection/PostIds" "table" "[J" (.ref t1)) (Art : Arr Z h0 t1 ct .long) (hin : ¬ (i4 < 0 ∨ ct.slots.size ≤ i4.toNatClampNeg)) (hat : ct.slots[i4.toNatClampNeg]? = some (.long v6)) (hz : ¬ v6 = (0 : Int64)) (hq : v6 = q1) :
    ∃ T' : State, Stand p l e R s m args below meth c T' locs cells slots ∧ T'.heap = h0 ∧ ∀ target, Steps p.tables e below (T'.setTop (mkF m 59 #[.val (.ref a1), .val (.long q1), .second, .val (.int (1023 : Int32)), .val (.int i4)] [])) target → Steps p.tables e below (T0.setTop (mkF m 24 #[.val (.ref a1), .val (.long q1), .second, .val (.int (1023 : Int32)), .val (.int i4)] [])) target := by
  obtain ⟨T1, X1, e1, st1⟩ := getF X0 hx hZ hown (host := "") (Or.inl (hw _ (List.mem_of_getElem? (i := 23) rfl))) Via.refl e0 F_tb (g := (mkF m 25 #[.val (.ref a1), .val (.long q1), .second, .val (.int (1023 : Int32)), .val (.int i4)] [(.ref a1)])) rfl rfl (hb hby d9_25)
  obtain ⟨T2, X2, e2, st2⟩ := getF X1 hx hZ hown (host := "") (Or.inl (hw _ (List.mem_of_getElem? (i := 23) rfl))) Via.refl e1 F_tb (g := (mkF m 37 #[.val (.ref a1), .val (.long q1), .second, .val (.int (1023 : Int32)), .val (.int i4)] [(.ref a1)])) rfl rfl (hb hby d9_37)
  refine ⟨T2, X2, e2, fun target kt => ?_⟩
  show Steps p.tables e below (T0.setTop (mkF m 24 #[.val (.ref a1), .val (.long q1), .second, .val (.int (1023 : Int32)), .val (.int i4)] [])) _
  refine XS.aloadN X0.here hx rfl (hb hby d9_24) rfl rfl ?_
  show Steps p.tables e below (T0.setTop (mkF m 25 #[.val (.ref a1), .val (.long q1), .second, .val (.int (1023 : Int32)), .val (.int i4)] [(.ref a1)])) _
  refine st1 _ ?_
  show Steps p.tables e below (T1.setTop (mkF m 28 #[.val (.ref a1), .val (.long q1), .second, .val (.int (1023 : Int32)), .val (.int i4)] [(.ref t1)])) _
  refine XS.iload X1.here hx rfl (hb hby d9_28) rfl ?_
  show Steps p.tables e below (T1.setTop (mkF m 30 #[.val (.ref a1), .val (.long q1), .second, .val (.int (1023 : Int32)), .val (.int i4)] [(.int i4), (.ref t1)])) _
  refine X1.laload hx (j := i4) (v := (.long v6)) (by rw [e1]; exact Art.1) (State.isArrayOf_alike hZ.alike Art.2.1) Art.2.2 hin hat (g := (mkF m 30 #[.val (.ref a1), .val (.long q1), .second, .val (.int (1023 : Int32)), .val (.int i4)] [(.int i4), (.ref t1)])) rfl rfl (hb hby d9_30) _ ?_
  show Steps p.tables e below (T1.setTop (mkF m 31 #[.val (.ref a1), .val (.long q1), .second, .val (.int (1023 : Int32)), .val (.int i4)] [(.long v6)])) _
  refine XS.lconst X1.here hx rfl (hb hby d9_31) ?_
  show Steps p.tables e below (T1.setTop (mkF m 32 #[.val (.ref a1), .val (.long q1), .second, .val (.int (1023 : Int32)), .val (.int i4)] [(.long (0 : Int64)), (.long v6)])) _
  refine XS.lcmp X1.here hx rfl (hb hby d9_32) rfl ?_
  show Steps p.tables e below (T1.setTop (mkF m 33 #[.val (.ref a1), .val (.long q1), .second, .val (.int (1023 : Int32)), .val (.int i4)] [(.int (lcmpW v6 (0 : Int64)))])) _
  refine XS.ifNo X1.here hx rfl (hb hby d9_33) rfl ((if0 _ _).trans (feq (fun z => hz ((lw_eq _ _).mp z))).1) ?_
  show Steps p.tables e below (T1.setTop (mkF m 36 #[.val (.ref a1), .val (.long q1), .second, .val (.int (1023 : Int32)), .val (.int i4)] [])) _
  refine XS.aloadN X1.here hx rfl (hb hby d9_36) rfl rfl ?_
  show Steps p.tables e below (T1.setTop (mkF m 37 #[.val (.ref a1), .val (.long q1), .second, .val (.int (1023 : Int32)), .val (.int i4)] [(.ref a1)])) _
  refine st2 _ ?_
  show Steps p.tables e below (T2.setTop (mkF m 40 #[.val (.ref a1), .val (.long q1), .second, .val (.int (1023 : Int32)), .val (.int i4)] [(.ref t1)])) _
  refine XS.iload X2.here hx rfl (hb hby d9_40) rfl ?_
  show Steps p.tables e below (T2.setTop (mkF m 42 #[.val (.ref a1), .val (.long q1), .second, .val (.int (1023 : Int32)), .val (.int i4)] [(.int i4), (.ref t1)])) _
  refine X2.laload hx (j := i4) (v := (.long v6)) (by rw [e2]; exact Art.1) (State.isArrayOf_alike hZ.alike Art.2.1) Art.2.2 hin hat (g := (mkF m 42 #[.val (.ref a1), .val (.long q1), .second, .val (.int (1023 : Int32)), .val (.int i4)] [(.int i4), (.ref t1)])) rfl rfl (hb hby d9_42) _ ?_
  show Steps p.tables e below (T2.setTop (mkF m 43 #[.val (.ref a1), .val (.long q1), .second, .val (.int (1023 : Int32)), .val (.int i4)] [(.long v6)])) _
  refine XS.lloadN X2.here hx rfl (hb hby d9_43) rfl ?_
  show Steps p.tables e below (T2.setTop (mkF m 44 #[.val (.ref a1), .val (.long q1), .second, .val (.int (1023 : Int32)), .val (.int i4)] [(.long q1), (.long v6)])) _
  refine XS.lcmp X2.here hx rfl (hb hby d9_44) rfl ?_
  show Steps p.tables e below (T2.setTop (mkF m 45 #[.val (.ref a1), .val (.long q1), .second, .val (.int (1023 : Int32)), .val (.int i4)] [(.int (lcmpW v6 q1))])) _
  refine XS.ifYes X2.here hx rfl (pc0 := 45) (pc' := 59) rfl (hb hby d9_45) rfl ((if0 _ _).trans (teq ((lw_eq _ _).mpr hq)).1) (by decide) (by decide) ?_
  exact kt
set_option maxRecDepth 65536 in
set_option maxHeartbeats 40000000 in
theorem own_sf {p : Program} {l : Launch} {e : Env} {R : Room} {s : State} {m : MethodId} {args : Array Value} {below : List Frame} {meth : Method} {c : Code} {locs : List Loc} {cells slots : Nat} {Z : State} {a0 : Array Value} {h0 : Heap} (a1 t1 : Addr) (q1 : Int64) (T : Nat → Int64)
    (hx : p.tables.exec = Jvm.exec) (hZ : Z.Warmed39 s.vm) (hw : ∀ d ∈ tables_1, d.before a0 Z = true) (hby : c.code = prog_2_method_6_code) (hml : c.maxLocals = 5) (hown : s.vm.findClass "com/example/dilate_query/dilatequery/collection/PostIds" = some m.cls) (F_tb : Fld Z h0 a1 "com/example/dilate_query/dilatequery/collection/PostIds" "table" "[J" (.ref t1)) (G_t : own_Tb Z h0 t1 T) :
    ∀ (d : Nat) (T0 : State) (i : Nat), i < 1024 → Stand p l e R s m args below meth c T0 locs cells slots → T0.heap = h0 → own_first T q1 i d →
      ∃ T' : State, Stand p l e R s m args below meth c T' locs cells slots ∧ T'.heap = h0 ∧ ∀ target, Steps p.tables e below (T'.setTop (mkF m 59 #[.val (.ref a1), .val (.long q1), .second, .val (.int (1023 : Int32)), .val (.int (Int32.ofNat ((i + d) % 1024)))] [])) target → Steps p.tables e below (T0.setTop (mkF m 24 #[.val (.ref a1), .val (.long q1), .second, .val (.int (1023 : Int32)), .val (.int (Int32.ofNat i))] [])) target := by
  intro d
  induction d with
  | zero =>
    intro T0 i hi X e0 hf
    obtain ⟨ct, Art, St, Ht⟩ := G_t
    have hs := hf.1
    rw [Nat.add_zero, Nat.mod_eq_of_lt hi] at hs ⊢
    have hc := own_clamp (n := i) (by omega)
    have hin : ¬ (Int32.ofNat i < 0 ∨ ct.slots.size ≤ (Int32.ofNat i).toNatClampNeg) := inb_of St ⟨own_nnat (by omega), by rw [Int32.lt_iff_toInt_lt, own_nat (by omega)]; show (i : Int) < 1024; omega⟩
    have hat : ct.slots[(Int32.ofNat i).toNatClampNeg]? = some (.long (T i)) := by rw [hc]; exact Ht i hi
    by_cases hz : T i = 0
    · exact tn9Z a1 t1 q1 (Int32.ofNat i) (T i) ct X hx hZ hw hby hml hown e0 F_tb Art hin hat hz
    · exact tn9Q a1 t1 q1 (Int32.ofNat i) (T i) ct X hx hZ hw hby hml hown e0 F_tb Art hin hat hz (hs.resolve_left hz)
  | succ d ih =>
    intro T0 i hi X e0 hf
    have G := G_t
    obtain ⟨ct, Art, St, Ht⟩ := G_t
    have hs := hf.2 0 (by omega)
    rw [Nat.add_zero, Nat.mod_eq_of_lt hi] at hs
    have hc := own_clamp (n := i) (by omega)
    have hin : ¬ (Int32.ofNat i < 0 ∨ ct.slots.size ≤ (Int32.ofNat i).toNatClampNeg) := inb_of St ⟨own_nnat (by omega), by rw [Int32.lt_iff_toInt_lt, own_nat (by omega)]; show (i : Int) < 1024; omega⟩
    have hat : ct.slots[(Int32.ofNat i).toNatClampNeg]? = some (.long (T i)) := by rw [hc]; exact Ht i hi
    obtain ⟨T1, X1, e1, st1⟩ := tn9A a1 t1 q1 (Int32.ofNat i) (T i) ct X hx hZ hw hby hml hown e0 F_tb Art hin hat (fun z => hs (Or.inl z)) (fun z => hs (Or.inr z))
    rw [own_next hi] at st1
    have hsh : ∀ d', (((i + 1) % 1024) + d') % 1024 = (i + (d' + 1)) % 1024 := fun d' => by omega
    obtain ⟨T', X', e', st'⟩ := ih T1 ((i + 1) % 1024) (Nat.mod_lt _ (by decide)) X1 e1 ⟨by rw [hsh]; exact hf.1, fun d' hd => by rw [hsh]; exact hf.2 (d' + 1) (by omega)⟩
    rw [hsh] at st'
    exact ⟨T', X', e', fun t k => st1 t (st' t k)⟩
theorem ef_9 (m : MethodId) (x0 : Addr) (x1 : Int64) : entryFrame m #[(.ref x0), (.long x1)] 5 = mkF m 0 #[.val (.ref x0), .val (.long x1), .second, .unset, .unset] [] := by first | (simp [entryFrame, mkF, argsToLocals, Value.category]; done) | rfl
def Q9 (Z : State) (a1 : Addr) (q1 : Int64) (b1 t1 k1 : Addr) (kb kk : ClassId) (asc : List Int64) (T : Nat → Int64) (n1 tc : Int32) (lg : Int64) (d : Nat) (h0 : Heap) (n0 : Nat) (v : Option Value) (h : Heap) (L : List Loc) : Prop := v = some (.int (Int32.ofNat ((own_h q1 + d) % 1024))) ∧ Fr n0 L ∧ h = h0
set_option maxRecDepth 65536 in
set_option maxHeartbeats 40000000 in
theorem rm9 (l : Launch) (Z : State) (a0 : Array Value) (hw : ∀ d ∈ tables_1, d.before a0 Z = true) (ws : List Jvm.Cond) (a1 : Addr) (q1 : Int64) (b1 t1 k1 : Addr) (kb kk : ClassId) (asc : List Int64) (T : Nat → Int64) (n1 tc : Int32) (lg : Int64) (d : Nat) (h0 : Heap) (n0 : Nat) (Z0 : n0 ≤ h0.size) (P : own_PS Z h0 n0 a1 b1 t1 k1 kb kk asc T n1 tc lg) (D : own_Sep n0 a1 b1 t1 k1) (hf : own_first T q1 (own_h q1) d) :
    MetFree l (⟨"com/example/dilate_query/dilatequery/collection/PostIds", "slotFor", "(J)I"⟩ : MethodName) (head1 (Jvm.Cond.code (⟨"com/example/dilate_query/dilatequery/collection/PostIds", "slotFor", "(J)I"⟩ : MethodName) prog_2_method_6_code 5 (some .int) :: ws) ({ frames := 0, cells := 0, slots := 0, locals := 0 } : Room)) (fun a U => a = #[(.ref a1), (.long q1)] ∧ Z.Warmed39 U.vm ∧ U.heap = h0) (fun _ _ _ _ _ => True) (fun _ U o U' => ∃ v L, o = .returned v ∧ Q9 Z a1 q1 b1 t1 k1 kb kk asc T n1 tc lg d h0 n0 v U'.heap L ∧ FrameEnd U o U' L ({ frames := 0, cells := 0, slots := 0, locals := 0 } : Room).cells ({ frames := 0, cells := 0, slots := 0, locals := 0 } : Room).slots) := by
  refine MetFree.of_bodySF (plainFor_of_name pn_PostIds) hisR ?_
  intro p e s m args below meth c s₁ Bd hml0 hP hK
  obtain ⟨rfl, hZ, hh⟩ := hP
  have hx := Bd.exec
  have hby := Bd.bytes
  have hml : c.maxLocals = 5 := hml0
  have hown : s.vm.findClass "com/example/dilate_query/dilatequery/collection/PostIds" = some m.cls := findClass_of_methodNamed Bd.named
  have hnm := (name_of_methodNamed Bd.named Bd.method).1
  have X0 : Stand p l e ({ frames := 0, cells := 0, slots := 0, locals := 0 } : Room) s m #[(.ref a1), (.long q1)] below meth c s₁ [] 0 0 := Stand.of_body Bd
  have e0 : s₁.heap = h0 := by rw [← hh, Bd.state]; rfl
  have N0 := Fr.nil n0
  have pre0 : ∀ t, Steps p.tables e below (s₁.setTop (mkF m 0 #[.val (.ref a1), .val (.long q1), .second, .unset, .unset] [])) t → Steps p.tables e below (s₁.setTop (entryFrame m #[(.ref a1), (.long q1)] 5)) t := fun t k => castTop (ef_9 m a1 q1) k
  obtain ⟨E_a, F_bl, F_tb, F_bits, F_lg, F_n, F_tc, G_t, V_b, G_k, Zp⟩ := P
  obtain ⟨g_a, g_b, g_t, g_k, n_ab, n_at, n_ak, n_bt, n_bk, n_tk⟩ := D
  obtain ⟨T1, X1, e1, st1⟩ := getF X0 hx hZ hown (host := "") (Or.inl (hw _ (List.mem_of_getElem? (i := 23) rfl))) Via.refl e0 F_tb (g := (mkF m 1 #[.val (.ref a1), .val (.long q1), .second, .unset, .unset] [(.ref a1)])) rfl rfl (hb hby d9_1)
  obtain ⟨ct, Art, St, Ht⟩ := id G_t
  obtain ⟨T2, X2, e2, st2⟩ := getF X1 hx hZ hown (host := "") (Or.inl (hw _ (List.mem_of_getElem? (i := 25) rfl))) Via.refl e1 F_bits (g := (mkF m 16 #[.val (.ref a1), .val (.long q1), .second, .val (.int (1023 : Int32)), .unset] [(.ref a1), (.int (64 : Int32)), (.long (q1 * (-7046029254386353131 : Int64)))])) rfl rfl (hb hby d9_16)
  obtain ⟨TB, XB, eB, stB⟩ := own_sf a1 t1 q1 T hx hZ hw hby hml hown F_tb G_t d T2 (own_h q1) (own_h_lt q1) X2 e2 hf
  obtain ⟨fs, hr, hrun, hended, hW, hsame⟩ := XB.leave (v := some (.int (Int32.ofNat ((own_h q1 + d) % 1024)))) (fun h => by rw [Bd.returns] at h; cases h)
  refine ⟨_, _, pre0 _ ?_, hrun, hended, _, _, rfl, ?_, ⟨_, rfl⟩, hW, hsame.mono (by decide) (by decide)⟩
  · show Steps p.tables e below (s₁.setTop (mkF m 0 #[.val (.ref a1), .val (.long q1), .second, .unset, .unset] [])) _
    refine XS.aloadN X0.here hx rfl (hb hby d9_0) rfl rfl ?_
    show Steps p.tables e below (s₁.setTop (mkF m 1 #[.val (.ref a1), .val (.long q1), .second, .unset, .unset] [(.ref a1)])) _
    refine st1 _ ?_
    show Steps p.tables e below (T1.setTop (mkF m 4 #[.val (.ref a1), .val (.long q1), .second, .unset, .unset] [(.ref t1)])) _
    refine X1.arraylength hx (by rw [e1]; exact Art.1) (State.isArrayOf_alike hZ.alike Art.2.1) (g := (mkF m 4 #[.val (.ref a1), .val (.long q1), .second, .unset, .unset] [(.ref t1)])) rfl rfl (hb hby d9_4) _ ?_
    rw [len_of St (by decide)]
    show Steps p.tables e below (T1.setTop (mkF m 5 #[.val (.ref a1), .val (.long q1), .second, .unset, .unset] [(.int (1024 : Int32))])) _
    refine XS.iconst X1.here hx rfl (hb hby d9_5) ?_
    show Steps p.tables e below (T1.setTop (mkF m 6 #[.val (.ref a1), .val (.long q1), .second, .unset, .unset] [(.int (1 : Int32)), (.int (1024 : Int32))])) _
    refine XS.isub X1.here hx rfl (hb hby d9_6) rfl ?_
    show Steps p.tables e below (T1.setTop (mkF m 7 #[.val (.ref a1), .val (.long q1), .second, .unset, .unset] [(.int ((1024 : Int32) - (1 : Int32)))])) _
    rw [show ((1024 : Int32) - (1 : Int32)) = (1023 : Int32) from by decide +kernel]
    show Steps p.tables e below (T1.setTop (mkF m 7 #[.val (.ref a1), .val (.long q1), .second, .unset, .unset] [(.int (1023 : Int32))])) _
    refine XS.istoreN X1.here hx rfl (hb hby d9_7) rfl (l' := #[.val (.ref a1), .val (.long q1), .second, .val (.int (1023 : Int32)), .unset]) rfl ?_
    show Steps p.tables e below (T1.setTop (mkF m 8 #[.val (.ref a1), .val (.long q1), .second, .val (.int (1023 : Int32)), .unset] [])) _
    refine XS.lloadN X1.here hx rfl (hb hby d9_8) rfl ?_
    show Steps p.tables e below (T1.setTop (mkF m 9 #[.val (.ref a1), .val (.long q1), .second, .val (.int (1023 : Int32)), .unset] [(.long q1)])) _
    refine X1.ldc2Long hx hown (mvT hZ (hw _ (List.mem_of_getElem? (i := 53) rfl))) (g := (mkF m 9 #[.val (.ref a1), .val (.long q1), .second, .val (.int (1023 : Int32)), .unset] [(.long q1)])) rfl (hb hby d9_9) _ ?_
    show Steps p.tables e below (T1.setTop (mkF m 12 #[.val (.ref a1), .val (.long q1), .second, .val (.int (1023 : Int32)), .unset] [(.long (-7046029254386353131 : Int64)), (.long q1)])) _
    refine XS.lmul X1.here hx rfl (hb hby d9_12) rfl ?_
    show Steps p.tables e below (T1.setTop (mkF m 13 #[.val (.ref a1), .val (.long q1), .second, .val (.int (1023 : Int32)), .unset] [(.long (q1 * (-7046029254386353131 : Int64)))])) _
    refine XS.bipush X1.here hx rfl (hb hby d9_13) ?_
    show Steps p.tables e below (T1.setTop (mkF m 15 #[.val (.ref a1), .val (.long q1), .second, .val (.int (1023 : Int32)), .unset] [(.int (64 : Int32)), (.long (q1 * (-7046029254386353131 : Int64)))])) _
    refine XS.aloadN X1.here hx rfl (hb hby d9_15) rfl rfl ?_
    show Steps p.tables e below (T1.setTop (mkF m 16 #[.val (.ref a1), .val (.long q1), .second, .val (.int (1023 : Int32)), .unset] [(.ref a1), (.int (64 : Int32)), (.long (q1 * (-7046029254386353131 : Int64)))])) _
    refine st2 _ ?_
    show Steps p.tables e below (T2.setTop (mkF m 19 #[.val (.ref a1), .val (.long q1), .second, .val (.int (1023 : Int32)), .unset] [(.int (10 : Int32)), (.int (64 : Int32)), (.long (q1 * (-7046029254386353131 : Int64)))])) _
    refine XS.isub X2.here hx rfl (hb hby d9_19) rfl ?_
    show Steps p.tables e below (T2.setTop (mkF m 20 #[.val (.ref a1), .val (.long q1), .second, .val (.int (1023 : Int32)), .unset] [(.int ((64 : Int32) - (10 : Int32))), (.long (q1 * (-7046029254386353131 : Int64)))])) _
    refine XS.lushr X2.here hx rfl (hb hby d9_20) rfl ?_
    show Steps p.tables e below (T2.setTop (mkF m 21 #[.val (.ref a1), .val (.long q1), .second, .val (.int (1023 : Int32)), .unset] [(.long (((q1 * (-7046029254386353131 : Int64)).toUInt64 >>> (((64 : Int32) - (10 : Int32)) &&& 0x3f).toInt64.toUInt64).toInt64))])) _
    refine XS.l2i X2.here hx rfl (hb hby d9_21) rfl ?_
    show Steps p.tables e below (T2.setTop (mkF m 22 #[.val (.ref a1), .val (.long q1), .second, .val (.int (1023 : Int32)), .unset] [(.int ((((q1 * (-7046029254386353131 : Int64)).toUInt64 >>> (((64 : Int32) - (10 : Int32)) &&& 0x3f).toInt64.toUInt64).toInt64).toInt32))])) _
    rw [show ((((q1 * (-7046029254386353131 : Int64)).toUInt64 >>> (((64 : Int32) - (10 : Int32)) &&& 0x3f).toInt64.toUInt64).toInt64).toInt32) = Int32.ofNat (own_h q1) from own_hI_eq q1]
    show Steps p.tables e below (T2.setTop (mkF m 22 #[.val (.ref a1), .val (.long q1), .second, .val (.int (1023 : Int32)), .unset] [(.int (Int32.ofNat (own_h q1)))])) _
    refine XS.istore X2.here hx rfl (hb hby d9_22) rfl (l' := #[.val (.ref a1), .val (.long q1), .second, .val (.int (1023 : Int32)), .val (.int (Int32.ofNat (own_h q1)))]) rfl ?_
    show Steps p.tables e below (T2.setTop (mkF m 24 #[.val (.ref a1), .val (.long q1), .second, .val (.int (1023 : Int32)), .val (.int (Int32.ofNat (own_h q1)))] [])) _
    refine stB _ ?_
    show Steps p.tables e below (TB.setTop (mkF m 59 #[.val (.ref a1), .val (.long q1), .second, .val (.int (1023 : Int32)), .val (.int (Int32.ofNat ((own_h q1 + d) % 1024)))] [])) _
    refine XS.iload XB.here hx rfl (hb hby d9_59) rfl ?_
    show Steps p.tables e below (TB.setTop (mkF m 61 #[.val (.ref a1), .val (.long q1), .second, .val (.int (1023 : Int32)), .val (.int (Int32.ofNat ((own_h q1 + d) % 1024)))] [(.int (Int32.ofNat ((own_h q1 + d) % 1024)))])) _
    exact retI XB hx Bd.returns (hb hby d9_61) hr
  · show Q9 Z a1 q1 b1 t1 k1 kb kk asc T n1 tc lg d h0 n0 _ TB.heap _
    rw [eB]
    exact ⟨rfl, N0, rfl⟩
theorem own_sel {s : State} {args : Array Value} {y z : MethodName} (hz : (Jvm.Cond.selects z.cls z z).before args s = true) (hc : y.cls = z.cls) (hinst : (Jvm.Cond.instanceMethod y).before args s = true) (hp : (Jvm.Cond.privateMethod y).before args s = true) (hy : y.cls ≠ "java/lang/invoke/MethodHandle" ∧ y.cls ≠ "java/lang/invoke/VarHandle") : (Jvm.Cond.selects y.cls y y).before args s = true := by
  obtain ⟨c2, r2, m2, -, -, q3, -, kP, hkP, hkPi⟩ := Cond.selects_spec hz
  exact selects_self_of_private (c := m2.cls) (k := kP) (by rw [hc]; exact findClass_of_methodNamed q3) hkP hkPi (Cond.privateMethod_at hp) hinst hy
theorem own_few {tc : Int32} (h0 : 0 ≤ tc.toInt) (h1 : tc.toInt < 700) : ¬ (0 : Int32) < lcmpW (((tc + (1 : Int32)).toInt64) * (4 : Int64)) (((1024 : Int32).toInt64) * (3 : Int64)) := fun z => by
  have z' := (lw_gt _ _).mp z
  rw [Int64.lt_iff_toInt_lt] at z'
  have ea : (tc + (1 : Int32)).toInt = tc.toInt + 1 := Jvm.Kit.i32_add (by show _ ≤ tc.toInt + 1; omega) (by show tc.toInt + 1 < _; omega)
  have eb : ((tc + (1 : Int32)).toInt64).toInt = tc.toInt + 1 := by rw [c_i2l, ea]
  have ec : (((tc + (1 : Int32)).toInt64) * (4 : Int64)).toInt = (tc.toInt + 1) * 4 := by rw [Jvm.Kit.i64_mul (by rw [eb]; show _ ≤ (tc.toInt + 1) * 4; omega) (by rw [eb]; show (tc.toInt + 1) * 4 < _; omega), eb]; rfl
  have ed : (((1024 : Int32).toInt64) * (3 : Int64)).toInt = 3072 := by decide
  rw [ec, ed] at z'
  omega
theorem pd_0 : parseMethodDescriptor "(J)I" = some ⟨[.long], some .int⟩ := by decide +kernel
theorem d8_0 : decode prog_2_method_5_code 0 = .ok (.aload_n 0, 1) := by decide +kernel
theorem d8_1 : decode prog_2_method_5_code 1 = .ok (.lload_n 1, 1) := by decide +kernel
theorem d8_2 : decode prog_2_method_5_code 2 = .ok (.invokevirtual 47, 3) := by decide +kernel
theorem d8_5 : decode prog_2_method_5_code 5 = .ok (.istore_n 3, 1) := by decide +kernel
theorem d8_6 : decode prog_2_method_5_code 6 = .ok (.aload_n 0, 1) := by decide +kernel
theorem d8_7 : decode prog_2_method_5_code 7 = .ok (.getfield 15, 3) := by decide +kernel
theorem d8_10 : decode prog_2_method_5_code 10 = .ok (.iload_n 3, 1) := by decide +kernel
theorem d8_11 : decode prog_2_method_5_code 11 = .ok (.laload, 1) := by decide +kernel
theorem d8_12 : decode prog_2_method_5_code 12 = .ok (.lload_n 1, 1) := by decide +kernel
theorem d8_13 : decode prog_2_method_5_code 13 = .ok (.lcmp, 1) := by decide +kernel
theorem d8_14 : decode prog_2_method_5_code 14 = .ok (.ifCond .eq 7, 3) := by decide +kernel
theorem d8_17 : decode prog_2_method_5_code 17 = .ok (.iconst 1, 1) := by decide +kernel
theorem d8_18 : decode prog_2_method_5_code 18 = .ok (.goto 4, 3) := by decide +kernel
theorem d8_21 : decode prog_2_method_5_code 21 = .ok (.iconst 0, 1) := by decide +kernel
theorem d8_22 : decode prog_2_method_5_code 22 = .ok (.istore 4, 2) := by decide +kernel
theorem d8_24 : decode prog_2_method_5_code 24 = .ok (.iload 4, 2) := by decide +kernel
theorem d8_26 : decode prog_2_method_5_code 26 = .ok (.ifCond .eq 47, 3) := by decide +kernel
theorem d8_29 : decode prog_2_method_5_code 29 = .ok (.aload_n 0, 1) := by decide +kernel
theorem d8_30 : decode prog_2_method_5_code 30 = .ok (.getfield 15, 3) := by decide +kernel
theorem d8_33 : decode prog_2_method_5_code 33 = .ok (.iload_n 3, 1) := by decide +kernel
theorem d8_34 : decode prog_2_method_5_code 34 = .ok (.lload_n 1, 1) := by decide +kernel
theorem d8_35 : decode prog_2_method_5_code 35 = .ok (.lastore, 1) := by decide +kernel
theorem d8_36 : decode prog_2_method_5_code 36 = .ok (.aload_n 0, 1) := by decide +kernel
theorem d8_37 : decode prog_2_method_5_code 37 = .ok (.dup, 1) := by decide +kernel
theorem d8_38 : decode prog_2_method_5_code 38 = .ok (.getfield 51, 3) := by decide +kernel
theorem d8_41 : decode prog_2_method_5_code 41 = .ok (.iconst 1, 1) := by decide +kernel
theorem d8_42 : decode prog_2_method_5_code 42 = .ok (.iadd, 1) := by decide +kernel
theorem d8_43 : decode prog_2_method_5_code 43 = .ok (.putfield 51, 3) := by decide +kernel
theorem d8_46 : decode prog_2_method_5_code 46 = .ok (.aload_n 0, 1) := by decide +kernel
theorem d8_47 : decode prog_2_method_5_code 47 = .ok (.getfield 51, 3) := by decide +kernel
theorem d8_50 : decode prog_2_method_5_code 50 = .ok (.i2l, 1) := by decide +kernel
theorem d8_51 : decode prog_2_method_5_code 51 = .ok (.ldc2_w 54, 3) := by decide +kernel
theorem d8_54 : decode prog_2_method_5_code 54 = .ok (.lmul, 1) := by decide +kernel
theorem d8_55 : decode prog_2_method_5_code 55 = .ok (.aload_n 0, 1) := by decide +kernel
theorem d8_56 : decode prog_2_method_5_code 56 = .ok (.getfield 15, 3) := by decide +kernel
theorem d8_59 : decode prog_2_method_5_code 59 = .ok (.arraylength, 1) := by decide +kernel
theorem d8_60 : decode prog_2_method_5_code 60 = .ok (.i2l, 1) := by decide +kernel
theorem d8_61 : decode prog_2_method_5_code 61 = .ok (.ldc2_w 56, 3) := by decide +kernel
theorem d8_64 : decode prog_2_method_5_code 64 = .ok (.lmul, 1) := by decide +kernel
theorem d8_65 : decode prog_2_method_5_code 65 = .ok (.lcmp, 1) := by decide +kernel
theorem d8_66 : decode prog_2_method_5_code 66 = .ok (.ifCond .le 7, 3) := by decide +kernel
theorem d8_69 : decode prog_2_method_5_code 69 = .ok (.aload_n 0, 1) := by decide +kernel
theorem d8_70 : decode prog_2_method_5_code 70 = .ok (.invokevirtual 58, 3) := by decide +kernel
theorem d8_73 : decode prog_2_method_5_code 73 = .ok (.iload 4, 2) := by decide +kernel
theorem d8_75 : decode prog_2_method_5_code 75 = .ok (.ireturn, 1) := by decide +kernel
theorem ef_8 (m : MethodId) (x0 : Addr) (x1 : Int64) : entryFrame m #[(.ref x0), (.long x1)] 5 = mkF m 0 #[.val (.ref x0), .val (.long x1), .second, .unset, .unset] [] := by first | (simp [entryFrame, mkF, argsToLocals, Value.category]; done) | rfl
def Q8y (Z : State) (a1 : Addr) (q1 : Int64) (b1 t1 k1 : Addr) (kb kk : ClassId) (asc : List Int64) (T : Nat → Int64) (n1 tc : Int32) (lg : Int64) (d : Nat) (h0 : Heap) (n0 : Nat) (v : Option Value) (h : Heap) (L : List Loc) : Prop := v = some (.int (0 : Int32)) ∧ Fr n0 L ∧ h = h0
set_option maxRecDepth 65536 in
set_option maxHeartbeats 40000000 in
theorem rm8y (l : Launch) (Z : State) (a0 : Array Value) (hw : ∀ d ∈ tables_1, d.before a0 Z = true) (ws : List Jvm.Cond) (a1 : Addr) (q1 : Int64) (b1 t1 k1 : Addr) (kb kk : ClassId) (asc : List Int64) (T : Nat → Int64) (n1 tc : Int32) (lg : Int64) (d : Nat) (h0 : Heap) (n0 : Nat) (Z0 : n0 ≤ h0.size) (P : own_PS Z h0 n0 a1 b1 t1 k1 kb kk asc T n1 tc lg) (D : own_Sep n0 a1 b1 t1 k1) (hf : own_first T q1 (own_h q1) d) (he : T ((own_h q1 + d) % 1024) = q1) :
    MetFree l (⟨"com/example/dilate_query/dilatequery/collection/PostIds", "addToTable", "(J)Z"⟩ : MethodName) (head1 (Jvm.Cond.code (⟨"com/example/dilate_query/dilatequery/collection/PostIds", "addToTable", "(J)Z"⟩ : MethodName) prog_2_method_5_code 5 (some .boolean) :: ws) ({ frames := 1, cells := 0, slots := 0, locals := 16 } : Room)) (fun a U => a = #[(.ref a1), (.long q1)] ∧ Z.Warmed39 U.vm ∧ U.heap = h0) (fun _ _ _ _ _ => True) (fun _ U o U' => ∃ v L, o = .returned v ∧ Q8y Z a1 q1 b1 t1 k1 kb kk asc T n1 tc lg d h0 n0 v U'.heap L ∧ FrameEnd U o U' L ({ frames := 1, cells := 0, slots := 0, locals := 16 } : Room).cells ({ frames := 1, cells := 0, slots := 0, locals := 16 } : Room).slots) := by
  refine MetFree.of_bodySF (plainFor_of_name pn_PostIds) hisR ?_
  intro p e s m args below meth c s₁ Bd hml0 hP hK
  obtain ⟨rfl, hZ, hh⟩ := hP
  have hx := Bd.exec
  have hby := Bd.bytes
  have hml : c.maxLocals = 5 := hml0
  have hown : s.vm.findClass "com/example/dilate_query/dilatequery/collection/PostIds" = some m.cls := findClass_of_methodNamed Bd.named
  have hnm := (name_of_methodNamed Bd.named Bd.method).1
  have X0 : Stand p l e ({ frames := 1, cells := 0, slots := 0, locals := 16 } : Room) s m #[(.ref a1), (.long q1)] below meth c s₁ [] 0 0 := Stand.of_body Bd
  have e0 : s₁.heap = h0 := by rw [← hh, Bd.state]; rfl
  have N0 := Fr.nil n0
  have pre0 : ∀ t, Steps p.tables e below (s₁.setTop (mkF m 0 #[.val (.ref a1), .val (.long q1), .second, .unset, .unset] [])) t → Steps p.tables e below (s₁.setTop (entryFrame m #[(.ref a1), (.long q1)] 5)) t := fun t k => castTop (ef_8 m a1 q1) k
  have P' := P
  have D' := D
  obtain ⟨E_a, F_bl, F_tb, F_bits, F_lg, F_n, F_tc, G_t, V_b, G_k, Zp⟩ := P
  obtain ⟨g_a, g_b, g_t, g_k, n_ab, n_at, n_ak, n_bt, n_bk, n_tk⟩ := D
  obtain ⟨sl, hsle⟩ : ∃ sl, (own_h q1 + d) % 1024 = sl := ⟨_, rfl⟩
  have hsl : sl < 1024 := by rw [← hsle]; exact Nat.mod_lt _ (by decide)
  have hsc : (Int32.ofNat sl).toNatClampNeg = sl := own_clamp (by omega)
  have hs0 : ¬ (Int32.ofNat sl) < 0 := own_nnat (by omega)
  have hs1 : (Int32.ofNat sl) < (1024 : Int32) := by rw [Int32.lt_iff_toInt_lt, own_nat (by omega)]; show (sl : Int) < 1024; omega
  rw [hsle] at he
  obtain ⟨cq1, qc1, qc1'⟩ := E_a.cell
  obtain ⟨_, _, ⟨T1, L1, k1, n1⟩, -, X1, ⟨Lc1, hQ1, l1, y1, z1⟩, st1⟩ := X0.privateBack hx (y := (⟨"com/example/dilate_query/dilatequery/collection/PostIds", "slotFor", "(J)I"⟩ : MethodName)) hown (mvT hZ (hw _ (List.mem_of_getElem? (i := 49) rfl))) (mvT hZ (hw _ (List.mem_of_getElem? (i := 50) rfl))) (own_sel (z := (⟨"com/example/dilate_query/dilatequery/collection/PostIds", "add", "(J)Z"⟩ : MethodName)) (y := (⟨"com/example/dilate_query/dilatequery/collection/PostIds", "slotFor", "(J)I"⟩ : MethodName)) (mvT hZ (hw _ (List.mem_of_getElem? (i := 30) rfl))) rfl (mvT hZ (hw _ (List.mem_of_getElem? (i := 50) rfl))) (mvP hZ (hw _ (List.mem_of_getElem? (i := 51) rfl))) (by decide)) (Cond.privateMethod_at (mvP hZ (hw _ (List.mem_of_getElem? (i := 51) rfl)) (args := #[]))) (mvT hZ (hw _ (List.mem_of_getElem? (i := 52) rfl))) (by decide) (backOf (W := 0) (rm9 l Z a0 hw [] a1 q1 b1 t1 k1 kb kk asc T n1 tc lg d h0 n0 Z0 P' D' hf) hZ (hw _ (List.mem_of_getElem? (i := 52) rfl)) (hw _ (List.mem_of_getElem? (i := 11) rfl)) (by decide) (by decide)) (g := (mkF m 2 #[.val (.ref a1), .val (.long q1), .second, .unset, .unset] [(.long q1), (.ref a1)])) rfl (by rw [hml]; rfl) (Steps.refl _) (a := a1) (by rw [e0]; exact qc1) qc1' (argsL := [(.long q1)]) (rest := []) (lenOf pd_0 rfl) rfl (by show 2 * 0 + _ ≤ _; exact Nat.le_of_eq rfl) (hb hby d8_2) (fun _ _ => ⟨rfl, e0, (by decide : 0 + 0 ≤ _), (by decide : 0 + 0 ≤ _)⟩)
  dsimp only [Pt.U, Pt.locs, Pt.cells, Pt.slots] at X1 l1 y1 z1 st1 hQ1
  subst l1 y1 z1
  obtain ⟨rfl, N1q, eq1⟩ := hQ1
  rw [hsle] at st1
  have N1 := Fr.app N0 N1q
  obtain ⟨T2, X2, e2, st2⟩ := getF X1 hx hZ hown (host := "") (Or.inl (hw _ (List.mem_of_getElem? (i := 23) rfl))) Via.refl eq1 F_tb (g := (mkF m 7 #[.val (.ref a1), .val (.long q1), .second, .val (.int (Int32.ofNat sl)), .unset] [(.ref a1)])) rfl rfl (hb hby d8_7)
  obtain ⟨ct, Art, St, Ht⟩ := id G_t
  have hin := inb_of St ⟨hs0, hs1⟩
  have hat : ct.slots[(Int32.ofNat sl).toNatClampNeg]? = some (.long (T sl)) := by rw [hsc]; exact Ht sl hsl
  obtain ⟨fs, hr, hrun, hended, hW, hsame⟩ := X2.leave (v := some (.int (0 : Int32))) (fun h => by rw [Bd.returns] at h; cases h)
  refine ⟨_, _, pre0 _ ?_, hrun, hended, _, _, rfl, ?_, ⟨_, rfl⟩, hW, hsame.mono (by decide) (by decide)⟩
  · show Steps p.tables e below (s₁.setTop (mkF m 0 #[.val (.ref a1), .val (.long q1), .second, .unset, .unset] [])) _
    refine XS.aloadN X0.here hx rfl (hb hby d8_0) rfl rfl ?_
    show Steps p.tables e below (s₁.setTop (mkF m 1 #[.val (.ref a1), .val (.long q1), .second, .unset, .unset] [(.ref a1)])) _
    refine XS.lloadN X0.here hx rfl (hb hby d8_1) rfl ?_
    show Steps p.tables e below (s₁.setTop (mkF m 2 #[.val (.ref a1), .val (.long q1), .second, .unset, .unset] [(.long q1), (.ref a1)])) _
    refine st1.trans ?_
    show Steps p.tables e below (T1.setTop (mkF m 5 #[.val (.ref a1), .val (.long q1), .second, .unset, .unset] [(.int (Int32.ofNat sl))])) _
    refine XS.istoreN X1.here hx rfl (hb hby d8_5) rfl (l' := #[.val (.ref a1), .val (.long q1), .second, .val (.int (Int32.ofNat sl)), .unset]) rfl ?_
    show Steps p.tables e below (T1.setTop (mkF m 6 #[.val (.ref a1), .val (.long q1), .second, .val (.int (Int32.ofNat sl)), .unset] [])) _
    refine XS.aloadN X1.here hx rfl (hb hby d8_6) rfl rfl ?_
    show Steps p.tables e below (T1.setTop (mkF m 7 #[.val (.ref a1), .val (.long q1), .second, .val (.int (Int32.ofNat sl)), .unset] [(.ref a1)])) _
    refine st2 _ ?_
    show Steps p.tables e below (T2.setTop (mkF m 10 #[.val (.ref a1), .val (.long q1), .second, .val (.int (Int32.ofNat sl)), .unset] [(.ref t1)])) _
    refine XS.iloadN X2.here hx rfl (hb hby d8_10) rfl ?_
    show Steps p.tables e below (T2.setTop (mkF m 11 #[.val (.ref a1), .val (.long q1), .second, .val (.int (Int32.ofNat sl)), .unset] [(.int (Int32.ofNat sl)), (.ref t1)])) _
    refine X2.laload hx (j := (Int32.ofNat sl)) (v := (.long (T sl))) (by rw [e2]; exact Art.1) (State.isArrayOf_alike hZ.alike Art.2.1) Art.2.2 hin hat (g := (mkF m 11 #[.val (.ref a1), .val (.long q1), .second, .val (.int (Int32.ofNat sl)), .unset] [(.int (Int32.ofNat sl)), (.ref t1)])) rfl rfl (hb hby d8_11) _ ?_
    show Steps p.tables e below (T2.setTop (mkF m 12 #[.val (.ref a1), .val (.long q1), .second, .val (.int (Int32.ofNat sl)), .unset] [(.long (T sl))])) _
    refine XS.lloadN X2.here hx rfl (hb hby d8_12) rfl ?_
    show Steps p.tables e below (T2.setTop (mkF m 13 #[.val (.ref a1), .val (.long q1), .second, .val (.int (Int32.ofNat sl)), .unset] [(.long q1), (.long (T sl))])) _
    refine XS.lcmp X2.here hx rfl (hb hby d8_13) rfl ?_
    show Steps p.tables e below (T2.setTop (mkF m 14 #[.val (.ref a1), .val (.long q1), .second, .val (.int (Int32.ofNat sl)), .unset] [(.int (lcmpW (T sl) q1))])) _
    refine XS.ifYes X2.here hx rfl (pc0 := 14) (pc' := 21) rfl (hb hby d8_14) rfl ((if0 _ _).trans (teq ((lw_eq _ _).mpr he)).1) (by decide) (by decide) ?_
    show Steps p.tables e below (T2.setTop (mkF m 21 #[.val (.ref a1), .val (.long q1), .second, .val (.int (Int32.ofNat sl)), .unset] [])) _
    refine XS.iconst X2.here hx rfl (hb hby d8_21) ?_
    show Steps p.tables e below (T2.setTop (mkF m 22 #[.val (.ref a1), .val (.long q1), .second, .val (.int (Int32.ofNat sl)), .unset] [(.int (0 : Int32))])) _
    refine XS.istore X2.here hx rfl (hb hby d8_22) rfl (l' := #[.val (.ref a1), .val (.long q1), .second, .val (.int (Int32.ofNat sl)), .val (.int (0 : Int32))]) rfl ?_
    show Steps p.tables e below (T2.setTop (mkF m 24 #[.val (.ref a1), .val (.long q1), .second, .val (.int (Int32.ofNat sl)), .val (.int (0 : Int32))] [])) _
    refine XS.iload X2.here hx rfl (hb hby d8_24) rfl ?_
    show Steps p.tables e below (T2.setTop (mkF m 26 #[.val (.ref a1), .val (.long q1), .second, .val (.int (Int32.ofNat sl)), .val (.int (0 : Int32))] [(.int (0 : Int32))])) _
    refine XS.ifYes X2.here hx rfl (pc0 := 26) (pc' := 73) rfl (hb hby d8_26) rfl ((if0 _ _).trans (teq (by decide +kernel)).1) (by decide) (by decide) ?_
    show Steps p.tables e below (T2.setTop (mkF m 73 #[.val (.ref a1), .val (.long q1), .second, .val (.int (Int32.ofNat sl)), .val (.int (0 : Int32))] [])) _
    refine XS.iload X2.here hx rfl (hb hby d8_73) rfl ?_
    show Steps p.tables e below (T2.setTop (mkF m 75 #[.val (.ref a1), .val (.long q1), .second, .val (.int (Int32.ofNat sl)), .val (.int (0 : Int32))] [(.int (0 : Int32))])) _
    exact retN X2 hx (t := .boolean) Bd.returns (by simp) (hb hby d8_75) hr
  · show Q8y Z a1 q1 b1 t1 k1 kb kk asc T n1 tc lg d h0 n0 _ T2.heap _
    rw [e2]
    exact ⟨rfl, N1, rfl⟩
def Q8n (Z : State) (a1 : Addr) (q1 : Int64) (b1 t1 k1 : Addr) (kb kk : ClassId) (asc : List Int64) (T : Nat → Int64) (n1 tc : Int32) (lg : Int64) (d : Nat) (h0 : Heap) (n0 : Nat) (v : Option Value) (h : Heap) (L : List Loc) : Prop := v = some (.int (1 : Int32)) ∧ Fr n0 L ∧ own_PS Z h n0 a1 b1 t1 k1 kb kk asc (own_upd T ((own_h q1 + d) % 1024) q1) n1 (tc + (1 : Int32)) lg
set_option maxRecDepth 65536 in
set_option maxHeartbeats 40000000 in
theorem rm8n (l : Launch) (Z : State) (a0 : Array Value) (hw : ∀ d ∈ tables_1, d.before a0 Z = true) (ws : List Jvm.Cond) (a1 : Addr) (q1 : Int64) (b1 t1 k1 : Addr) (kb kk : ClassId) (asc : List Int64) (T : Nat → Int64) (n1 tc : Int32) (lg : Int64) (d : Nat) (h0 : Heap) (n0 : Nat) (Z0 : n0 ≤ h0.size) (P : own_PS Z h0 n0 a1 b1 t1 k1 kb kk asc T n1 tc lg) (D : own_Sep n0 a1 b1 t1 k1) (hf : own_first T q1 (own_h q1) d) (he : ¬ T ((own_h q1 + d) % 1024) = q1) (htc0 : 0 ≤ tc.toInt) (htc1 : tc.toInt < 700) :
    MetFree l (⟨"com/example/dilate_query/dilatequery/collection/PostIds", "addToTable", "(J)Z"⟩ : MethodName) (head1 (Jvm.Cond.code (⟨"com/example/dilate_query/dilatequery/collection/PostIds", "addToTable", "(J)Z"⟩ : MethodName) prog_2_method_5_code 5 (some .boolean) :: ws) ({ frames := 1, cells := 0, slots := 0, locals := 16 } : Room)) (fun a U => a = #[(.ref a1), (.long q1)] ∧ Z.Warmed39 U.vm ∧ U.heap = h0) (fun _ _ _ _ _ => True) (fun _ U o U' => ∃ v L, o = .returned v ∧ Q8n Z a1 q1 b1 t1 k1 kb kk asc T n1 tc lg d h0 n0 v U'.heap L ∧ FrameEnd U o U' L ({ frames := 1, cells := 0, slots := 0, locals := 16 } : Room).cells ({ frames := 1, cells := 0, slots := 0, locals := 16 } : Room).slots) := by
  refine MetFree.of_bodySF (plainFor_of_name pn_PostIds) hisR ?_
  intro p e s m args below meth c s₁ Bd hml0 hP hK
  obtain ⟨rfl, hZ, hh⟩ := hP
  have hx := Bd.exec
  have hby := Bd.bytes
  have hml : c.maxLocals = 5 := hml0
  have hown : s.vm.findClass "com/example/dilate_query/dilatequery/collection/PostIds" = some m.cls := findClass_of_methodNamed Bd.named
  have hnm := (name_of_methodNamed Bd.named Bd.method).1
  have X0 : Stand p l e ({ frames := 1, cells := 0, slots := 0, locals := 16 } : Room) s m #[(.ref a1), (.long q1)] below meth c s₁ [] 0 0 := Stand.of_body Bd
  have e0 : s₁.heap = h0 := by rw [← hh, Bd.state]; rfl
  have N0 := Fr.nil n0
  have pre0 : ∀ t, Steps p.tables e below (s₁.setTop (mkF m 0 #[.val (.ref a1), .val (.long q1), .second, .unset, .unset] [])) t → Steps p.tables e below (s₁.setTop (entryFrame m #[(.ref a1), (.long q1)] 5)) t := fun t k => castTop (ef_8 m a1 q1) k
  have P' := P
  have D' := D
  obtain ⟨E_a, F_bl, F_tb, F_bits, F_lg, F_n, F_tc, G_t, V_b, G_k, Zp⟩ := P
  obtain ⟨g_a, g_b, g_t, g_k, n_ab, n_at, n_ak, n_bt, n_bk, n_tk⟩ := D
  obtain ⟨sl, hsle⟩ : ∃ sl, (own_h q1 + d) % 1024 = sl := ⟨_, rfl⟩
  have hsl : sl < 1024 := by rw [← hsle]; exact Nat.mod_lt _ (by decide)
  have hsc : (Int32.ofNat sl).toNatClampNeg = sl := own_clamp (by omega)
  have hs0 : ¬ (Int32.ofNat sl) < 0 := own_nnat (by omega)
  have hs1 : (Int32.ofNat sl) < (1024 : Int32) := by rw [Int32.lt_iff_toInt_lt, own_nat (by omega)]; show (sl : Int) < 1024; omega
  rw [hsle] at he
  obtain ⟨cq1, qc1, qc1'⟩ := E_a.cell
  obtain ⟨_, _, ⟨T1, L1, k1, n1⟩, -, X1, ⟨Lc1, hQ1, l1, y1, z1⟩, st1⟩ := X0.privateBack hx (y := (⟨"com/example/dilate_query/dilatequery/collection/PostIds", "slotFor", "(J)I"⟩ : MethodName)) hown (mvT hZ (hw _ (List.mem_of_getElem? (i := 49) rfl))) (mvT hZ (hw _ (List.mem_of_getElem? (i := 50) rfl))) (own_sel (z := (⟨"com/example/dilate_query/dilatequery/collection/PostIds", "add", "(J)Z"⟩ : MethodName)) (y := (⟨"com/example/dilate_query/dilatequery/collection/PostIds", "slotFor", "(J)I"⟩ : MethodName)) (mvT hZ (hw _ (List.mem_of_getElem? (i := 30) rfl))) rfl (mvT hZ (hw _ (List.mem_of_getElem? (i := 50) rfl))) (mvP hZ (hw _ (List.mem_of_getElem? (i := 51) rfl))) (by decide)) (Cond.privateMethod_at (mvP hZ (hw _ (List.mem_of_getElem? (i := 51) rfl)) (args := #[]))) (mvT hZ (hw _ (List.mem_of_getElem? (i := 52) rfl))) (by decide) (backOf (W := 0) (rm9 l Z a0 hw [] a1 q1 b1 t1 k1 kb kk asc T n1 tc lg d h0 n0 Z0 P' D' hf) hZ (hw _ (List.mem_of_getElem? (i := 52) rfl)) (hw _ (List.mem_of_getElem? (i := 11) rfl)) (by decide) (by decide)) (g := (mkF m 2 #[.val (.ref a1), .val (.long q1), .second, .unset, .unset] [(.long q1), (.ref a1)])) rfl (by rw [hml]; rfl) (Steps.refl _) (a := a1) (by rw [e0]; exact qc1) qc1' (argsL := [(.long q1)]) (rest := []) (lenOf pd_0 rfl) rfl (by show 2 * 0 + _ ≤ _; exact Nat.le_of_eq rfl) (hb hby d8_2) (fun _ _ => ⟨rfl, e0, (by decide : 0 + 0 ≤ _), (by decide : 0 + 0 ≤ _)⟩)
  dsimp only [Pt.U, Pt.locs, Pt.cells, Pt.slots] at X1 l1 y1 z1 st1 hQ1
  subst l1 y1 z1
  obtain ⟨rfl, N1q, eq1⟩ := hQ1
  rw [hsle] at st1
  have N1 := Fr.app N0 N1q
  obtain ⟨T2, X2, e2, st2⟩ := getF X1 hx hZ hown (host := "") (Or.inl (hw _ (List.mem_of_getElem? (i := 23) rfl))) Via.refl eq1 F_tb (g := (mkF m 7 #[.val (.ref a1), .val (.long q1), .second, .val (.int (Int32.ofNat sl)), .unset] [(.ref a1)])) rfl rfl (hb hby d8_7)
  obtain ⟨ct, Art, St, Ht⟩ := id G_t
  have hin := inb_of St ⟨hs0, hs1⟩
  have hat : ct.slots[(Int32.ofNat sl).toNatClampNeg]? = some (.long (T sl)) := by rw [hsc]; exact Ht sl hsl
  obtain ⟨T3, X3, e3, st3⟩ := getF X2 hx hZ hown (host := "") (Or.inl (hw _ (List.mem_of_getElem? (i := 23) rfl))) Via.refl e2 F_tb (g := (mkF m 30 #[.val (.ref a1), .val (.long q1), .second, .val (.int (Int32.ofNat sl)), .val (.int (1 : Int32))] [(.ref a1)])) rfl rfl (hb hby d8_30)
  obtain ⟨T4, h4, X4, e4, W4, st4⟩ := stJ X3 hx hZ e3 Art (j := (Int32.ofNat sl)) hin (g := (mkF m 35 #[.val (.ref a1), .val (.long q1), .second, .val (.int (Int32.ofNat sl)), .val (.int (1 : Int32))] [(.long q1), (.int (Int32.ofNat sl)), (.ref t1)])) rfl rfl (hb hby d8_35)
  rw [hsc] at W4
  have f4_14 : Exa Z h4 a1 "com/example/dilate_query/dilatequery/collection/PostIds" := E_a.wr W4
  have f4_15 : Fld Z h4 a1 "com/example/dilate_query/dilatequery/collection/PostIds" "blocks" "[[J" (.ref b1) := Fld.other W4 F_bl (Or.inl n_at)
  have f4_16 : Fld Z h4 a1 "com/example/dilate_query/dilatequery/collection/PostIds" "table" "[J" (.ref t1) := Fld.other W4 F_tb (Or.inl n_at)
  have f4_17 : Fld Z h4 a1 "com/example/dilate_query/dilatequery/collection/PostIds" "tableBits" "I" (.int (10 : Int32)) := Fld.other W4 F_bits (Or.inl n_at)
  have f4_18 : Fld Z h4 a1 "com/example/dilate_query/dilatequery/collection/PostIds" "largest" "J" (.long lg) := Fld.other W4 F_lg (Or.inl n_at)
  have f4_19 : Fld Z h4 a1 "com/example/dilate_query/dilatequery/collection/PostIds" "ascendingCount" "I" (.int n1) := Fld.other W4 F_n (Or.inl n_at)
  have f4_20 : Fld Z h4 a1 "com/example/dilate_query/dilatequery/collection/PostIds" "tableCount" "I" (.int tc) := Fld.other W4 F_tc (Or.inl n_at)
  have f4_21 : Arv Z h4 b1 kb (.array .long) (1 : Int32) [(.ref k1)] .null := V_b.other W4 n_bt
  have f4_22 : Arv Z h4 k1 kk .long (16384 : Int32) (asc.map Value.long) (.long (0 : Int64)) := G_k.other W4 (Ne.symm n_tk)
  have Z4 : n0 ≤ h4.size := by rw [W4.size]; exact Z0
  have f4_24 : own_Tb Z h4 t1 (own_upd T sl q1) := own_Tb.set Art St Ht hsl W4
  have N4 := Fr.snoc X4 N1 g_t
  obtain ⟨T5, X5, e5, st5⟩ := getF X4 hx hZ hown (host := "") (Or.inl (hw _ (List.mem_of_getElem? (i := 54) rfl))) Via.refl e4 f4_20 (g := (mkF m 38 #[.val (.ref a1), .val (.long q1), .second, .val (.int (Int32.ofNat sl)), .val (.int (1 : Int32))] [(.ref a1), (.ref a1)])) rfl rfl (hb hby d8_38)
  obtain ⟨T6, h6, X6, e6, W6, st6⟩ := putF X5 hx hZ hown (host := "") (Or.inl (hw _ (List.mem_of_getElem? (i := 54) rfl))) Via.refl e5 f4_20 f4_14 (Or.inl (hw _ (List.mem_of_getElem? (i := 55) rfl))) (hw _ (List.mem_of_getElem? (i := 10) rfl)) (ty := .int) (by decide) rfl rfl (g := (mkF m 43 #[.val (.ref a1), .val (.long q1), .second, .val (.int (Int32.ofNat sl)), .val (.int (1 : Int32))] [(.int (tc + (1 : Int32))), (.ref a1)])) rfl rfl (hb hby d8_43)
  have f6_28 : Exa Z h6 a1 "com/example/dilate_query/dilatequery/collection/PostIds" := f4_14.wr W6
  have f6_29 : Fld Z h6 a1 "com/example/dilate_query/dilatequery/collection/PostIds" "blocks" "[[J" (.ref b1) := Fld.other W6 f4_15 (Or.inr (slot_ne (Or.inl (hw _ (List.mem_of_getElem? (i := 21) rfl))) (Or.inl (hw _ (List.mem_of_getElem? (i := 55) rfl))) (by decide) (t := (.array (.array .long))) (t' := .int) (by decide) (by decide)))
  have f6_30 : Fld Z h6 a1 "com/example/dilate_query/dilatequery/collection/PostIds" "table" "[J" (.ref t1) := Fld.other W6 f4_16 (Or.inr (slot_ne (Or.inl (hw _ (List.mem_of_getElem? (i := 24) rfl))) (Or.inl (hw _ (List.mem_of_getElem? (i := 55) rfl))) (by decide) (t := (.array .long)) (t' := .int) (by decide) (by decide)))
  have f6_31 : Fld Z h6 a1 "com/example/dilate_query/dilatequery/collection/PostIds" "tableBits" "I" (.int (10 : Int32)) := Fld.other W6 f4_17 (Or.inr (slot_ne (Or.inl (hw _ (List.mem_of_getElem? (i := 26) rfl))) (Or.inl (hw _ (List.mem_of_getElem? (i := 55) rfl))) (by decide) (t := .int) (t' := .int) (by decide) (by decide)))
  have f6_32 : Fld Z h6 a1 "com/example/dilate_query/dilatequery/collection/PostIds" "largest" "J" (.long lg) := Fld.other W6 f4_18 (Or.inr (slot_ne (Or.inl (hw _ (List.mem_of_getElem? (i := 33) rfl))) (Or.inl (hw _ (List.mem_of_getElem? (i := 55) rfl))) (by decide) (t := .long) (t' := .int) (by decide) (by decide)))
  have f6_33 : Fld Z h6 a1 "com/example/dilate_query/dilatequery/collection/PostIds" "ascendingCount" "I" (.int n1) := Fld.other W6 f4_19 (Or.inr (slot_ne (Or.inl (hw _ (List.mem_of_getElem? (i := 39) rfl))) (Or.inl (hw _ (List.mem_of_getElem? (i := 55) rfl))) (by decide) (t := .int) (t' := .int) (by decide) (by decide)))
  have f6_34 : own_Tb Z h6 t1 (own_upd T sl q1) := f4_24.other W6 (Ne.symm n_at)
  have f6_35 : Arv Z h6 b1 kb (.array .long) (1 : Int32) [(.ref k1)] .null := f4_21.other W6 (Ne.symm n_ab)
  have f6_36 : Arv Z h6 k1 kk .long (16384 : Int32) (asc.map Value.long) (.long (0 : Int64)) := f4_22.other W6 (Ne.symm n_ak)
  have Z6 : n0 ≤ h6.size := by rw [W6.size]; exact Z4
  have f6_38 : Fld Z h6 a1 "com/example/dilate_query/dilatequery/collection/PostIds" "tableCount" "I" (.int (tc + (1 : Int32))) := Fld.same W6 f4_20
  have N6 := Fr.snoc X6 N4 g_a
  obtain ⟨T7, X7, e7, st7⟩ := getF X6 hx hZ hown (host := "") (Or.inl (hw _ (List.mem_of_getElem? (i := 54) rfl))) Via.refl e6 f6_38 (g := (mkF m 47 #[.val (.ref a1), .val (.long q1), .second, .val (.int (Int32.ofNat sl)), .val (.int (1 : Int32))] [(.ref a1)])) rfl rfl (hb hby d8_47)
  obtain ⟨T8, X8, e8, st8⟩ := getF X7 hx hZ hown (host := "") (Or.inl (hw _ (List.mem_of_getElem? (i := 23) rfl))) Via.refl e7 f6_30 (g := (mkF m 56 #[.val (.ref a1), .val (.long q1), .second, .val (.int (Int32.ofNat sl)), .val (.int (1 : Int32))] [(.ref a1), (.long (((tc + (1 : Int32)).toInt64) * (4 : Int64)))])) rfl rfl (hb hby d8_56)
  obtain ⟨ct2, Art2, St2, -⟩ := id f6_34
  obtain ⟨fs, hr, hrun, hended, hW, hsame⟩ := X8.leave (v := some (.int (1 : Int32))) (fun h => by rw [Bd.returns] at h; cases h)
  refine ⟨_, _, pre0 _ ?_, hrun, hended, _, _, rfl, ?_, ⟨_, rfl⟩, hW, hsame.mono (by decide) (by decide)⟩
  · show Steps p.tables e below (s₁.setTop (mkF m 0 #[.val (.ref a1), .val (.long q1), .second, .unset, .unset] [])) _
    refine XS.aloadN X0.here hx rfl (hb hby d8_0) rfl rfl ?_
    show Steps p.tables e below (s₁.setTop (mkF m 1 #[.val (.ref a1), .val (.long q1), .second, .unset, .unset] [(.ref a1)])) _
    refine XS.lloadN X0.here hx rfl (hb hby d8_1) rfl ?_
    show Steps p.tables e below (s₁.setTop (mkF m 2 #[.val (.ref a1), .val (.long q1), .second, .unset, .unset] [(.long q1), (.ref a1)])) _
    refine st1.trans ?_
    show Steps p.tables e below (T1.setTop (mkF m 5 #[.val (.ref a1), .val (.long q1), .second, .unset, .unset] [(.int (Int32.ofNat sl))])) _
    refine XS.istoreN X1.here hx rfl (hb hby d8_5) rfl (l' := #[.val (.ref a1), .val (.long q1), .second, .val (.int (Int32.ofNat sl)), .unset]) rfl ?_
    show Steps p.tables e below (T1.setTop (mkF m 6 #[.val (.ref a1), .val (.long q1), .second, .val (.int (Int32.ofNat sl)), .unset] [])) _
    refine XS.aloadN X1.here hx rfl (hb hby d8_6) rfl rfl ?_
    show Steps p.tables e below (T1.setTop (mkF m 7 #[.val (.ref a1), .val (.long q1), .second, .val (.int (Int32.ofNat sl)), .unset] [(.ref a1)])) _
    refine st2 _ ?_
    show Steps p.tables e below (T2.setTop (mkF m 10 #[.val (.ref a1), .val (.long q1), .second, .val (.int (Int32.ofNat sl)), .unset] [(.ref t1)])) _
    refine XS.iloadN X2.here hx rfl (hb hby d8_10) rfl ?_
    show Steps p.tables e below (T2.setTop (mkF m 11 #[.val (.ref a1), .val (.long q1), .second, .val (.int (Int32.ofNat sl)), .unset] [(.int (Int32.ofNat sl)), (.ref t1)])) _
    refine X2.laload hx (j := (Int32.ofNat sl)) (v := (.long (T sl))) (by rw [e2]; exact Art.1) (State.isArrayOf_alike hZ.alike Art.2.1) Art.2.2 hin hat (g := (mkF m 11 #[.val (.ref a1), .val (.long q1), .second, .val (.int (Int32.ofNat sl)), .unset] [(.int (Int32.ofNat sl)), (.ref t1)])) rfl rfl (hb hby d8_11) _ ?_
    show Steps p.tables e below (T2.setTop (mkF m 12 #[.val (.ref a1), .val (.long q1), .second, .val (.int (Int32.ofNat sl)), .unset] [(.long (T sl))])) _
    refine XS.lloadN X2.here hx rfl (hb hby d8_12) rfl ?_
    show Steps p.tables e below (T2.setTop (mkF m 13 #[.val (.ref a1), .val (.long q1), .second, .val (.int (Int32.ofNat sl)), .unset] [(.long q1), (.long (T sl))])) _
    refine XS.lcmp X2.here hx rfl (hb hby d8_13) rfl ?_
    show Steps p.tables e below (T2.setTop (mkF m 14 #[.val (.ref a1), .val (.long q1), .second, .val (.int (Int32.ofNat sl)), .unset] [(.int (lcmpW (T sl) q1))])) _
    refine XS.ifNo X2.here hx rfl (hb hby d8_14) rfl ((if0 _ _).trans (feq (fun z => he ((lw_eq _ _).mp z))).1) ?_
    show Steps p.tables e below (T2.setTop (mkF m 17 #[.val (.ref a1), .val (.long q1), .second, .val (.int (Int32.ofNat sl)), .unset] [])) _
    refine XS.iconst X2.here hx rfl (hb hby d8_17) ?_
    show Steps p.tables e below (T2.setTop (mkF m 18 #[.val (.ref a1), .val (.long q1), .second, .val (.int (Int32.ofNat sl)), .unset] [(.int (1 : Int32))])) _
    refine XS.goto X2.here hx rfl (pc0 := 18) (pc' := 22) rfl (hb hby d8_18) (by decide) (by decide) ?_
    show Steps p.tables e below (T2.setTop (mkF m 22 #[.val (.ref a1), .val (.long q1), .second, .val (.int (Int32.ofNat sl)), .unset] [(.int (1 : Int32))])) _
    refine XS.istore X2.here hx rfl (hb hby d8_22) rfl (l' := #[.val (.ref a1), .val (.long q1), .second, .val (.int (Int32.ofNat sl)), .val (.int (1 : Int32))]) rfl ?_
    show Steps p.tables e below (T2.setTop (mkF m 24 #[.val (.ref a1), .val (.long q1), .second, .val (.int (Int32.ofNat sl)), .val (.int (1 : Int32))] [])) _
    refine XS.iload X2.here hx rfl (hb hby d8_24) rfl ?_
    show Steps p.tables e below (T2.setTop (mkF m 26 #[.val (.ref a1), .val (.long q1), .second, .val (.int (Int32.ofNat sl)), .val (.int (1 : Int32))] [(.int (1 : Int32))])) _
    refine XS.ifNo X2.here hx rfl (hb hby d8_26) rfl ((if0 _ _).trans (feq (by decide +kernel)).1) ?_
    show Steps p.tables e below (T2.setTop (mkF m 29 #[.val (.ref a1), .val (.long q1), .second, .val (.int (Int32.ofNat sl)), .val (.int (1 : Int32))] [])) _
    refine XS.aloadN X2.here hx rfl (hb hby d8_29) rfl rfl ?_
    show Steps p.tables e below (T2.setTop (mkF m 30 #[.val (.ref a1), .val (.long q1), .second, .val (.int (Int32.ofNat sl)), .val (.int (1 : Int32))] [(.ref a1)])) _
    refine st3 _ ?_
    show Steps p.tables e below (T3.setTop (mkF m 33 #[.val (.ref a1), .val (.long q1), .second, .val (.int (Int32.ofNat sl)), .val (.int (1 : Int32))] [(.ref t1)])) _
    refine XS.iloadN X3.here hx rfl (hb hby d8_33) rfl ?_
    show Steps p.tables e below (T3.setTop (mkF m 34 #[.val (.ref a1), .val (.long q1), .second, .val (.int (Int32.ofNat sl)), .val (.int (1 : Int32))] [(.int (Int32.ofNat sl)), (.ref t1)])) _
    refine XS.lloadN X3.here hx rfl (hb hby d8_34) rfl ?_
    show Steps p.tables e below (T3.setTop (mkF m 35 #[.val (.ref a1), .val (.long q1), .second, .val (.int (Int32.ofNat sl)), .val (.int (1 : Int32))] [(.long q1), (.int (Int32.ofNat sl)), (.ref t1)])) _
    refine st4 _ ?_
    show Steps p.tables e below (T4.setTop (mkF m 36 #[.val (.ref a1), .val (.long q1), .second, .val (.int (Int32.ofNat sl)), .val (.int (1 : Int32))] [])) _
    refine XS.aloadN X4.here hx rfl (hb hby d8_36) rfl rfl ?_
    show Steps p.tables e below (T4.setTop (mkF m 37 #[.val (.ref a1), .val (.long q1), .second, .val (.int (Int32.ofNat sl)), .val (.int (1 : Int32))] [(.ref a1)])) _
    refine XS.dup X4.here hx rfl (hb hby d8_37) rfl rfl ?_
    show Steps p.tables e below (T4.setTop (mkF m 38 #[.val (.ref a1), .val (.long q1), .second, .val (.int (Int32.ofNat sl)), .val (.int (1 : Int32))] [(.ref a1), (.ref a1)])) _
    refine st5 _ ?_
    show Steps p.tables e below (T5.setTop (mkF m 41 #[.val (.ref a1), .val (.long q1), .second, .val (.int (Int32.ofNat sl)), .val (.int (1 : Int32))] [(.int tc), (.ref a1)])) _
    refine XS.iconst X5.here hx rfl (hb hby d8_41) ?_
    show Steps p.tables e below (T5.setTop (mkF m 42 #[.val (.ref a1), .val (.long q1), .second, .val (.int (Int32.ofNat sl)), .val (.int (1 : Int32))] [(.int (1 : Int32)), (.int tc), (.ref a1)])) _
    refine XS.iadd X5.here hx rfl (hb hby d8_42) rfl ?_
    show Steps p.tables e below (T5.setTop (mkF m 43 #[.val (.ref a1), .val (.long q1), .second, .val (.int (Int32.ofNat sl)), .val (.int (1 : Int32))] [(.int (tc + (1 : Int32))), (.ref a1)])) _
    refine st6 _ ?_
    show Steps p.tables e below (T6.setTop (mkF m 46 #[.val (.ref a1), .val (.long q1), .second, .val (.int (Int32.ofNat sl)), .val (.int (1 : Int32))] [])) _
    refine XS.aloadN X6.here hx rfl (hb hby d8_46) rfl rfl ?_
    show Steps p.tables e below (T6.setTop (mkF m 47 #[.val (.ref a1), .val (.long q1), .second, .val (.int (Int32.ofNat sl)), .val (.int (1 : Int32))] [(.ref a1)])) _
    refine st7 _ ?_
    show Steps p.tables e below (T7.setTop (mkF m 50 #[.val (.ref a1), .val (.long q1), .second, .val (.int (Int32.ofNat sl)), .val (.int (1 : Int32))] [(.int (tc + (1 : Int32)))])) _
    refine XS.i2l X7.here hx rfl (hb hby d8_50) rfl ?_
    show Steps p.tables e below (T7.setTop (mkF m 51 #[.val (.ref a1), .val (.long q1), .second, .val (.int (Int32.ofNat sl)), .val (.int (1 : Int32))] [(.long ((tc + (1 : Int32)).toInt64))])) _
    refine X7.ldc2Long hx hown (mvT hZ (hw _ (List.mem_of_getElem? (i := 56) rfl))) (g := (mkF m 51 #[.val (.ref a1), .val (.long q1), .second, .val (.int (Int32.ofNat sl)), .val (.int (1 : Int32))] [(.long ((tc + (1 : Int32)).toInt64))])) rfl (hb hby d8_51) _ ?_
    show Steps p.tables e below (T7.setTop (mkF m 54 #[.val (.ref a1), .val (.long q1), .second, .val (.int (Int32.ofNat sl)), .val (.int (1 : Int32))] [(.long (4 : Int64)), (.long ((tc + (1 : Int32)).toInt64))])) _
    refine XS.lmul X7.here hx rfl (hb hby d8_54) rfl ?_
    show Steps p.tables e below (T7.setTop (mkF m 55 #[.val (.ref a1), .val (.long q1), .second, .val (.int (Int32.ofNat sl)), .val (.int (1 : Int32))] [(.long (((tc + (1 : Int32)).toInt64) * (4 : Int64)))])) _
    refine XS.aloadN X7.here hx rfl (hb hby d8_55) rfl rfl ?_
    show Steps p.tables e below (T7.setTop (mkF m 56 #[.val (.ref a1), .val (.long q1), .second, .val (.int (Int32.ofNat sl)), .val (.int (1 : Int32))] [(.ref a1), (.long (((tc + (1 : Int32)).toInt64) * (4 : Int64)))])) _
    refine st8 _ ?_
    show Steps p.tables e below (T8.setTop (mkF m 59 #[.val (.ref a1), .val (.long q1), .second, .val (.int (Int32.ofNat sl)), .val (.int (1 : Int32))] [(.ref t1), (.long (((tc + (1 : Int32)).toInt64) * (4 : Int64)))])) _
    refine X8.arraylength hx (by rw [e8]; exact Art2.1) (State.isArrayOf_alike hZ.alike Art2.2.1) (g := (mkF m 59 #[.val (.ref a1), .val (.long q1), .second, .val (.int (Int32.ofNat sl)), .val (.int (1 : Int32))] [(.ref t1), (.long (((tc + (1 : Int32)).toInt64) * (4 : Int64)))])) rfl rfl (hb hby d8_59) _ ?_
    rw [len_of St2 (by decide)]
    show Steps p.tables e below (T8.setTop (mkF m 60 #[.val (.ref a1), .val (.long q1), .second, .val (.int (Int32.ofNat sl)), .val (.int (1 : Int32))] [(.int (1024 : Int32)), (.long (((tc + (1 : Int32)).toInt64) * (4 : Int64)))])) _
    refine XS.i2l X8.here hx rfl (hb hby d8_60) rfl ?_
    show Steps p.tables e below (T8.setTop (mkF m 61 #[.val (.ref a1), .val (.long q1), .second, .val (.int (Int32.ofNat sl)), .val (.int (1 : Int32))] [(.long ((1024 : Int32).toInt64)), (.long (((tc + (1 : Int32)).toInt64) * (4 : Int64)))])) _
    refine X8.ldc2Long hx hown (mvT hZ (hw _ (List.mem_of_getElem? (i := 57) rfl))) (g := (mkF m 61 #[.val (.ref a1), .val (.long q1), .second, .val (.int (Int32.ofNat sl)), .val (.int (1 : Int32))] [(.long ((1024 : Int32).toInt64)), (.long (((tc + (1 : Int32)).toInt64) * (4 : Int64)))])) rfl (hb hby d8_61) _ ?_
    show Steps p.tables e below (T8.setTop (mkF m 64 #[.val (.ref a1), .val (.long q1), .second, .val (.int (Int32.ofNat sl)), .val (.int (1 : Int32))] [(.long (3 : Int64)), (.long ((1024 : Int32).toInt64)), (.long (((tc + (1 : Int32)).toInt64) * (4 : Int64)))])) _
    refine XS.lmul X8.here hx rfl (hb hby d8_64) rfl ?_
    show Steps p.tables e below (T8.setTop (mkF m 65 #[.val (.ref a1), .val (.long q1), .second, .val (.int (Int32.ofNat sl)), .val (.int (1 : Int32))] [(.long (((1024 : Int32).toInt64) * (3 : Int64))), (.long (((tc + (1 : Int32)).toInt64) * (4 : Int64)))])) _
    refine XS.lcmp X8.here hx rfl (hb hby d8_65) rfl ?_
    show Steps p.tables e below (T8.setTop (mkF m 66 #[.val (.ref a1), .val (.long q1), .second, .val (.int (Int32.ofNat sl)), .val (.int (1 : Int32))] [(.int (lcmpW (((tc + (1 : Int32)).toInt64) * (4 : Int64)) (((1024 : Int32).toInt64) * (3 : Int64))))])) _
    refine XS.ifYes X8.here hx rfl (pc0 := 66) (pc' := 73) rfl (hb hby d8_66) rfl ((if0 _ _).trans (flt (own_few htc0 htc1)).2.2.2) (by decide) (by decide) ?_
    show Steps p.tables e below (T8.setTop (mkF m 73 #[.val (.ref a1), .val (.long q1), .second, .val (.int (Int32.ofNat sl)), .val (.int (1 : Int32))] [])) _
    refine XS.iload X8.here hx rfl (hb hby d8_73) rfl ?_
    show Steps p.tables e below (T8.setTop (mkF m 75 #[.val (.ref a1), .val (.long q1), .second, .val (.int (Int32.ofNat sl)), .val (.int (1 : Int32))] [(.int (1 : Int32))])) _
    exact retN X8 hx (t := .boolean) Bd.returns (by simp) (hb hby d8_75) hr
  · show Q8n Z a1 q1 b1 t1 k1 kb kk asc T n1 tc lg d h0 n0 _ T8.heap _
    rw [e8]
    exact ⟨rfl, N6, hsle.symm ▸ (⟨f6_28, f6_29, f6_30, f6_31, f6_32, f6_33, f6_38, f6_34, f6_35, f6_36, Z6⟩ : own_PS Z _ n0 a1 b1 t1 k1 kb kk asc (own_upd T sl q1) n1 (tc + (1 : Int32)) lg)⟩
theorem pd_1 : parseMethodDescriptor "(J)V" = some ⟨[.long], none⟩ := by decide +kernel
theorem d5_0 : decode prog_2_method_2_code 0 = .ok (.lload_n 1, 1) := by decide +kernel
theorem d5_1 : decode prog_2_method_2_code 1 = .ok (.aload_n 0, 1) := by decide +kernel
theorem d5_2 : decode prog_2_method_2_code 2 = .ok (.getfield 22, 3) := by decide +kernel
theorem d5_5 : decode prog_2_method_2_code 5 = .ok (.lcmp, 1) := by decide +kernel
theorem d5_6 : decode prog_2_method_2_code 6 = .ok (.ifCond .le 13, 3) := by decide +kernel
theorem d5_9 : decode prog_2_method_2_code 9 = .ok (.aload_n 0, 1) := by decide +kernel
theorem d5_10 : decode prog_2_method_2_code 10 = .ok (.lload_n 1, 1) := by decide +kernel
theorem d5_11 : decode prog_2_method_2_code 11 = .ok (.invokevirtual 26, 3) := by decide +kernel
theorem d5_14 : decode prog_2_method_2_code 14 = .ok (.iconst 1, 1) := by decide +kernel
theorem d5_15 : decode prog_2_method_2_code 15 = .ok (.istore_n 3, 1) := by decide +kernel
theorem d5_16 : decode prog_2_method_2_code 16 = .ok (.goto 22, 3) := by decide +kernel
theorem d5_19 : decode prog_2_method_2_code 19 = .ok (.aload_n 0, 1) := by decide +kernel
theorem d5_20 : decode prog_2_method_2_code 20 = .ok (.lload_n 1, 1) := by decide +kernel
theorem d5_21 : decode prog_2_method_2_code 21 = .ok (.invokevirtual 30, 3) := by decide +kernel
theorem d5_24 : decode prog_2_method_2_code 24 = .ok (.ifCond .eq 8, 3) := by decide +kernel
theorem d5_27 : decode prog_2_method_2_code 27 = .ok (.iconst 0, 1) := by decide +kernel
theorem d5_28 : decode prog_2_method_2_code 28 = .ok (.istore_n 3, 1) := by decide +kernel
theorem d5_29 : decode prog_2_method_2_code 29 = .ok (.goto 9, 3) := by decide +kernel
theorem d5_32 : decode prog_2_method_2_code 32 = .ok (.aload_n 0, 1) := by decide +kernel
theorem d5_33 : decode prog_2_method_2_code 33 = .ok (.lload_n 1, 1) := by decide +kernel
theorem d5_34 : decode prog_2_method_2_code 34 = .ok (.invokevirtual 34, 3) := by decide +kernel
theorem d5_37 : decode prog_2_method_2_code 37 = .ok (.istore_n 3, 1) := by decide +kernel
theorem d5_38 : decode prog_2_method_2_code 38 = .ok (.iload_n 3, 1) := by decide +kernel
theorem d5_39 : decode prog_2_method_2_code 39 = .ok (.ireturn, 1) := by decide +kernel
theorem ef_5 (m : MethodId) (x0 : Addr) (x1 : Int64) : entryFrame m #[(.ref x0), (.long x1)] 4 = mkF m 0 #[.val (.ref x0), .val (.long x1), .second, .unset] [] := by first | (simp [entryFrame, mkF, argsToLocals, Value.category]; done) | rfl
def Q5_0 (Z : State) (a1 : Addr) (q1 : Int64) (b1 t1 : Addr) (kb : ClassId) (h0 : Heap) (n0 : Nat) (v : Option Value) (h : Heap) (L : List Loc) : Prop := v = some (.int (1 : Int32)) ∧ Fr n0 L ∧ ∃ (k1 : Addr) (kk : ClassId), own_PS Z h n0 a1 b1 t1 k1 kb kk [q1] (fun _ => 0) (1 : Int32) (0 : Int32) q1 ∧ own_Sep n0 a1 b1 t1 k1
set_option maxRecDepth 65536 in
set_option maxHeartbeats 40000000 in
theorem rm5_0 (l : Launch) (Z : State) (a0 : Array Value) (hw : ∀ d ∈ tables_1, d.before a0 Z = true) (ws : List Jvm.Cond) (a1 : Addr) (q1 : Int64) (b1 t1 : Addr) (kb : ClassId) (h0 : Heap) (n0 : Nat) (Z0 : n0 ≤ h0.size) (I0 : Exa Z h0 a1 "com/example/dilate_query/dilatequery/collection/PostIds" ∧ Fld Z h0 a1 "com/example/dilate_query/dilatequery/collection/PostIds" "blocks" "[[J" (.ref b1) ∧ Fld Z h0 a1 "com/example/dilate_query/dilatequery/collection/PostIds" "table" "[J" (.ref t1) ∧ Fld Z h0 a1 "com/example/dilate_query/dilatequery/collection/PostIds" "tableBits" "I" (.int (10 : Int32)) ∧ Fld Z h0 a1 "com/example/dilate_query/dilatequery/collection/PostIds" "largest" "J" (.long (0 : Int64)) ∧ Fld Z h0 a1 "com/example/dilate_query/dilatequery/collection/PostIds" "ascendingCount" "I" (.int (0 : Int32)) ∧ Fld Z h0 a1 "com/example/dilate_query/dilatequery/collection/PostIds" "tableCount" "I" (.int (0 : Int32)) ∧ own_Tb Z h0 t1 (fun _ => 0) ∧ Arv Z h0 b1 kb (.array .long) (1 : Int32) [] .null) (O_b : OvrA Z kb .long "[J") (g_a : n0 ≤ a1) (g_b : n0 ≤ b1) (g_t : n0 ≤ t1) (n_ab : a1 ≠ b1) (n_at : a1 ≠ t1) (n_bt : b1 ≠ t1) (hg : (0 : Int64) < q1) :
    MetFree l (⟨"com/example/dilate_query/dilatequery/collection/PostIds", "add", "(J)Z"⟩ : MethodName) (head1 (Jvm.Cond.code (⟨"com/example/dilate_query/dilatequery/collection/PostIds", "add", "(J)Z"⟩ : MethodName) prog_2_method_2_code 4 (some .boolean) :: ws) ({ frames := 1, cells := 1, slots := 16384, locals := 15 } : Room)) (fun a U => a = #[(.ref a1), (.long q1)] ∧ Z.Warmed39 U.vm ∧ U.heap = h0) (fun _ _ _ _ _ => True) (fun _ U o U' => ∃ v L, o = .returned v ∧ Q5_0 Z a1 q1 b1 t1 kb h0 n0 v U'.heap L ∧ FrameEnd U o U' L ({ frames := 1, cells := 1, slots := 16384, locals := 15 } : Room).cells ({ frames := 1, cells := 1, slots := 16384, locals := 15 } : Room).slots) := by
  refine MetFree.of_bodySF (plainFor_of_name pn_PostIds) hisR ?_
  intro p e s m args below meth c s₁ Bd hml0 hP hK
  obtain ⟨rfl, hZ, hh⟩ := hP
  have hx := Bd.exec
  have hby := Bd.bytes
  have hml : c.maxLocals = 4 := hml0
  have hown : s.vm.findClass "com/example/dilate_query/dilatequery/collection/PostIds" = some m.cls := findClass_of_methodNamed Bd.named
  have hnm := (name_of_methodNamed Bd.named Bd.method).1
  have X0 : Stand p l e ({ frames := 1, cells := 1, slots := 16384, locals := 15 } : Room) s m #[(.ref a1), (.long q1)] below meth c s₁ [] 0 0 := Stand.of_body Bd
  have e0 : s₁.heap = h0 := by rw [← hh, Bd.state]; rfl
  have N0 := Fr.nil n0
  have pre0 : ∀ t, Steps p.tables e below (s₁.setTop (mkF m 0 #[.val (.ref a1), .val (.long q1), .second, .unset] [])) t → Steps p.tables e below (s₁.setTop (entryFrame m #[(.ref a1), (.long q1)] 4)) t := fun t k => castTop (ef_5 m a1 q1) k
  have I0' := I0
  obtain ⟨E_a, F_bl, F_tb, F_bits, F_lg, F_n, F_tc, G_t, V_b⟩ := I0
  obtain ⟨T1, X1, e1, st1⟩ := getF X0 hx hZ hown (host := "") (Or.inl (hw _ (List.mem_of_getElem? (i := 32) rfl))) Via.refl e0 F_lg (g := (mkF m 2 #[.val (.ref a1), .val (.long q1), .second, .unset] [(.ref a1), (.long q1)])) rfl rfl (hb hby d5_2)
  obtain ⟨cq2, qc2, qc2'⟩ := E_a.cell
  obtain ⟨_, _, ⟨T2, L2, k2, n2⟩, -, X2, ⟨Lc2, hQ2, l2, y2, z2⟩, st2⟩ := X1.privateBack hx (y := (⟨"com/example/dilate_query/dilatequery/collection/PostIds", "append", "(J)V"⟩ : MethodName)) hown (mvT hZ (hw _ (List.mem_of_getElem? (i := 34) rfl))) (mvT hZ (hw _ (List.mem_of_getElem? (i := 35) rfl))) (own_sel (z := (⟨"com/example/dilate_query/dilatequery/collection/PostIds", "add", "(J)Z"⟩ : MethodName)) (y := (⟨"com/example/dilate_query/dilatequery/collection/PostIds", "append", "(J)V"⟩ : MethodName)) (mvT hZ (hw _ (List.mem_of_getElem? (i := 30) rfl))) rfl (mvT hZ (hw _ (List.mem_of_getElem? (i := 35) rfl))) (mvP hZ (hw _ (List.mem_of_getElem? (i := 36) rfl))) (by decide)) (Cond.privateMethod_at (mvP hZ (hw _ (List.mem_of_getElem? (i := 36) rfl)) (args := #[]))) (mvT hZ (hw _ (List.mem_of_getElem? (i := 37) rfl))) (by decide) (backOf (W := 0) (rm6_0 l Z a0 hw [] a1 q1 b1 t1 kb h0 n0 Z0 I0' O_b g_a g_b g_t n_ab n_at n_bt) hZ (hw _ (List.mem_of_getElem? (i := 37) rfl)) (hw _ (List.mem_of_getElem? (i := 11) rfl)) (by decide) (by decide)) (g := (mkF m 11 #[.val (.ref a1), .val (.long q1), .second, .unset] [(.long q1), (.ref a1)])) rfl (by rw [hml]; rfl) (Steps.refl _) (a := a1) (by rw [e1]; exact qc2) qc2' (argsL := [(.long q1)]) (rest := []) (lenOf pd_1 rfl) rfl (by show 2 * 0 + _ ≤ _; exact Nat.le_of_eq rfl) (hb hby d5_11) (fun _ _ => ⟨rfl, e1, (by decide : 0 + 1 ≤ _), (by decide : 0 + 16384 ≤ _)⟩)
  dsimp only [Pt.U, Pt.locs, Pt.cells, Pt.slots] at X2 l2 y2 z2 st2 hQ2
  subst l2 y2 z2
  obtain ⟨rfl, N2q, k1, kk, PS1, SP1⟩ := hQ2
  have N2 := Fr.app N0 N2q
  obtain ⟨fs, hr, hrun, hended, hW, hsame⟩ := X2.leave (v := some (.int (1 : Int32))) (fun h => by rw [Bd.returns] at h; cases h)
  refine ⟨_, _, pre0 _ ?_, hrun, hended, _, _, rfl, ?_, ⟨_, rfl⟩, hW, hsame.mono (by decide) (by decide)⟩
  · show Steps p.tables e below (s₁.setTop (mkF m 0 #[.val (.ref a1), .val (.long q1), .second, .unset] [])) _
    refine XS.lloadN X0.here hx rfl (hb hby d5_0) rfl ?_
    show Steps p.tables e below (s₁.setTop (mkF m 1 #[.val (.ref a1), .val (.long q1), .second, .unset] [(.long q1)])) _
    refine XS.aloadN X0.here hx rfl (hb hby d5_1) rfl rfl ?_
    show Steps p.tables e below (s₁.setTop (mkF m 2 #[.val (.ref a1), .val (.long q1), .second, .unset] [(.ref a1), (.long q1)])) _
    refine st1 _ ?_
    show Steps p.tables e below (T1.setTop (mkF m 5 #[.val (.ref a1), .val (.long q1), .second, .unset] [(.long (0 : Int64)), (.long q1)])) _
    refine XS.lcmp X1.here hx rfl (hb hby d5_5) rfl ?_
    show Steps p.tables e below (T1.setTop (mkF m 6 #[.val (.ref a1), .val (.long q1), .second, .unset] [(.int (lcmpW q1 (0 : Int64)))])) _
    refine XS.ifNo X1.here hx rfl (hb hby d5_6) rfl ((if0 _ _).trans (tlt ((lw_gt _ _).mpr hg)).2.2.2) ?_
    show Steps p.tables e below (T1.setTop (mkF m 9 #[.val (.ref a1), .val (.long q1), .second, .unset] [])) _
    refine XS.aloadN X1.here hx rfl (hb hby d5_9) rfl rfl ?_
    show Steps p.tables e below (T1.setTop (mkF m 10 #[.val (.ref a1), .val (.long q1), .second, .unset] [(.ref a1)])) _
    refine XS.lloadN X1.here hx rfl (hb hby d5_10) rfl ?_
    show Steps p.tables e below (T1.setTop (mkF m 11 #[.val (.ref a1), .val (.long q1), .second, .unset] [(.long q1), (.ref a1)])) _
    refine st2.trans ?_
    show Steps p.tables e below (T2.setTop (mkF m 14 #[.val (.ref a1), .val (.long q1), .second, .unset] [])) _
    refine XS.iconst X2.here hx rfl (hb hby d5_14) ?_
    show Steps p.tables e below (T2.setTop (mkF m 15 #[.val (.ref a1), .val (.long q1), .second, .unset] [(.int (1 : Int32))])) _
    refine XS.istoreN X2.here hx rfl (hb hby d5_15) rfl (l' := #[.val (.ref a1), .val (.long q1), .second, .val (.int (1 : Int32))]) rfl ?_
    show Steps p.tables e below (T2.setTop (mkF m 16 #[.val (.ref a1), .val (.long q1), .second, .val (.int (1 : Int32))] [])) _
    refine XS.goto X2.here hx rfl (pc0 := 16) (pc' := 38) rfl (hb hby d5_16) (by decide) (by decide) ?_
    show Steps p.tables e below (T2.setTop (mkF m 38 #[.val (.ref a1), .val (.long q1), .second, .val (.int (1 : Int32))] [])) _
    refine XS.iloadN X2.here hx rfl (hb hby d5_38) rfl ?_
    show Steps p.tables e below (T2.setTop (mkF m 39 #[.val (.ref a1), .val (.long q1), .second, .val (.int (1 : Int32))] [(.int (1 : Int32))])) _
    exact retN X2 hx (t := .boolean) Bd.returns (by simp) (hb hby d5_39) hr
  · show Q5_0 Z a1 q1 b1 t1 kb h0 n0 _ T2.heap _
    exact ⟨rfl, N2, k1, kk, PS1, SP1⟩
theorem own_roads {S asc : List Int64} {T : Nat → Int64} {F : List Nat} {lg x : Int64} (I : own_Inv S asc T F lg) (hl : F.length < 1024) : lg < x ∨ (¬ lg < x ∧ x ∈ asc) ∨ ∃ d, own_first T x (own_h x) d ∧ ((¬ lg < x ∧ x ∉ asc ∧ T ((own_h x + d) % 1024) = x) ∨ (¬ lg < x ∧ x ∉ asc ∧ ¬ T ((own_h x + d) % 1024) = x)) := by
  obtain ⟨d, hd⟩ := own_exists I.2.2.1 hl x (own_h x) (own_h_lt x)
  by_cases h1 : lg < x
  · exact Or.inl h1
  · by_cases h2 : x ∈ asc
    · exact Or.inr (Or.inl ⟨h1, h2⟩)
    · by_cases h3 : T ((own_h x + d) % 1024) = x
      · exact Or.inr (Or.inr ⟨d, hd, Or.inl ⟨h1, h2, h3⟩⟩)
      · exact Or.inr (Or.inr ⟨d, hd, Or.inr ⟨h1, h2, h3⟩⟩)
theorem own_succ {n : Nat} (h : n < 1000) : Int32.ofNat n + (1 : Int32) = Int32.ofNat (n + 1) := by
  apply Int32.toInt_inj.mp
  rw [Jvm.Kit.i32_add (by rw [own_nat (by omega)]; show _ ≤ (n : Int) + 1; omega) (by rw [own_nat (by omega)]; show (n : Int) + 1 < _; omega), own_nat (by omega), own_nat (by omega)]
  show (n : Int) + 1 = _
  omega
theorem pd_2 : parseMethodDescriptor "(J)Z" = some ⟨[.long], some .boolean⟩ := by decide +kernel
def Q5 (Z : State) (a1 : Addr) (q1 : Int64) (b1 t1 k1 : Addr) (kb kk : ClassId) (asc : List Int64) (T : Nat → Int64) (n1 tc : Int32) (lg : Int64) (S : List Int64) (F : List Nat) (h0 : Heap) (n0 : Nat) (v : Option Value) (h : Heap) (L : List Loc) : Prop := v = some (.int (if q1 ∈ S then 0 else 1)) ∧ Fr n0 L ∧ ∃ (asc' : List Int64) (T' : Nat → Int64) (F' : List Nat) (n' tc' : Int32) (lg' : Int64), own_PS Z h n0 a1 b1 t1 k1 kb kk asc' T' n' tc' lg' ∧ own_Inv (q1 :: S) asc' T' F' lg' ∧ n' = Int32.ofNat asc'.length ∧ tc' = Int32.ofNat F'.length
set_option maxRecDepth 65536 in
set_option maxHeartbeats 40000000 in
theorem rm5 (l : Launch) (Z : State) (a0 : Array Value) (hw : ∀ d ∈ tables_1, d.before a0 Z = true) (ws : List Jvm.Cond) (a1 : Addr) (q1 : Int64) (b1 t1 k1 : Addr) (kb kk : ClassId) (asc : List Int64) (T : Nat → Int64) (n1 tc : Int32) (lg : Int64) (S : List Int64) (F : List Nat) (h0 : Heap) (n0 : Nat) (Z0 : n0 ≤ h0.size) (P : own_PS Z h0 n0 a1 b1 t1 k1 kb kk asc T n1 tc lg) (D : own_Sep n0 a1 b1 t1 k1) (Iv : own_Inv S asc T F lg) (hS : S.length < 600) (hn : n1 = Int32.ofNat asc.length) (htc : tc = Int32.ofNat F.length) (hp : 0 < q1) :
    MetFree l (⟨"com/example/dilate_query/dilatequery/collection/PostIds", "add", "(J)Z"⟩ : MethodName) (head1 (Jvm.Cond.code (⟨"com/example/dilate_query/dilatequery/collection/PostIds", "add", "(J)Z"⟩ : MethodName) prog_2_method_2_code 4 (some .boolean) :: ws) ({ frames := 2, cells := 0, slots := 0, locals := 32 } : Room)) (fun a U => a = #[(.ref a1), (.long q1)] ∧ Z.Warmed39 U.vm ∧ U.heap = h0) (fun _ _ _ _ _ => True) (fun _ U o U' => ∃ v L, o = .returned v ∧ Q5 Z a1 q1 b1 t1 k1 kb kk asc T n1 tc lg S F h0 n0 v U'.heap L ∧ FrameEnd U o U' L ({ frames := 2, cells := 0, slots := 0, locals := 32 } : Room).cells ({ frames := 2, cells := 0, slots := 0, locals := 32 } : Room).slots) := by
  refine MetFree.of_bodySF (plainFor_of_name pn_PostIds) hisR ?_
  intro p e s m args below meth c s₁ Bd hml0 hP hK
  obtain ⟨rfl, hZ, hh⟩ := hP
  have hx := Bd.exec
  have hby := Bd.bytes
  have hml : c.maxLocals = 4 := hml0
  have hown : s.vm.findClass "com/example/dilate_query/dilatequery/collection/PostIds" = some m.cls := findClass_of_methodNamed Bd.named
  have hnm := (name_of_methodNamed Bd.named Bd.method).1
  have X0 : Stand p l e ({ frames := 2, cells := 0, slots := 0, locals := 32 } : Room) s m #[(.ref a1), (.long q1)] below meth c s₁ [] 0 0 := Stand.of_body Bd
  have e0 : s₁.heap = h0 := by rw [← hh, Bd.state]; rfl
  have N0 := Fr.nil n0
  have pre0 : ∀ t, Steps p.tables e below (s₁.setTop (mkF m 0 #[.val (.ref a1), .val (.long q1), .second, .unset] [])) t → Steps p.tables e below (s₁.setTop (entryFrame m #[(.ref a1), (.long q1)] 4)) t := fun t k => castTop (ef_5 m a1 q1) k
  have P' := P
  have D' := D
  obtain ⟨E_a, F_bl, F_tb, F_bits, F_lg, F_n, F_tc, G_t, V_b, G_k, Zp⟩ := P
  obtain ⟨g_a, g_b, g_t, g_k, n_ab, n_at, n_ak, n_bt, n_bk, n_tk⟩ := D
  have hl : asc.length < 1000 := by have := Iv.2.2.2.2.2; omega
  have hlF : F.length < 700 := by have := Iv.2.2.2.2.2; omega
  have hs := Iv.1
  have htc0 : 0 ≤ tc.toInt := by rw [htc, own_nat (by omega)]; omega
  have htc1 : tc.toInt < 700 := by rw [htc, own_nat (by omega)]; omega
  rcases own_roads (x := q1) Iv (by omega) with hg | ⟨hg, hm⟩ | ⟨d, hf, ⟨hg, hm, he⟩ | ⟨hg, hm, he⟩⟩
  · obtain ⟨Iv', hnm⟩ := own_inv_app Iv hp hg
    obtain ⟨T1, X1, e1, st1⟩ := getF X0 hx hZ hown (host := "") (Or.inl (hw _ (List.mem_of_getElem? (i := 32) rfl))) Via.refl e0 F_lg (g := (mkF m 2 #[.val (.ref a1), .val (.long q1), .second, .unset] [(.ref a1), (.long q1)])) rfl rfl (hb hby d5_2)
    obtain ⟨cq2, qc2, qc2'⟩ := E_a.cell
    obtain ⟨_, _, ⟨T2, L2, k2, n2⟩, -, X2, ⟨Lc2, hQ2, l2, y2, z2⟩, st2⟩ := X1.privateBack hx (y := (⟨"com/example/dilate_query/dilatequery/collection/PostIds", "append", "(J)V"⟩ : MethodName)) hown (mvT hZ (hw _ (List.mem_of_getElem? (i := 34) rfl))) (mvT hZ (hw _ (List.mem_of_getElem? (i := 35) rfl))) (own_sel (z := (⟨"com/example/dilate_query/dilatequery/collection/PostIds", "add", "(J)Z"⟩ : MethodName)) (y := (⟨"com/example/dilate_query/dilatequery/collection/PostIds", "append", "(J)V"⟩ : MethodName)) (mvT hZ (hw _ (List.mem_of_getElem? (i := 30) rfl))) rfl (mvT hZ (hw _ (List.mem_of_getElem? (i := 35) rfl))) (mvP hZ (hw _ (List.mem_of_getElem? (i := 36) rfl))) (by decide)) (Cond.privateMethod_at (mvP hZ (hw _ (List.mem_of_getElem? (i := 36) rfl)) (args := #[]))) (mvT hZ (hw _ (List.mem_of_getElem? (i := 37) rfl))) (by decide) (backOf (W := 0) (rm6 l Z a0 hw [] a1 q1 b1 t1 k1 kb kk asc T n1 tc lg h0 n0 Z0 P' D' hn hl) hZ (hw _ (List.mem_of_getElem? (i := 37) rfl)) (hw _ (List.mem_of_getElem? (i := 11) rfl)) (by decide) (by decide)) (g := (mkF m 11 #[.val (.ref a1), .val (.long q1), .second, .unset] [(.long q1), (.ref a1)])) rfl (by rw [hml]; rfl) (Steps.refl _) (a := a1) (by rw [e1]; exact qc2) qc2' (argsL := [(.long q1)]) (rest := []) (lenOf pd_1 rfl) rfl (by show 2 * 0 + _ ≤ _; exact Nat.le_of_eq rfl) (hb hby d5_11) (fun _ _ => ⟨rfl, e1, (by decide : 0 + 0 ≤ _), (by decide : 0 + 0 ≤ _)⟩)
    dsimp only [Pt.U, Pt.locs, Pt.cells, Pt.slots] at X2 l2 y2 z2 st2 hQ2
    subst l2 y2 z2
    obtain ⟨rfl, N2q, PS1⟩ := hQ2
    have N2 := Fr.app N0 N2q
    obtain ⟨fs, hr, hrun, hended, hW, hsame⟩ := X2.leave (v := some (.int (1 : Int32))) (fun h => by rw [Bd.returns] at h; cases h)
    refine ⟨_, _, pre0 _ ?_, hrun, hended, _, _, rfl, ?_, ⟨_, rfl⟩, hW, hsame.mono (by decide) (by decide)⟩
    · show Steps p.tables e below (s₁.setTop (mkF m 0 #[.val (.ref a1), .val (.long q1), .second, .unset] [])) _
      refine XS.lloadN X0.here hx rfl (hb hby d5_0) rfl ?_
      show Steps p.tables e below (s₁.setTop (mkF m 1 #[.val (.ref a1), .val (.long q1), .second, .unset] [(.long q1)])) _
      refine XS.aloadN X0.here hx rfl (hb hby d5_1) rfl rfl ?_
      show Steps p.tables e below (s₁.setTop (mkF m 2 #[.val (.ref a1), .val (.long q1), .second, .unset] [(.ref a1), (.long q1)])) _
      refine st1 _ ?_
      show Steps p.tables e below (T1.setTop (mkF m 5 #[.val (.ref a1), .val (.long q1), .second, .unset] [(.long lg), (.long q1)])) _
      refine XS.lcmp X1.here hx rfl (hb hby d5_5) rfl ?_
      show Steps p.tables e below (T1.setTop (mkF m 6 #[.val (.ref a1), .val (.long q1), .second, .unset] [(.int (lcmpW q1 lg))])) _
      refine XS.ifNo X1.here hx rfl (hb hby d5_6) rfl ((if0 _ _).trans (tlt ((lw_gt _ _).mpr hg)).2.2.2) ?_
      show Steps p.tables e below (T1.setTop (mkF m 9 #[.val (.ref a1), .val (.long q1), .second, .unset] [])) _
      refine XS.aloadN X1.here hx rfl (hb hby d5_9) rfl rfl ?_
      show Steps p.tables e below (T1.setTop (mkF m 10 #[.val (.ref a1), .val (.long q1), .second, .unset] [(.ref a1)])) _
      refine XS.lloadN X1.here hx rfl (hb hby d5_10) rfl ?_
      show Steps p.tables e below (T1.setTop (mkF m 11 #[.val (.ref a1), .val (.long q1), .second, .unset] [(.long q1), (.ref a1)])) _
      refine st2.trans ?_
      show Steps p.tables e below (T2.setTop (mkF m 14 #[.val (.ref a1), .val (.long q1), .second, .unset] [])) _
      refine XS.iconst X2.here hx rfl (hb hby d5_14) ?_
      show Steps p.tables e below (T2.setTop (mkF m 15 #[.val (.ref a1), .val (.long q1), .second, .unset] [(.int (1 : Int32))])) _
      refine XS.istoreN X2.here hx rfl (hb hby d5_15) rfl (l' := #[.val (.ref a1), .val (.long q1), .second, .val (.int (1 : Int32))]) rfl ?_
      show Steps p.tables e below (T2.setTop (mkF m 16 #[.val (.ref a1), .val (.long q1), .second, .val (.int (1 : Int32))] [])) _
      refine XS.goto X2.here hx rfl (pc0 := 16) (pc' := 38) rfl (hb hby d5_16) (by decide) (by decide) ?_
      show Steps p.tables e below (T2.setTop (mkF m 38 #[.val (.ref a1), .val (.long q1), .second, .val (.int (1 : Int32))] [])) _
      refine XS.iloadN X2.here hx rfl (hb hby d5_38) rfl ?_
      show Steps p.tables e below (T2.setTop (mkF m 39 #[.val (.ref a1), .val (.long q1), .second, .val (.int (1 : Int32))] [(.int (1 : Int32))])) _
      exact retN X2 hx (t := .boolean) Bd.returns (by simp) (hb hby d5_39) hr
    · show Q5 Z a1 q1 b1 t1 k1 kb kk asc T n1 tc lg S F h0 n0 _ T2.heap _
      exact ⟨(by rw [if_neg hnm]), N2, asc ++ [q1], T, F, _, _, _, PS1, Iv', by rw [hn, own_succ (by omega)]; simp, htc⟩
  · obtain ⟨Iv', hnm⟩ := own_inv_old Iv hp hg (Or.inl hm)
    obtain ⟨T1, X1, e1, st1⟩ := getF X0 hx hZ hown (host := "") (Or.inl (hw _ (List.mem_of_getElem? (i := 32) rfl))) Via.refl e0 F_lg (g := (mkF m 2 #[.val (.ref a1), .val (.long q1), .second, .unset] [(.ref a1), (.long q1)])) rfl rfl (hb hby d5_2)
    obtain ⟨cq2, qc2, qc2'⟩ := E_a.cell
    obtain ⟨_, _, ⟨T2, L2, k2, n2⟩, -, X2, ⟨Lc2, hQ2, l2, y2, z2⟩, st2⟩ := X1.privateBack hx (y := (⟨"com/example/dilate_query/dilatequery/collection/PostIds", "inAscendingList", "(J)Z"⟩ : MethodName)) hown (mvT hZ (hw _ (List.mem_of_getElem? (i := 41) rfl))) (mvT hZ (hw _ (List.mem_of_getElem? (i := 42) rfl))) (own_sel (z := (⟨"com/example/dilate_query/dilatequery/collection/PostIds", "add", "(J)Z"⟩ : MethodName)) (y := (⟨"com/example/dilate_query/dilatequery/collection/PostIds", "inAscendingList", "(J)Z"⟩ : MethodName)) (mvT hZ (hw _ (List.mem_of_getElem? (i := 30) rfl))) rfl (mvT hZ (hw _ (List.mem_of_getElem? (i := 42) rfl))) (mvP hZ (hw _ (List.mem_of_getElem? (i := 43) rfl))) (by decide)) (Cond.privateMethod_at (mvP hZ (hw _ (List.mem_of_getElem? (i := 43) rfl)) (args := #[]))) (mvT hZ (hw _ (List.mem_of_getElem? (i := 44) rfl))) (by decide) (backOf (W := 0) (rm7 l Z a0 hw [] a1 q1 b1 t1 k1 kb kk asc T n1 tc lg h0 n0 Z0 P' D' hn hl hs) hZ (hw _ (List.mem_of_getElem? (i := 44) rfl)) (hw _ (List.mem_of_getElem? (i := 11) rfl)) (by decide) (by decide)) (g := (mkF m 21 #[.val (.ref a1), .val (.long q1), .second, .unset] [(.long q1), (.ref a1)])) rfl (by rw [hml]; rfl) (Steps.refl _) (a := a1) (by rw [e1]; exact qc2) qc2' (argsL := [(.long q1)]) (rest := []) (lenOf pd_2 rfl) rfl (by show 2 * 0 + _ ≤ _; exact Nat.le_of_eq rfl) (hb hby d5_21) (fun _ _ => ⟨rfl, e1, (by decide : 0 + 0 ≤ _), (by decide : 0 + 0 ≤ _)⟩)
    dsimp only [Pt.U, Pt.locs, Pt.cells, Pt.slots] at X2 l2 y2 z2 st2 hQ2
    subst l2 y2 z2
    obtain ⟨rfl, N2q, eq2⟩ := hQ2
    rw [if_pos hm] at st2
    have N2 := Fr.app N0 N2q
    obtain ⟨fs, hr, hrun, hended, hW, hsame⟩ := X2.leave (v := some (.int (0 : Int32))) (fun h => by rw [Bd.returns] at h; cases h)
    refine ⟨_, _, pre0 _ ?_, hrun, hended, _, _, rfl, ?_, ⟨_, rfl⟩, hW, hsame.mono (by decide) (by decide)⟩
    · show Steps p.tables e below (s₁.setTop (mkF m 0 #[.val (.ref a1), .val (.long q1), .second, .unset] [])) _
      refine XS.lloadN X0.here hx rfl (hb hby d5_0) rfl ?_
      show Steps p.tables e below (s₁.setTop (mkF m 1 #[.val (.ref a1), .val (.long q1), .second, .unset] [(.long q1)])) _
      refine XS.aloadN X0.here hx rfl (hb hby d5_1) rfl rfl ?_
      show Steps p.tables e below (s₁.setTop (mkF m 2 #[.val (.ref a1), .val (.long q1), .second, .unset] [(.ref a1), (.long q1)])) _
      refine st1 _ ?_
      show Steps p.tables e below (T1.setTop (mkF m 5 #[.val (.ref a1), .val (.long q1), .second, .unset] [(.long lg), (.long q1)])) _
      refine XS.lcmp X1.here hx rfl (hb hby d5_5) rfl ?_
      show Steps p.tables e below (T1.setTop (mkF m 6 #[.val (.ref a1), .val (.long q1), .second, .unset] [(.int (lcmpW q1 lg))])) _
      refine XS.ifYes X1.here hx rfl (pc0 := 6) (pc' := 19) rfl (hb hby d5_6) rfl ((if0 _ _).trans (flt (fun z => hg ((lw_gt _ _).mp z))).2.2.2) (by decide) (by decide) ?_
      show Steps p.tables e below (T1.setTop (mkF m 19 #[.val (.ref a1), .val (.long q1), .second, .unset] [])) _
      refine XS.aloadN X1.here hx rfl (hb hby d5_19) rfl rfl ?_
      show Steps p.tables e below (T1.setTop (mkF m 20 #[.val (.ref a1), .val (.long q1), .second, .unset] [(.ref a1)])) _
      refine XS.lloadN X1.here hx rfl (hb hby d5_20) rfl ?_
      show Steps p.tables e below (T1.setTop (mkF m 21 #[.val (.ref a1), .val (.long q1), .second, .unset] [(.long q1), (.ref a1)])) _
      refine st2.trans ?_
      show Steps p.tables e below (T2.setTop (mkF m 24 #[.val (.ref a1), .val (.long q1), .second, .unset] [(.int (1 : Int32))])) _
      refine XS.ifNo X2.here hx rfl (hb hby d5_24) rfl ((if0 _ _).trans (feq (by decide +kernel)).1) ?_
      show Steps p.tables e below (T2.setTop (mkF m 27 #[.val (.ref a1), .val (.long q1), .second, .unset] [])) _
      refine XS.iconst X2.here hx rfl (hb hby d5_27) ?_
      show Steps p.tables e below (T2.setTop (mkF m 28 #[.val (.ref a1), .val (.long q1), .second, .unset] [(.int (0 : Int32))])) _
      refine XS.istoreN X2.here hx rfl (hb hby d5_28) rfl (l' := #[.val (.ref a1), .val (.long q1), .second, .val (.int (0 : Int32))]) rfl ?_
      show Steps p.tables e below (T2.setTop (mkF m 29 #[.val (.ref a1), .val (.long q1), .second, .val (.int (0 : Int32))] [])) _
      refine XS.goto X2.here hx rfl (pc0 := 29) (pc' := 38) rfl (hb hby d5_29) (by decide) (by decide) ?_
      show Steps p.tables e below (T2.setTop (mkF m 38 #[.val (.ref a1), .val (.long q1), .second, .val (.int (0 : Int32))] [])) _
      refine XS.iloadN X2.here hx rfl (hb hby d5_38) rfl ?_
      show Steps p.tables e below (T2.setTop (mkF m 39 #[.val (.ref a1), .val (.long q1), .second, .val (.int (0 : Int32))] [(.int (0 : Int32))])) _
      exact retN X2 hx (t := .boolean) Bd.returns (by simp) (hb hby d5_39) hr
    · show Q5 Z a1 q1 b1 t1 k1 kb kk asc T n1 tc lg S F h0 n0 _ T2.heap _
      rw [eq2]
      exact ⟨(by rw [if_pos hnm]), N2, asc, T, F, _, _, _, P', Iv', hn, htc⟩
  · obtain ⟨Iv', hnm⟩ := own_inv_old Iv hp hg (Or.inr ⟨_, Nat.mod_lt _ (by decide), he⟩)
    obtain ⟨T1, X1, e1, st1⟩ := getF X0 hx hZ hown (host := "") (Or.inl (hw _ (List.mem_of_getElem? (i := 32) rfl))) Via.refl e0 F_lg (g := (mkF m 2 #[.val (.ref a1), .val (.long q1), .second, .unset] [(.ref a1), (.long q1)])) rfl rfl (hb hby d5_2)
    obtain ⟨cq2, qc2, qc2'⟩ := E_a.cell
    obtain ⟨_, _, ⟨T2, L2, k2, n2⟩, -, X2, ⟨Lc2, hQ2, l2, y2, z2⟩, st2⟩ := X1.privateBack hx (y := (⟨"com/example/dilate_query/dilatequery/collection/PostIds", "inAscendingList", "(J)Z"⟩ : MethodName)) hown (mvT hZ (hw _ (List.mem_of_getElem? (i := 41) rfl))) (mvT hZ (hw _ (List.mem_of_getElem? (i := 42) rfl))) (own_sel (z := (⟨"com/example/dilate_query/dilatequery/collection/PostIds", "add", "(J)Z"⟩ : MethodName)) (y := (⟨"com/example/dilate_query/dilatequery/collection/PostIds", "inAscendingList", "(J)Z"⟩ : MethodName)) (mvT hZ (hw _ (List.mem_of_getElem? (i := 30) rfl))) rfl (mvT hZ (hw _ (List.mem_of_getElem? (i := 42) rfl))) (mvP hZ (hw _ (List.mem_of_getElem? (i := 43) rfl))) (by decide)) (Cond.privateMethod_at (mvP hZ (hw _ (List.mem_of_getElem? (i := 43) rfl)) (args := #[]))) (mvT hZ (hw _ (List.mem_of_getElem? (i := 44) rfl))) (by decide) (backOf (W := 0) (rm7 l Z a0 hw [] a1 q1 b1 t1 k1 kb kk asc T n1 tc lg h0 n0 Z0 P' D' hn hl hs) hZ (hw _ (List.mem_of_getElem? (i := 44) rfl)) (hw _ (List.mem_of_getElem? (i := 11) rfl)) (by decide) (by decide)) (g := (mkF m 21 #[.val (.ref a1), .val (.long q1), .second, .unset] [(.long q1), (.ref a1)])) rfl (by rw [hml]; rfl) (Steps.refl _) (a := a1) (by rw [e1]; exact qc2) qc2' (argsL := [(.long q1)]) (rest := []) (lenOf pd_2 rfl) rfl (by show 2 * 0 + _ ≤ _; exact Nat.le_of_eq rfl) (hb hby d5_21) (fun _ _ => ⟨rfl, e1, (by decide : 0 + 0 ≤ _), (by decide : 0 + 0 ≤ _)⟩)
    dsimp only [Pt.U, Pt.locs, Pt.cells, Pt.slots] at X2 l2 y2 z2 st2 hQ2
    subst l2 y2 z2
    obtain ⟨rfl, N2q, eq2⟩ := hQ2
    rw [if_neg hm] at st2
    have N2 := Fr.app N0 N2q
    obtain ⟨cq3, qc3, qc3'⟩ := E_a.cell
    obtain ⟨_, _, ⟨T3, L3, k3, n3⟩, -, X3, ⟨Lc3, hQ3, l3, y3, z3⟩, st3⟩ := X2.privateBack hx (y := (⟨"com/example/dilate_query/dilatequery/collection/PostIds", "addToTable", "(J)Z"⟩ : MethodName)) hown (mvT hZ (hw _ (List.mem_of_getElem? (i := 45) rfl))) (mvT hZ (hw _ (List.mem_of_getElem? (i := 46) rfl))) (own_sel (z := (⟨"com/example/dilate_query/dilatequery/collection/PostIds", "add", "(J)Z"⟩ : MethodName)) (y := (⟨"com/example/dilate_query/dilatequery/collection/PostIds", "addToTable", "(J)Z"⟩ : MethodName)) (mvT hZ (hw _ (List.mem_of_getElem? (i := 30) rfl))) rfl (mvT hZ (hw _ (List.mem_of_getElem? (i := 46) rfl))) (mvP hZ (hw _ (List.mem_of_getElem? (i := 47) rfl))) (by decide)) (Cond.privateMethod_at (mvP hZ (hw _ (List.mem_of_getElem? (i := 47) rfl)) (args := #[]))) (mvT hZ (hw _ (List.mem_of_getElem? (i := 48) rfl))) (by decide) (backOf (W := 0) (rm8y l Z a0 hw [] a1 q1 b1 t1 k1 kb kk asc T n1 tc lg d h0 n0 Z0 P' D' hf he) hZ (hw _ (List.mem_of_getElem? (i := 48) rfl)) (hw _ (List.mem_of_getElem? (i := 11) rfl)) (by decide) (by decide)) (g := (mkF m 34 #[.val (.ref a1), .val (.long q1), .second, .unset] [(.long q1), (.ref a1)])) rfl (by rw [hml]; rfl) (Steps.refl _) (a := a1) (by rw [eq2]; exact qc3) qc3' (argsL := [(.long q1)]) (rest := []) (lenOf pd_2 rfl) rfl (by show 2 * 0 + _ ≤ _; exact Nat.le_of_eq rfl) (hb hby d5_34) (fun _ _ => ⟨rfl, eq2, (by decide : 0 + 0 ≤ _), (by decide : 0 + 0 ≤ _)⟩)
    dsimp only [Pt.U, Pt.locs, Pt.cells, Pt.slots] at X3 l3 y3 z3 st3 hQ3
    subst l3 y3 z3
    obtain ⟨rfl, N3q, eq3⟩ := hQ3
    have N3 := Fr.app N2 N3q
    obtain ⟨fs, hr, hrun, hended, hW, hsame⟩ := X3.leave (v := some (.int (0 : Int32))) (fun h => by rw [Bd.returns] at h; cases h)
    refine ⟨_, _, pre0 _ ?_, hrun, hended, _, _, rfl, ?_, ⟨_, rfl⟩, hW, hsame.mono (by decide) (by decide)⟩
    · show Steps p.tables e below (s₁.setTop (mkF m 0 #[.val (.ref a1), .val (.long q1), .second, .unset] [])) _
      refine XS.lloadN X0.here hx rfl (hb hby d5_0) rfl ?_
      show Steps p.tables e below (s₁.setTop (mkF m 1 #[.val (.ref a1), .val (.long q1), .second, .unset] [(.long q1)])) _
      refine XS.aloadN X0.here hx rfl (hb hby d5_1) rfl rfl ?_
      show Steps p.tables e below (s₁.setTop (mkF m 2 #[.val (.ref a1), .val (.long q1), .second, .unset] [(.ref a1), (.long q1)])) _
      refine st1 _ ?_
      show Steps p.tables e below (T1.setTop (mkF m 5 #[.val (.ref a1), .val (.long q1), .second, .unset] [(.long lg), (.long q1)])) _
      refine XS.lcmp X1.here hx rfl (hb hby d5_5) rfl ?_
      show Steps p.tables e below (T1.setTop (mkF m 6 #[.val (.ref a1), .val (.long q1), .second, .unset] [(.int (lcmpW q1 lg))])) _
      refine XS.ifYes X1.here hx rfl (pc0 := 6) (pc' := 19) rfl (hb hby d5_6) rfl ((if0 _ _).trans (flt (fun z => hg ((lw_gt _ _).mp z))).2.2.2) (by decide) (by decide) ?_
      show Steps p.tables e below (T1.setTop (mkF m 19 #[.val (.ref a1), .val (.long q1), .second, .unset] [])) _
      refine XS.aloadN X1.here hx rfl (hb hby d5_19) rfl rfl ?_
      show Steps p.tables e below (T1.setTop (mkF m 20 #[.val (.ref a1), .val (.long q1), .second, .unset] [(.ref a1)])) _
      refine XS.lloadN X1.here hx rfl (hb hby d5_20) rfl ?_
      show Steps p.tables e below (T1.setTop (mkF m 21 #[.val (.ref a1), .val (.long q1), .second, .unset] [(.long q1), (.ref a1)])) _
      refine st2.trans ?_
      show Steps p.tables e below (T2.setTop (mkF m 24 #[.val (.ref a1), .val (.long q1), .second, .unset] [(.int (0 : Int32))])) _
      refine XS.ifYes X2.here hx rfl (pc0 := 24) (pc' := 32) rfl (hb hby d5_24) rfl ((if0 _ _).trans (teq (by decide +kernel)).1) (by decide) (by decide) ?_
      show Steps p.tables e below (T2.setTop (mkF m 32 #[.val (.ref a1), .val (.long q1), .second, .unset] [])) _
      refine XS.aloadN X2.here hx rfl (hb hby d5_32) rfl rfl ?_
      show Steps p.tables e below (T2.setTop (mkF m 33 #[.val (.ref a1), .val (.long q1), .second, .unset] [(.ref a1)])) _
      refine XS.lloadN X2.here hx rfl (hb hby d5_33) rfl ?_
      show Steps p.tables e below (T2.setTop (mkF m 34 #[.val (.ref a1), .val (.long q1), .second, .unset] [(.long q1), (.ref a1)])) _
      refine st3.trans ?_
      show Steps p.tables e below (T3.setTop (mkF m 37 #[.val (.ref a1), .val (.long q1), .second, .unset] [(.int (0 : Int32))])) _
      refine XS.istoreN X3.here hx rfl (hb hby d5_37) rfl (l' := #[.val (.ref a1), .val (.long q1), .second, .val (.int (0 : Int32))]) rfl ?_
      show Steps p.tables e below (T3.setTop (mkF m 38 #[.val (.ref a1), .val (.long q1), .second, .val (.int (0 : Int32))] [])) _
      refine XS.iloadN X3.here hx rfl (hb hby d5_38) rfl ?_
      show Steps p.tables e below (T3.setTop (mkF m 39 #[.val (.ref a1), .val (.long q1), .second, .val (.int (0 : Int32))] [(.int (0 : Int32))])) _
      exact retN X3 hx (t := .boolean) Bd.returns (by simp) (hb hby d5_39) hr
    · show Q5 Z a1 q1 b1 t1 k1 kb kk asc T n1 tc lg S F h0 n0 _ T3.heap _
      rw [eq3]
      exact ⟨(by rw [if_pos hnm]), N3, asc, T, F, _, _, _, P', Iv', hn, htc⟩
  · obtain ⟨Iv', hnm⟩ := own_inv_new Iv hp hg hm hf he
    obtain ⟨T1, X1, e1, st1⟩ := getF X0 hx hZ hown (host := "") (Or.inl (hw _ (List.mem_of_getElem? (i := 32) rfl))) Via.refl e0 F_lg (g := (mkF m 2 #[.val (.ref a1), .val (.long q1), .second, .unset] [(.ref a1), (.long q1)])) rfl rfl (hb hby d5_2)
    obtain ⟨cq2, qc2, qc2'⟩ := E_a.cell
    obtain ⟨_, _, ⟨T2, L2, k2, n2⟩, -, X2, ⟨Lc2, hQ2, l2, y2, z2⟩, st2⟩ := X1.privateBack hx (y := (⟨"com/example/dilate_query/dilatequery/collection/PostIds", "inAscendingList", "(J)Z"⟩ : MethodName)) hown (mvT hZ (hw _ (List.mem_of_getElem? (i := 41) rfl))) (mvT hZ (hw _ (List.mem_of_getElem? (i := 42) rfl))) (own_sel (z := (⟨"com/example/dilate_query/dilatequery/collection/PostIds", "add", "(J)Z"⟩ : MethodName)) (y := (⟨"com/example/dilate_query/dilatequery/collection/PostIds", "inAscendingList", "(J)Z"⟩ : MethodName)) (mvT hZ (hw _ (List.mem_of_getElem? (i := 30) rfl))) rfl (mvT hZ (hw _ (List.mem_of_getElem? (i := 42) rfl))) (mvP hZ (hw _ (List.mem_of_getElem? (i := 43) rfl))) (by decide)) (Cond.privateMethod_at (mvP hZ (hw _ (List.mem_of_getElem? (i := 43) rfl)) (args := #[]))) (mvT hZ (hw _ (List.mem_of_getElem? (i := 44) rfl))) (by decide) (backOf (W := 0) (rm7 l Z a0 hw [] a1 q1 b1 t1 k1 kb kk asc T n1 tc lg h0 n0 Z0 P' D' hn hl hs) hZ (hw _ (List.mem_of_getElem? (i := 44) rfl)) (hw _ (List.mem_of_getElem? (i := 11) rfl)) (by decide) (by decide)) (g := (mkF m 21 #[.val (.ref a1), .val (.long q1), .second, .unset] [(.long q1), (.ref a1)])) rfl (by rw [hml]; rfl) (Steps.refl _) (a := a1) (by rw [e1]; exact qc2) qc2' (argsL := [(.long q1)]) (rest := []) (lenOf pd_2 rfl) rfl (by show 2 * 0 + _ ≤ _; exact Nat.le_of_eq rfl) (hb hby d5_21) (fun _ _ => ⟨rfl, e1, (by decide : 0 + 0 ≤ _), (by decide : 0 + 0 ≤ _)⟩)
    dsimp only [Pt.U, Pt.locs, Pt.cells, Pt.slots] at X2 l2 y2 z2 st2 hQ2
    subst l2 y2 z2
    obtain ⟨rfl, N2q, eq2⟩ := hQ2
    rw [if_neg hm] at st2
    have N2 := Fr.app N0 N2q
    obtain ⟨cq3, qc3, qc3'⟩ := E_a.cell
    obtain ⟨_, _, ⟨T3, L3, k3, n3⟩, -, X3, ⟨Lc3, hQ3, l3, y3, z3⟩, st3⟩ := X2.privateBack hx (y := (⟨"com/example/dilate_query/dilatequery/collection/PostIds", "addToTable", "(J)Z"⟩ : MethodName)) hown (mvT hZ (hw _ (List.mem_of_getElem? (i := 45) rfl))) (mvT hZ (hw _ (List.mem_of_getElem? (i := 46) rfl))) (own_sel (z := (⟨"com/example/dilate_query/dilatequery/collection/PostIds", "add", "(J)Z"⟩ : MethodName)) (y := (⟨"com/example/dilate_query/dilatequery/collection/PostIds", "addToTable", "(J)Z"⟩ : MethodName)) (mvT hZ (hw _ (List.mem_of_getElem? (i := 30) rfl))) rfl (mvT hZ (hw _ (List.mem_of_getElem? (i := 46) rfl))) (mvP hZ (hw _ (List.mem_of_getElem? (i := 47) rfl))) (by decide)) (Cond.privateMethod_at (mvP hZ (hw _ (List.mem_of_getElem? (i := 47) rfl)) (args := #[]))) (mvT hZ (hw _ (List.mem_of_getElem? (i := 48) rfl))) (by decide) (backOf (W := 0) (rm8n l Z a0 hw [] a1 q1 b1 t1 k1 kb kk asc T n1 tc lg d h0 n0 Z0 P' D' hf he htc0 htc1) hZ (hw _ (List.mem_of_getElem? (i := 48) rfl)) (hw _ (List.mem_of_getElem? (i := 11) rfl)) (by decide) (by decide)) (g := (mkF m 34 #[.val (.ref a1), .val (.long q1), .second, .unset] [(.long q1), (.ref a1)])) rfl (by rw [hml]; rfl) (Steps.refl _) (a := a1) (by rw [eq2]; exact qc3) qc3' (argsL := [(.long q1)]) (rest := []) (lenOf pd_2 rfl) rfl (by show 2 * 0 + _ ≤ _; exact Nat.le_of_eq rfl) (hb hby d5_34) (fun _ _ => ⟨rfl, eq2, (by decide : 0 + 0 ≤ _), (by decide : 0 + 0 ≤ _)⟩)
    dsimp only [Pt.U, Pt.locs, Pt.cells, Pt.slots] at X3 l3 y3 z3 st3 hQ3
    subst l3 y3 z3
    obtain ⟨rfl, N3q, PS1⟩ := hQ3
    have N3 := Fr.app N2 N3q
    obtain ⟨fs, hr, hrun, hended, hW, hsame⟩ := X3.leave (v := some (.int (1 : Int32))) (fun h => by rw [Bd.returns] at h; cases h)
    refine ⟨_, _, pre0 _ ?_, hrun, hended, _, _, rfl, ?_, ⟨_, rfl⟩, hW, hsame.mono (by decide) (by decide)⟩
    · show Steps p.tables e below (s₁.setTop (mkF m 0 #[.val (.ref a1), .val (.long q1), .second, .unset] [])) _
      refine XS.lloadN X0.here hx rfl (hb hby d5_0) rfl ?_
      show Steps p.tables e below (s₁.setTop (mkF m 1 #[.val (.ref a1), .val (.long q1), .second, .unset] [(.long q1)])) _
      refine XS.aloadN X0.here hx rfl (hb hby d5_1) rfl rfl ?_
      show Steps p.tables e below (s₁.setTop (mkF m 2 #[.val (.ref a1), .val (.long q1), .second, .unset] [(.ref a1), (.long q1)])) _
      refine st1 _ ?_
      show Steps p.tables e below (T1.setTop (mkF m 5 #[.val (.ref a1), .val (.long q1), .second, .unset] [(.long lg), (.long q1)])) _
      refine XS.lcmp X1.here hx rfl (hb hby d5_5) rfl ?_
      show Steps p.tables e below (T1.setTop (mkF m 6 #[.val (.ref a1), .val (.long q1), .second, .unset] [(.int (lcmpW q1 lg))])) _
      refine XS.ifYes X1.here hx rfl (pc0 := 6) (pc' := 19) rfl (hb hby d5_6) rfl ((if0 _ _).trans (flt (fun z => hg ((lw_gt _ _).mp z))).2.2.2) (by decide) (by decide) ?_
      show Steps p.tables e below (T1.setTop (mkF m 19 #[.val (.ref a1), .val (.long q1), .second, .unset] [])) _
      refine XS.aloadN X1.here hx rfl (hb hby d5_19) rfl rfl ?_
      show Steps p.tables e below (T1.setTop (mkF m 20 #[.val (.ref a1), .val (.long q1), .second, .unset] [(.ref a1)])) _
      refine XS.lloadN X1.here hx rfl (hb hby d5_20) rfl ?_
      show Steps p.tables e below (T1.setTop (mkF m 21 #[.val (.ref a1), .val (.long q1), .second, .unset] [(.long q1), (.ref a1)])) _
      refine st2.trans ?_
      show Steps p.tables e below (T2.setTop (mkF m 24 #[.val (.ref a1), .val (.long q1), .second, .unset] [(.int (0 : Int32))])) _
      refine XS.ifYes X2.here hx rfl (pc0 := 24) (pc' := 32) rfl (hb hby d5_24) rfl ((if0 _ _).trans (teq (by decide +kernel)).1) (by decide) (by decide) ?_
      show Steps p.tables e below (T2.setTop (mkF m 32 #[.val (.ref a1), .val (.long q1), .second, .unset] [])) _
      refine XS.aloadN X2.here hx rfl (hb hby d5_32) rfl rfl ?_
      show Steps p.tables e below (T2.setTop (mkF m 33 #[.val (.ref a1), .val (.long q1), .second, .unset] [(.ref a1)])) _
      refine XS.lloadN X2.here hx rfl (hb hby d5_33) rfl ?_
      show Steps p.tables e below (T2.setTop (mkF m 34 #[.val (.ref a1), .val (.long q1), .second, .unset] [(.long q1), (.ref a1)])) _
      refine st3.trans ?_
      show Steps p.tables e below (T3.setTop (mkF m 37 #[.val (.ref a1), .val (.long q1), .second, .unset] [(.int (1 : Int32))])) _
      refine XS.istoreN X3.here hx rfl (hb hby d5_37) rfl (l' := #[.val (.ref a1), .val (.long q1), .second, .val (.int (1 : Int32))]) rfl ?_
      show Steps p.tables e below (T3.setTop (mkF m 38 #[.val (.ref a1), .val (.long q1), .second, .val (.int (1 : Int32))] [])) _
      refine XS.iloadN X3.here hx rfl (hb hby d5_38) rfl ?_
      show Steps p.tables e below (T3.setTop (mkF m 39 #[.val (.ref a1), .val (.long q1), .second, .val (.int (1 : Int32))] [(.int (1 : Int32))])) _
      exact retN X3 hx (t := .boolean) Bd.returns (by simp) (hb hby d5_39) hr
    · show Q5 Z a1 q1 b1 t1 k1 kb kk asc T n1 tc lg S F h0 n0 _ T3.heap _
      exact ⟨(by rw [if_neg hnm]), N3, asc, _, _, _, _, _, PS1, Iv', hn, by rw [htc, own_succ (by omega)]; simp⟩
set_option maxRecDepth 65536 in
set_option maxHeartbeats 40000000 in
theorem seg_eb {p : Program} {l : Launch} {e : Env} {R : Room} {s : State} {m : MethodId} {args : Array Value} {below : List Frame} {meth : Method} {c : Code} {T0 : State} {locs : List Loc} {cells slots : Nat} (q1 q2 q3 q4 q5 : Int64) (p6 : Int32) (xa xb xc xd xe : Int64) (k1 k2 : Int32) (r1 r2 : Int64) (s1 : Addr) (ra rb rc rd re g1 g2 eb ec ed ee : Int32)
    (X0 : Stand p l e R s m args below meth c T0 locs cells slots) (hx : p.tables.exec = Jvm.exec) (hby : c.code = code) (hr : eb = if xb ∈ [xa] then 0 else 1) : ∀ target, Steps p.tables e below (T0.setTop (mkF m 192 #[.val (.long q1), .second, .val (.long q2), .second, .val (.long q3), .second, .val (.long q4), .second, .val (.long q5), .second, .val (.int p6), .val (.long xa), .second, .val (.long xb), .second, .val (.long xc), .second, .val (.long xd), .second, .val (.long xe), .second, .val (.int k1), .val (.int k2), .val (.long r1), .second, .val (.long r2), .second, .val (.ref s1), .val (.int ra), .val (.int rb), .val (.int rc), .val (.int rd), .val (.int re), .val (.int g1), .val (.int g2), .val (.int eb), .unset, .unset, .unset] [])) target → Steps p.tables e below (T0.setTop (mkF m 177 #[.val (.long q1), .second, .val (.long q2), .second, .val (.long q3), .second, .val (.long q4), .second, .val (.long q5), .second, .val (.int p6), .val (.long xa), .second, .val (.long xb), .second, .val (.long xc), .second, .val (.long xd), .second, .val (.long xe), .second, .val (.int k1), .val (.int k2), .val (.long r1), .second, .val (.long r2), .second, .val (.ref s1), .val (.int ra), .val (.int rb), .val (.int rc), .val (.int rd), .val (.int re), .val (.int g1), .val (.int g2), .unset, .unset, .unset, .unset] [])) target := by
  intro target kt
  by_cases h0 : xb = xa
  · have hv : eb = (0 : Int32) := by rw [hr, if_pos (by simp [h0])]
    rw [hv] at kt
    show Steps p.tables e below (T0.setTop (mkF m 177 #[.val (.long q1), .second, .val (.long q2), .second, .val (.long q3), .second, .val (.long q4), .second, .val (.long q5), .second, .val (.int p6), .val (.long xa), .second, .val (.long xb), .second, .val (.long xc), .second, .val (.long xd), .second, .val (.long xe), .second, .val (.int k1), .val (.int k2), .val (.long r1), .second, .val (.long r2), .second, .val (.ref s1), .val (.int ra), .val (.int rb), .val (.int rc), .val (.int rd), .val (.int re), .val (.int g1), .val (.int g2), .unset, .unset, .unset, .unset] [])) _
    refine XS.lload X0.here hx rfl (hb hby at_177) rfl ?_
    show Steps p.tables e below (T0.setTop (mkF m 179 #[.val (.long q1), .second, .val (.long q2), .second, .val (.long q3), .second, .val (.long q4), .second, .val (.long q5), .second, .val (.int p6), .val (.long xa), .second, .val (.long xb), .second, .val (.long xc), .second, .val (.long xd), .second, .val (.long xe), .second, .val (.int k1), .val (.int k2), .val (.long r1), .second, .val (.long r2), .second, .val (.ref s1), .val (.int ra), .val (.int rb), .val (.int rc), .val (.int rd), .val (.int re), .val (.int g1), .val (.int g2), .unset, .unset, .unset, .unset] [(.long xb)])) _
    refine XS.lload X0.here hx rfl (hb hby at_179) rfl ?_
    show Steps p.tables e below (T0.setTop (mkF m 181 #[.val (.long q1), .second, .val (.long q2), .second, .val (.long q3), .second, .val (.long q4), .second, .val (.long q5), .second, .val (.int p6), .val (.long xa), .second, .val (.long xb), .second, .val (.long xc), .second, .val (.long xd), .second, .val (.long xe), .second, .val (.int k1), .val (.int k2), .val (.long r1), .second, .val (.long r2), .second, .val (.ref s1), .val (.int ra), .val (.int rb), .val (.int rc), .val (.int rd), .val (.int re), .val (.int g1), .val (.int g2), .unset, .unset, .unset, .unset] [(.long xa), (.long xb)])) _
    refine XS.lcmp X0.here hx rfl (hb hby at_181) rfl ?_
    show Steps p.tables e below (T0.setTop (mkF m 182 #[.val (.long q1), .second, .val (.long q2), .second, .val (.long q3), .second, .val (.long q4), .second, .val (.long q5), .second, .val (.int p6), .val (.long xa), .second, .val (.long xb), .second, .val (.long xc), .second, .val (.long xd), .second, .val (.long xe), .second, .val (.int k1), .val (.int k2), .val (.long r1), .second, .val (.long r2), .second, .val (.ref s1), .val (.int ra), .val (.int rb), .val (.int rc), .val (.int rd), .val (.int re), .val (.int g1), .val (.int g2), .unset, .unset, .unset, .unset] [(.int (lcmpW xb xa))])) _
    refine XS.ifYes X0.here hx rfl (pc0 := 182) (pc' := 189) rfl (hb hby at_182) rfl ((if0 _ _).trans (teq ((lw_eq _ _).mpr h0)).1) (by decide) (by decide) ?_
    show Steps p.tables e below (T0.setTop (mkF m 189 #[.val (.long q1), .second, .val (.long q2), .second, .val (.long q3), .second, .val (.long q4), .second, .val (.long q5), .second, .val (.int p6), .val (.long xa), .second, .val (.long xb), .second, .val (.long xc), .second, .val (.long xd), .second, .val (.long xe), .second, .val (.int k1), .val (.int k2), .val (.long r1), .second, .val (.long r2), .second, .val (.ref s1), .val (.int ra), .val (.int rb), .val (.int rc), .val (.int rd), .val (.int re), .val (.int g1), .val (.int g2), .unset, .unset, .unset, .unset] [])) _
    refine XS.iconst X0.here hx rfl (hb hby at_189) ?_
    show Steps p.tables e below (T0.setTop (mkF m 190 #[.val (.long q1), .second, .val (.long q2), .second, .val (.long q3), .second, .val (.long q4), .second, .val (.long q5), .second, .val (.int p6), .val (.long xa), .second, .val (.long xb), .second, .val (.long xc), .second, .val (.long xd), .second, .val (.long xe), .second, .val (.int k1), .val (.int k2), .val (.long r1), .second, .val (.long r2), .second, .val (.ref s1), .val (.int ra), .val (.int rb), .val (.int rc), .val (.int rd), .val (.int re), .val (.int g1), .val (.int g2), .unset, .unset, .unset, .unset] [(.int (0 : Int32))])) _
    refine XS.istore X0.here hx rfl (hb hby at_190) rfl (l' := #[.val (.long q1), .second, .val (.long q2), .second, .val (.long q3), .second, .val (.long q4), .second, .val (.long q5), .second, .val (.int p6), .val (.long xa), .second, .val (.long xb), .second, .val (.long xc), .second, .val (.long xd), .second, .val (.long xe), .second, .val (.int k1), .val (.int k2), .val (.long r1), .second, .val (.long r2), .second, .val (.ref s1), .val (.int ra), .val (.int rb), .val (.int rc), .val (.int rd), .val (.int re), .val (.int g1), .val (.int g2), .val (.int (0 : Int32)), .unset, .unset, .unset]) rfl ?_
    exact kt
  have hv : eb = (1 : Int32) := by rw [hr, if_neg (by simp [h0])]
  rw [hv] at kt
  show Steps p.tables e below (T0.setTop (mkF m 177 #[.val (.long q1), .second, .val (.long q2), .second, .val (.long q3), .second, .val (.long q4), .second, .val (.long q5), .second, .val (.int p6), .val (.long xa), .second, .val (.long xb), .second, .val (.long xc), .second, .val (.long xd), .second, .val (.long xe), .second, .val (.int k1), .val (.int k2), .val (.long r1), .second, .val (.long r2), .second, .val (.ref s1), .val (.int ra), .val (.int rb), .val (.int rc), .val (.int rd), .val (.int re), .val (.int g1), .val (.int g2), .unset, .unset, .unset, .unset] [])) _
  refine XS.lload X0.here hx rfl (hb hby at_177) rfl ?_
  show Steps p.tables e below (T0.setTop (mkF m 179 #[.val (.long q1), .second, .val (.long q2), .second, .val (.long q3), .second, .val (.long q4), .second, .val (.long q5), .second, .val (.int p6), .val (.long xa), .second, .val (.long xb), .second, .val (.long xc), .second, .val (.long xd), .second, .val (.long xe), .second, .val (.int k1), .val (.int k2), .val (.long r1), .second, .val (.long r2), .second, .val (.ref s1), .val (.int ra), .val (.int rb), .val (.int rc), .val (.int rd), .val (.int re), .val (.int g1), .val (.int g2), .unset, .unset, .unset, .unset] [(.long xb)])) _
  refine XS.lload X0.here hx rfl (hb hby at_179) rfl ?_
  show Steps p.tables e below (T0.setTop (mkF m 181 #[.val (.long q1), .second, .val (.long q2), .second, .val (.long q3), .second, .val (.long q4), .second, .val (.long q5), .second, .val (.int p6), .val (.long xa), .second, .val (.long xb), .second, .val (.long xc), .second, .val (.long xd), .second, .val (.long xe), .second, .val (.int k1), .val (.int k2), .val (.long r1), .second, .val (.long r2), .second, .val (.ref s1), .val (.int ra), .val (.int rb), .val (.int rc), .val (.int rd), .val (.int re), .val (.int g1), .val (.int g2), .unset, .unset, .unset, .unset] [(.long xa), (.long xb)])) _
  refine XS.lcmp X0.here hx rfl (hb hby at_181) rfl ?_
  show Steps p.tables e below (T0.setTop (mkF m 182 #[.val (.long q1), .second, .val (.long q2), .second, .val (.long q3), .second, .val (.long q4), .second, .val (.long q5), .second, .val (.int p6), .val (.long xa), .second, .val (.long xb), .second, .val (.long xc), .second, .val (.long xd), .second, .val (.long xe), .second, .val (.int k1), .val (.int k2), .val (.long r1), .second, .val (.long r2), .second, .val (.ref s1), .val (.int ra), .val (.int rb), .val (.int rc), .val (.int rd), .val (.int re), .val (.int g1), .val (.int g2), .unset, .unset, .unset, .unset] [(.int (lcmpW xb xa))])) _
  refine XS.ifNo X0.here hx rfl (hb hby at_182) rfl ((if0 _ _).trans (feq (fun z => h0 ((lw_eq _ _).mp z))).1) ?_
  show Steps p.tables e below (T0.setTop (mkF m 185 #[.val (.long q1), .second, .val (.long q2), .second, .val (.long q3), .second, .val (.long q4), .second, .val (.long q5), .second, .val (.int p6), .val (.long xa), .second, .val (.long xb), .second, .val (.long xc), .second, .val (.long xd), .second, .val (.long xe), .second, .val (.int k1), .val (.int k2), .val (.long r1), .second, .val (.long r2), .second, .val (.ref s1), .val (.int ra), .val (.int rb), .val (.int rc), .val (.int rd), .val (.int re), .val (.int g1), .val (.int g2), .unset, .unset, .unset, .unset] [])) _
  refine XS.iconst X0.here hx rfl (hb hby at_185) ?_
  show Steps p.tables e below (T0.setTop (mkF m 186 #[.val (.long q1), .second, .val (.long q2), .second, .val (.long q3), .second, .val (.long q4), .second, .val (.long q5), .second, .val (.int p6), .val (.long xa), .second, .val (.long xb), .second, .val (.long xc), .second, .val (.long xd), .second, .val (.long xe), .second, .val (.int k1), .val (.int k2), .val (.long r1), .second, .val (.long r2), .second, .val (.ref s1), .val (.int ra), .val (.int rb), .val (.int rc), .val (.int rd), .val (.int re), .val (.int g1), .val (.int g2), .unset, .unset, .unset, .unset] [(.int (1 : Int32))])) _
  refine XS.goto X0.here hx rfl (pc0 := 186) (pc' := 190) rfl (hb hby at_186) (by decide) (by decide) ?_
  show Steps p.tables e below (T0.setTop (mkF m 190 #[.val (.long q1), .second, .val (.long q2), .second, .val (.long q3), .second, .val (.long q4), .second, .val (.long q5), .second, .val (.int p6), .val (.long xa), .second, .val (.long xb), .second, .val (.long xc), .second, .val (.long xd), .second, .val (.long xe), .second, .val (.int k1), .val (.int k2), .val (.long r1), .second, .val (.long r2), .second, .val (.ref s1), .val (.int ra), .val (.int rb), .val (.int rc), .val (.int rd), .val (.int re), .val (.int g1), .val (.int g2), .unset, .unset, .unset, .unset] [(.int (1 : Int32))])) _
  refine XS.istore X0.here hx rfl (hb hby at_190) rfl (l' := #[.val (.long q1), .second, .val (.long q2), .second, .val (.long q3), .second, .val (.long q4), .second, .val (.long q5), .second, .val (.int p6), .val (.long xa), .second, .val (.long xb), .second, .val (.long xc), .second, .val (.long xd), .second, .val (.long xe), .second, .val (.int k1), .val (.int k2), .val (.long r1), .second, .val (.long r2), .second, .val (.ref s1), .val (.int ra), .val (.int rb), .val (.int rc), .val (.int rd), .val (.int re), .val (.int g1), .val (.int g2), .val (.int (1 : Int32)), .unset, .unset, .unset]) rfl ?_
  exact kt
set_option maxRecDepth 65536 in
set_option maxHeartbeats 40000000 in
theorem seg_ec {p : Program} {l : Launch} {e : Env} {R : Room} {s : State} {m : MethodId} {args : Array Value} {below : List Frame} {meth : Method} {c : Code} {T0 : State} {locs : List Loc} {cells slots : Nat} (q1 q2 q3 q4 q5 : Int64) (p6 : Int32) (xa xb xc xd xe : Int64) (k1 k2 : Int32) (r1 r2 : Int64) (s1 : Addr) (ra rb rc rd re g1 g2 eb ec ed ee : Int32)
    (X0 : Stand p l e R s m args below meth c T0 locs cells slots) (hx : p.tables.exec = Jvm.exec) (hby : c.code = code) (hr : ec = if xc ∈ [xb, xa] then 0 else 1) : ∀ target, Steps p.tables e below (T0.setTop (mkF m 215 #[.val (.long q1), .second, .val (.long q2), .second, .val (.long q3), .second, .val (.long q4), .second, .val (.long q5), .second, .val (.int p6), .val (.long xa), .second, .val (.long xb), .second, .val (.long xc), .second, .val (.long xd), .second, .val (.long xe), .second, .val (.int k1), .val (.int k2), .val (.long r1), .second, .val (.long r2), .second, .val (.ref s1), .val (.int ra), .val (.int rb), .val (.int rc), .val (.int rd), .val (.int re), .val (.int g1), .val (.int g2), .val (.int eb), .val (.int ec), .unset, .unset] [])) target → Steps p.tables e below (T0.setTop (mkF m 192 #[.val (.long q1), .second, .val (.long q2), .second, .val (.long q3), .second, .val (.long q4), .second, .val (.long q5), .second, .val (.int p6), .val (.long xa), .second, .val (.long xb), .second, .val (.long xc), .second, .val (.long xd), .second, .val (.long xe), .second, .val (.int k1), .val (.int k2), .val (.long r1), .second, .val (.long r2), .second, .val (.ref s1), .val (.int ra), .val (.int rb), .val (.int rc), .val (.int rd), .val (.int re), .val (.int g1), .val (.int g2), .val (.int eb), .unset, .unset, .unset] [])) target := by
  intro target kt
  by_cases h0 : xc = xa
  · have hv : ec = (0 : Int32) := by rw [hr, if_pos (by simp [h0])]
    rw [hv] at kt
    show Steps p.tables e below (T0.setTop (mkF m 192 #[.val (.long q1), .second, .val (.long q2), .second, .val (.long q3), .second, .val (.long q4), .second, .val (.long q5), .second, .val (.int p6), .val (.long xa), .second, .val (.long xb), .second, .val (.long xc), .second, .val (.long xd), .second, .val (.long xe), .second, .val (.int k1), .val (.int k2), .val (.long r1), .second, .val (.long r2), .second, .val (.ref s1), .val (.int ra), .val (.int rb), .val (.int rc), .val (.int rd), .val (.int re), .val (.int g1), .val (.int g2), .val (.int eb), .unset, .unset, .unset] [])) _
    refine XS.lload X0.here hx rfl (hb hby at_192) rfl ?_
    show Steps p.tables e below (T0.setTop (mkF m 194 #[.val (.long q1), .second, .val (.long q2), .second, .val (.long q3), .second, .val (.long q4), .second, .val (.long q5), .second, .val (.int p6), .val (.long xa), .second, .val (.long xb), .second, .val (.long xc), .second, .val (.long xd), .second, .val (.long xe), .second, .val (.int k1), .val (.int k2), .val (.long r1), .second, .val (.long r2), .second, .val (.ref s1), .val (.int ra), .val (.int rb), .val (.int rc), .val (.int rd), .val (.int re), .val (.int g1), .val (.int g2), .val (.int eb), .unset, .unset, .unset] [(.long xc)])) _
    refine XS.lload X0.here hx rfl (hb hby at_194) rfl ?_
    show Steps p.tables e below (T0.setTop (mkF m 196 #[.val (.long q1), .second, .val (.long q2), .second, .val (.long q3), .second, .val (.long q4), .second, .val (.long q5), .second, .val (.int p6), .val (.long xa), .second, .val (.long xb), .second, .val (.long xc), .second, .val (.long xd), .second, .val (.long xe), .second, .val (.int k1), .val (.int k2), .val (.long r1), .second, .val (.long r2), .second, .val (.ref s1), .val (.int ra), .val (.int rb), .val (.int rc), .val (.int rd), .val (.int re), .val (.int g1), .val (.int g2), .val (.int eb), .unset, .unset, .unset] [(.long xa), (.long xc)])) _
    refine XS.lcmp X0.here hx rfl (hb hby at_196) rfl ?_
    show Steps p.tables e below (T0.setTop (mkF m 197 #[.val (.long q1), .second, .val (.long q2), .second, .val (.long q3), .second, .val (.long q4), .second, .val (.long q5), .second, .val (.int p6), .val (.long xa), .second, .val (.long xb), .second, .val (.long xc), .second, .val (.long xd), .second, .val (.long xe), .second, .val (.int k1), .val (.int k2), .val (.long r1), .second, .val (.long r2), .second, .val (.ref s1), .val (.int ra), .val (.int rb), .val (.int rc), .val (.int rd), .val (.int re), .val (.int g1), .val (.int g2), .val (.int eb), .unset, .unset, .unset] [(.int (lcmpW xc xa))])) _
    refine XS.ifYes X0.here hx rfl (pc0 := 197) (pc' := 212) rfl (hb hby at_197) rfl ((if0 _ _).trans (teq ((lw_eq _ _).mpr h0)).1) (by decide) (by decide) ?_
    show Steps p.tables e below (T0.setTop (mkF m 212 #[.val (.long q1), .second, .val (.long q2), .second, .val (.long q3), .second, .val (.long q4), .second, .val (.long q5), .second, .val (.int p6), .val (.long xa), .second, .val (.long xb), .second, .val (.long xc), .second, .val (.long xd), .second, .val (.long xe), .second, .val (.int k1), .val (.int k2), .val (.long r1), .second, .val (.long r2), .second, .val (.ref s1), .val (.int ra), .val (.int rb), .val (.int rc), .val (.int rd), .val (.int re), .val (.int g1), .val (.int g2), .val (.int eb), .unset, .unset, .unset] [])) _
    refine XS.iconst X0.here hx rfl (hb hby at_212) ?_
    show Steps p.tables e below (T0.setTop (mkF m 213 #[.val (.long q1), .second, .val (.long q2), .second, .val (.long q3), .second, .val (.long q4), .second, .val (.long q5), .second, .val (.int p6), .val (.long xa), .second, .val (.long xb), .second, .val (.long xc), .second, .val (.long xd), .second, .val (.long xe), .second, .val (.int k1), .val (.int k2), .val (.long r1), .second, .val (.long r2), .second, .val (.ref s1), .val (.int ra), .val (.int rb), .val (.int rc), .val (.int rd), .val (.int re), .val (.int g1), .val (.int g2), .val (.int eb), .unset, .unset, .unset] [(.int (0 : Int32))])) _
    refine XS.istore X0.here hx rfl (hb hby at_213) rfl (l' := #[.val (.long q1), .second, .val (.long q2), .second, .val (.long q3), .second, .val (.long q4), .second, .val (.long q5), .second, .val (.int p6), .val (.long xa), .second, .val (.long xb), .second, .val (.long xc), .second, .val (.long xd), .second, .val (.long xe), .second, .val (.int k1), .val (.int k2), .val (.long r1), .second, .val (.long r2), .second, .val (.ref s1), .val (.int ra), .val (.int rb), .val (.int rc), .val (.int rd), .val (.int re), .val (.int g1), .val (.int g2), .val (.int eb), .val (.int (0 : Int32)), .unset, .unset]) rfl ?_
    exact kt
  by_cases h1 : xc = xb
  · have hv : ec = (0 : Int32) := by rw [hr, if_pos (by simp [h1])]
    rw [hv] at kt
    show Steps p.tables e below (T0.setTop (mkF m 192 #[.val (.long q1), .second, .val (.long q2), .second, .val (.long q3), .second, .val (.long q4), .second, .val (.long q5), .second, .val (.int p6), .val (.long xa), .second, .val (.long xb), .second, .val (.long xc), .second, .val (.long xd), .second, .val (.long xe), .second, .val (.int k1), .val (.int k2), .val (.long r1), .second, .val (.long r2), .second, .val (.ref s1), .val (.int ra), .val (.int rb), .val (.int rc), .val (.int rd), .val (.int re), .val (.int g1), .val (.int g2), .val (.int eb), .unset, .unset, .unset] [])) _
    refine XS.lload X0.here hx rfl (hb hby at_192) rfl ?_
    show Steps p.tables e below (T0.setTop (mkF m 194 #[.val (.long q1), .second, .val (.long q2), .second, .val (.long q3), .second, .val (.long q4), .second, .val (.long q5), .second, .val (.int p6), .val (.long xa), .second, .val (.long xb), .second, .val (.long xc), .second, .val (.long xd), .second, .val (.long xe), .second, .val (.int k1), .val (.int k2), .val (.long r1), .second, .val (.long r2), .second, .val (.ref s1), .val (.int ra), .val (.int rb), .val (.int rc), .val (.int rd), .val (.int re), .val (.int g1), .val (.int g2), .val (.int eb), .unset, .unset, .unset] [(.long xc)])) _
    refine XS.lload X0.here hx rfl (hb hby at_194) rfl ?_
    show Steps p.tables e below (T0.setTop (mkF m 196 #[.val (.long q1), .second, .val (.long q2), .second, .val (.long q3), .second, .val (.long q4), .second, .val (.long q5), .second, .val (.int p6), .val (.long xa), .second, .val (.long xb), .second, .val (.long xc), .second, .val (.long xd), .second, .val (.long xe), .second, .val (.int k1), .val (.int k2), .val (.long r1), .second, .val (.long r2), .second, .val (.ref s1), .val (.int ra), .val (.int rb), .val (.int rc), .val (.int rd), .val (.int re), .val (.int g1), .val (.int g2), .val (.int eb), .unset, .unset, .unset] [(.long xa), (.long xc)])) _
    refine XS.lcmp X0.here hx rfl (hb hby at_196) rfl ?_
    show Steps p.tables e below (T0.setTop (mkF m 197 #[.val (.long q1), .second, .val (.long q2), .second, .val (.long q3), .second, .val (.long q4), .second, .val (.long q5), .second, .val (.int p6), .val (.long xa), .second, .val (.long xb), .second, .val (.long xc), .second, .val (.long xd), .second, .val (.long xe), .second, .val (.int k1), .val (.int k2), .val (.long r1), .second, .val (.long r2), .second, .val (.ref s1), .val (.int ra), .val (.int rb), .val (.int rc), .val (.int rd), .val (.int re), .val (.int g1), .val (.int g2), .val (.int eb), .unset, .unset, .unset] [(.int (lcmpW xc xa))])) _
    refine XS.ifNo X0.here hx rfl (hb hby at_197) rfl ((if0 _ _).trans (feq (fun z => h0 ((lw_eq _ _).mp z))).1) ?_
    show Steps p.tables e below (T0.setTop (mkF m 200 #[.val (.long q1), .second, .val (.long q2), .second, .val (.long q3), .second, .val (.long q4), .second, .val (.long q5), .second, .val (.int p6), .val (.long xa), .second, .val (.long xb), .second, .val (.long xc), .second, .val (.long xd), .second, .val (.long xe), .second, .val (.int k1), .val (.int k2), .val (.long r1), .second, .val (.long r2), .second, .val (.ref s1), .val (.int ra), .val (.int rb), .val (.int rc), .val (.int rd), .val (.int re), .val (.int g1), .val (.int g2), .val (.int eb), .unset, .unset, .unset] [])) _
    refine XS.lload X0.here hx rfl (hb hby at_200) rfl ?_
    show Steps p.tables e below (T0.setTop (mkF m 202 #[.val (.long q1), .second, .val (.long q2), .second, .val (.long q3), .second, .val (.long q4), .second, .val (.long q5), .second, .val (.int p6), .val (.long xa), .second, .val (.long xb), .second, .val (.long xc), .second, .val (.long xd), .second, .val (.long xe), .second, .val (.int k1), .val (.int k2), .val (.long r1), .second, .val (.long r2), .second, .val (.ref s1), .val (.int ra), .val (.int rb), .val (.int rc), .val (.int rd), .val (.int re), .val (.int g1), .val (.int g2), .val (.int eb), .unset, .unset, .unset] [(.long xc)])) _
    refine XS.lload X0.here hx rfl (hb hby at_202) rfl ?_
    show Steps p.tables e below (T0.setTop (mkF m 204 #[.val (.long q1), .second, .val (.long q2), .second, .val (.long q3), .second, .val (.long q4), .second, .val (.long q5), .second, .val (.int p6), .val (.long xa), .second, .val (.long xb), .second, .val (.long xc), .second, .val (.long xd), .second, .val (.long xe), .second, .val (.int k1), .val (.int k2), .val (.long r1), .second, .val (.long r2), .second, .val (.ref s1), .val (.int ra), .val (.int rb), .val (.int rc), .val (.int rd), .val (.int re), .val (.int g1), .val (.int g2), .val (.int eb), .unset, .unset, .unset] [(.long xb), (.long xc)])) _
    refine XS.lcmp X0.here hx rfl (hb hby at_204) rfl ?_
    show Steps p.tables e below (T0.setTop (mkF m 205 #[.val (.long q1), .second, .val (.long q2), .second, .val (.long q3), .second, .val (.long q4), .second, .val (.long q5), .second, .val (.int p6), .val (.long xa), .second, .val (.long xb), .second, .val (.long xc), .second, .val (.long xd), .second, .val (.long xe), .second, .val (.int k1), .val (.int k2), .val (.long r1), .second, .val (.long r2), .second, .val (.ref s1), .val (.int ra), .val (.int rb), .val (.int rc), .val (.int rd), .val (.int re), .val (.int g1), .val (.int g2), .val (.int eb), .unset, .unset, .unset] [(.int (lcmpW xc xb))])) _
    refine XS.ifYes X0.here hx rfl (pc0 := 205) (pc' := 212) rfl (hb hby at_205) rfl ((if0 _ _).trans (teq ((lw_eq _ _).mpr h1)).1) (by decide) (by decide) ?_
    show Steps p.tables e below (T0.setTop (mkF m 212 #[.val (.long q1), .second, .val (.long q2), .second, .val (.long q3), .second, .val (.long q4), .second, .val (.long q5), .second, .val (.int p6), .val (.long xa), .second, .val (.long xb), .second, .val (.long xc), .second, .val (.long xd), .second, .val (.long xe), .second, .val (.int k1), .val (.int k2), .val (.long r1), .second, .val (.long r2), .second, .val (.ref s1), .val (.int ra), .val (.int rb), .val (.int rc), .val (.int rd), .val (.int re), .val (.int g1), .val (.int g2), .val (.int eb), .unset, .unset, .unset] [])) _
    refine XS.iconst X0.here hx rfl (hb hby at_212) ?_
    show Steps p.tables e below (T0.setTop (mkF m 213 #[.val (.long q1), .second, .val (.long q2), .second, .val (.long q3), .second, .val (.long q4), .second, .val (.long q5), .second, .val (.int p6), .val (.long xa), .second, .val (.long xb), .second, .val (.long xc), .second, .val (.long xd), .second, .val (.long xe), .second, .val (.int k1), .val (.int k2), .val (.long r1), .second, .val (.long r2), .second, .val (.ref s1), .val (.int ra), .val (.int rb), .val (.int rc), .val (.int rd), .val (.int re), .val (.int g1), .val (.int g2), .val (.int eb), .unset, .unset, .unset] [(.int (0 : Int32))])) _
    refine XS.istore X0.here hx rfl (hb hby at_213) rfl (l' := #[.val (.long q1), .second, .val (.long q2), .second, .val (.long q3), .second, .val (.long q4), .second, .val (.long q5), .second, .val (.int p6), .val (.long xa), .second, .val (.long xb), .second, .val (.long xc), .second, .val (.long xd), .second, .val (.long xe), .second, .val (.int k1), .val (.int k2), .val (.long r1), .second, .val (.long r2), .second, .val (.ref s1), .val (.int ra), .val (.int rb), .val (.int rc), .val (.int rd), .val (.int re), .val (.int g1), .val (.int g2), .val (.int eb), .val (.int (0 : Int32)), .unset, .unset]) rfl ?_
    exact kt
  have hv : ec = (1 : Int32) := by rw [hr, if_neg (by simp [h0, h1])]
  rw [hv] at kt
  show Steps p.tables e below (T0.setTop (mkF m 192 #[.val (.long q1), .second, .val (.long q2), .second, .val (.long q3), .second, .val (.long q4), .second, .val (.long q5), .second, .val (.int p6), .val (.long xa), .second, .val (.long xb), .second, .val (.long xc), .second, .val (.long xd), .second, .val (.long xe), .second, .val (.int k1), .val (.int k2), .val (.long r1), .second, .val (.long r2), .second, .val (.ref s1), .val (.int ra), .val (.int rb), .val (.int rc), .val (.int rd), .val (.int re), .val (.int g1), .val (.int g2), .val (.int eb), .unset, .unset, .unset] [])) _
  refine XS.lload X0.here hx rfl (hb hby at_192) rfl ?_
  show Steps p.tables e below (T0.setTop (mkF m 194 #[.val (.long q1), .second, .val (.long q2), .second, .val (.long q3), .second, .val (.long q4), .second, .val (.long q5), .second, .val (.int p6), .val (.long xa), .second, .val (.long xb), .second, .val (.long xc), .second, .val (.long xd), .second, .val (.long xe), .second, .val (.int k1), .val (.int k2), .val (.long r1), .second, .val (.long r2), .second, .val (.ref s1), .val (.int ra), .val (.int rb), .val (.int rc), .val (.int rd), .val (.int re), .val (.int g1), .val (.int g2), .val (.int eb), .unset, .unset, .unset] [(.long xc)])) _
  refine XS.lload X0.here hx rfl (hb hby at_194) rfl ?_
  show Steps p.tables e below (T0.setTop (mkF m 196 #[.val (.long q1), .second, .val (.long q2), .second, .val (.long q3), .second, .val (.long q4), .second, .val (.long q5), .second, .val (.int p6), .val (.long xa), .second, .val (.long xb), .second, .val (.long xc), .second, .val (.long xd), .second, .val (.long xe), .second, .val (.int k1), .val (.int k2), .val (.long r1), .second, .val (.long r2), .second, .val (.ref s1), .val (.int ra), .val (.int rb), .val (.int rc), .val (.int rd), .val (.int re), .val (.int g1), .val (.int g2), .val (.int eb), .unset, .unset, .unset] [(.long xa), (.long xc)])) _
  refine XS.lcmp X0.here hx rfl (hb hby at_196) rfl ?_
  show Steps p.tables e below (T0.setTop (mkF m 197 #[.val (.long q1), .second, .val (.long q2), .second, .val (.long q3), .second, .val (.long q4), .second, .val (.long q5), .second, .val (.int p6), .val (.long xa), .second, .val (.long xb), .second, .val (.long xc), .second, .val (.long xd), .second, .val (.long xe), .second, .val (.int k1), .val (.int k2), .val (.long r1), .second, .val (.long r2), .second, .val (.ref s1), .val (.int ra), .val (.int rb), .val (.int rc), .val (.int rd), .val (.int re), .val (.int g1), .val (.int g2), .val (.int eb), .unset, .unset, .unset] [(.int (lcmpW xc xa))])) _
  refine XS.ifNo X0.here hx rfl (hb hby at_197) rfl ((if0 _ _).trans (feq (fun z => h0 ((lw_eq _ _).mp z))).1) ?_
  show Steps p.tables e below (T0.setTop (mkF m 200 #[.val (.long q1), .second, .val (.long q2), .second, .val (.long q3), .second, .val (.long q4), .second, .val (.long q5), .second, .val (.int p6), .val (.long xa), .second, .val (.long xb), .second, .val (.long xc), .second, .val (.long xd), .second, .val (.long xe), .second, .val (.int k1), .val (.int k2), .val (.long r1), .second, .val (.long r2), .second, .val (.ref s1), .val (.int ra), .val (.int rb), .val (.int rc), .val (.int rd), .val (.int re), .val (.int g1), .val (.int g2), .val (.int eb), .unset, .unset, .unset] [])) _
  refine XS.lload X0.here hx rfl (hb hby at_200) rfl ?_
  show Steps p.tables e below (T0.setTop (mkF m 202 #[.val (.long q1), .second, .val (.long q2), .second, .val (.long q3), .second, .val (.long q4), .second, .val (.long q5), .second, .val (.int p6), .val (.long xa), .second, .val (.long xb), .second, .val (.long xc), .second, .val (.long xd), .second, .val (.long xe), .second, .val (.int k1), .val (.int k2), .val (.long r1), .second, .val (.long r2), .second, .val (.ref s1), .val (.int ra), .val (.int rb), .val (.int rc), .val (.int rd), .val (.int re), .val (.int g1), .val (.int g2), .val (.int eb), .unset, .unset, .unset] [(.long xc)])) _
  refine XS.lload X0.here hx rfl (hb hby at_202) rfl ?_
  show Steps p.tables e below (T0.setTop (mkF m 204 #[.val (.long q1), .second, .val (.long q2), .second, .val (.long q3), .second, .val (.long q4), .second, .val (.long q5), .second, .val (.int p6), .val (.long xa), .second, .val (.long xb), .second, .val (.long xc), .second, .val (.long xd), .second, .val (.long xe), .second, .val (.int k1), .val (.int k2), .val (.long r1), .second, .val (.long r2), .second, .val (.ref s1), .val (.int ra), .val (.int rb), .val (.int rc), .val (.int rd), .val (.int re), .val (.int g1), .val (.int g2), .val (.int eb), .unset, .unset, .unset] [(.long xb), (.long xc)])) _
  refine XS.lcmp X0.here hx rfl (hb hby at_204) rfl ?_
  show Steps p.tables e below (T0.setTop (mkF m 205 #[.val (.long q1), .second, .val (.long q2), .second, .val (.long q3), .second, .val (.long q4), .second, .val (.long q5), .second, .val (.int p6), .val (.long xa), .second, .val (.long xb), .second, .val (.long xc), .second, .val (.long xd), .second, .val (.long xe), .second, .val (.int k1), .val (.int k2), .val (.long r1), .second, .val (.long r2), .second, .val (.ref s1), .val (.int ra), .val (.int rb), .val (.int rc), .val (.int rd), .val (.int re), .val (.int g1), .val (.int g2), .val (.int eb), .unset, .unset, .unset] [(.int (lcmpW xc xb))])) _
  refine XS.ifNo X0.here hx rfl (hb hby at_205) rfl ((if0 _ _).trans (feq (fun z => h1 ((lw_eq _ _).mp z))).1) ?_
  show Steps p.tables e below (T0.setTop (mkF m 208 #[.val (.long q1), .second, .val (.long q2), .second, .val (.long q3), .second, .val (.long q4), .second, .val (.long q5), .second, .val (.int p6), .val (.long xa), .second, .val (.long xb), .second, .val (.long xc), .second, .val (.long xd), .second, .val (.long xe), .second, .val (.int k1), .val (.int k2), .val (.long r1), .second, .val (.long r2), .second, .val (.ref s1), .val (.int ra), .val (.int rb), .val (.int rc), .val (.int rd), .val (.int re), .val (.int g1), .val (.int g2), .val (.int eb), .unset, .unset, .unset] [])) _
  refine XS.iconst X0.here hx rfl (hb hby at_208) ?_
  show Steps p.tables e below (T0.setTop (mkF m 209 #[.val (.long q1), .second, .val (.long q2), .second, .val (.long q3), .second, .val (.long q4), .second, .val (.long q5), .second, .val (.int p6), .val (.long xa), .second, .val (.long xb), .second, .val (.long xc), .second, .val (.long xd), .second, .val (.long xe), .second, .val (.int k1), .val (.int k2), .val (.long r1), .second, .val (.long r2), .second, .val (.ref s1), .val (.int ra), .val (.int rb), .val (.int rc), .val (.int rd), .val (.int re), .val (.int g1), .val (.int g2), .val (.int eb), .unset, .unset, .unset] [(.int (1 : Int32))])) _
  refine XS.goto X0.here hx rfl (pc0 := 209) (pc' := 213) rfl (hb hby at_209) (by decide) (by decide) ?_
  show Steps p.tables e below (T0.setTop (mkF m 213 #[.val (.long q1), .second, .val (.long q2), .second, .val (.long q3), .second, .val (.long q4), .second, .val (.long q5), .second, .val (.int p6), .val (.long xa), .second, .val (.long xb), .second, .val (.long xc), .second, .val (.long xd), .second, .val (.long xe), .second, .val (.int k1), .val (.int k2), .val (.long r1), .second, .val (.long r2), .second, .val (.ref s1), .val (.int ra), .val (.int rb), .val (.int rc), .val (.int rd), .val (.int re), .val (.int g1), .val (.int g2), .val (.int eb), .unset, .unset, .unset] [(.int (1 : Int32))])) _
  refine XS.istore X0.here hx rfl (hb hby at_213) rfl (l' := #[.val (.long q1), .second, .val (.long q2), .second, .val (.long q3), .second, .val (.long q4), .second, .val (.long q5), .second, .val (.int p6), .val (.long xa), .second, .val (.long xb), .second, .val (.long xc), .second, .val (.long xd), .second, .val (.long xe), .second, .val (.int k1), .val (.int k2), .val (.long r1), .second, .val (.long r2), .second, .val (.ref s1), .val (.int ra), .val (.int rb), .val (.int rc), .val (.int rd), .val (.int re), .val (.int g1), .val (.int g2), .val (.int eb), .val (.int (1 : Int32)), .unset, .unset]) rfl ?_
  exact kt
set_option maxRecDepth 65536 in
set_option maxHeartbeats 40000000 in
theorem seg_ed {p : Program} {l : Launch} {e : Env} {R : Room} {s : State} {m : MethodId} {args : Array Value} {below : List Frame} {meth : Method} {c : Code} {T0 : State} {locs : List Loc} {cells slots : Nat} (q1 q2 q3 q4 q5 : Int64) (p6 : Int32) (xa xb xc xd xe : Int64) (k1 k2 : Int32) (r1 r2 : Int64) (s1 : Addr) (ra rb rc rd re g1 g2 eb ec ed ee : Int32)
    (X0 : Stand p l e R s m args below meth c T0 locs cells slots) (hx : p.tables.exec = Jvm.exec) (hby : c.code = code) (hr : ed = if xd ∈ [xc, xb, xa] then 0 else 1) : ∀ target, Steps p.tables e below (T0.setTop (mkF m 246 #[.val (.long q1), .second, .val (.long q2), .second, .val (.long q3), .second, .val (.long q4), .second, .val (.long q5), .second, .val (.int p6), .val (.long xa), .second, .val (.long xb), .second, .val (.long xc), .second, .val (.long xd), .second, .val (.long xe), .second, .val (.int k1), .val (.int k2), .val (.long r1), .second, .val (.long r2), .second, .val (.ref s1), .val (.int ra), .val (.int rb), .val (.int rc), .val (.int rd), .val (.int re), .val (.int g1), .val (.int g2), .val (.int eb), .val (.int ec), .val (.int ed), .unset] [])) target → Steps p.tables e below (T0.setTop (mkF m 215 #[.val (.long q1), .second, .val (.long q2), .second, .val (.long q3), .second, .val (.long q4), .second, .val (.long q5), .second, .val (.int p6), .val (.long xa), .second, .val (.long xb), .second, .val (.long xc), .second, .val (.long xd), .second, .val (.long xe), .second, .val (.int k1), .val (.int k2), .val (.long r1), .second, .val (.long r2), .second, .val (.ref s1), .val (.int ra), .val (.int rb), .val (.int rc), .val (.int rd), .val (.int re), .val (.int g1), .val (.int g2), .val (.int eb), .val (.int ec), .unset, .unset] [])) target := by
  intro target kt
  by_cases h0 : xd = xa
  · have hv : ed = (0 : Int32) := by rw [hr, if_pos (by simp [h0])]
    rw [hv] at kt
    show Steps p.tables e below (T0.setTop (mkF m 215 #[.val (.long q1), .second, .val (.long q2), .second, .val (.long q3), .second, .val (.long q4), .second, .val (.long q5), .second, .val (.int p6), .val (.long xa), .second, .val (.long xb), .second, .val (.long xc), .second, .val (.long xd), .second, .val (.long xe), .second, .val (.int k1), .val (.int k2), .val (.long r1), .second, .val (.long r2), .second, .val (.ref s1), .val (.int ra), .val (.int rb), .val (.int rc), .val (.int rd), .val (.int re), .val (.int g1), .val (.int g2), .val (.int eb), .val (.int ec), .unset, .unset] [])) _
    refine XS.lload X0.here hx rfl (hb hby at_215) rfl ?_
    show Steps p.tables e below (T0.setTop (mkF m 217 #[.val (.long q1), .second, .val (.long q2), .second, .val (.long q3), .second, .val (.long q4), .second, .val (.long q5), .second, .val (.int p6), .val (.long xa), .second, .val (.long xb), .second, .val (.long xc), .second, .val (.long xd), .second, .val (.long xe), .second, .val (.int k1), .val (.int k2), .val (.long r1), .second, .val (.long r2), .second, .val (.ref s1), .val (.int ra), .val (.int rb), .val (.int rc), .val (.int rd), .val (.int re), .val (.int g1), .val (.int g2), .val (.int eb), .val (.int ec), .unset, .unset] [(.long xd)])) _
    refine XS.lload X0.here hx rfl (hb hby at_217) rfl ?_
    show Steps p.tables e below (T0.setTop (mkF m 219 #[.val (.long q1), .second, .val (.long q2), .second, .val (.long q3), .second, .val (.long q4), .second, .val (.long q5), .second, .val (.int p6), .val (.long xa), .second, .val (.long xb), .second, .val (.long xc), .second, .val (.long xd), .second, .val (.long xe), .second, .val (.int k1), .val (.int k2), .val (.long r1), .second, .val (.long r2), .second, .val (.ref s1), .val (.int ra), .val (.int rb), .val (.int rc), .val (.int rd), .val (.int re), .val (.int g1), .val (.int g2), .val (.int eb), .val (.int ec), .unset, .unset] [(.long xa), (.long xd)])) _
    refine XS.lcmp X0.here hx rfl (hb hby at_219) rfl ?_
    show Steps p.tables e below (T0.setTop (mkF m 220 #[.val (.long q1), .second, .val (.long q2), .second, .val (.long q3), .second, .val (.long q4), .second, .val (.long q5), .second, .val (.int p6), .val (.long xa), .second, .val (.long xb), .second, .val (.long xc), .second, .val (.long xd), .second, .val (.long xe), .second, .val (.int k1), .val (.int k2), .val (.long r1), .second, .val (.long r2), .second, .val (.ref s1), .val (.int ra), .val (.int rb), .val (.int rc), .val (.int rd), .val (.int re), .val (.int g1), .val (.int g2), .val (.int eb), .val (.int ec), .unset, .unset] [(.int (lcmpW xd xa))])) _
    refine XS.ifYes X0.here hx rfl (pc0 := 220) (pc' := 243) rfl (hb hby at_220) rfl ((if0 _ _).trans (teq ((lw_eq _ _).mpr h0)).1) (by decide) (by decide) ?_
    show Steps p.tables e below (T0.setTop (mkF m 243 #[.val (.long q1), .second, .val (.long q2), .second, .val (.long q3), .second, .val (.long q4), .second, .val (.long q5), .second, .val (.int p6), .val (.long xa), .second, .val (.long xb), .second, .val (.long xc), .second, .val (.long xd), .second, .val (.long xe), .second, .val (.int k1), .val (.int k2), .val (.long r1), .second, .val (.long r2), .second, .val (.ref s1), .val (.int ra), .val (.int rb), .val (.int rc), .val (.int rd), .val (.int re), .val (.int g1), .val (.int g2), .val (.int eb), .val (.int ec), .unset, .unset] [])) _
    refine XS.iconst X0.here hx rfl (hb hby at_243) ?_
    show Steps p.tables e below (T0.setTop (mkF m 244 #[.val (.long q1), .second, .val (.long q2), .second, .val (.long q3), .second, .val (.long q4), .second, .val (.long q5), .second, .val (.int p6), .val (.long xa), .second, .val (.long xb), .second, .val (.long xc), .second, .val (.long xd), .second, .val (.long xe), .second, .val (.int k1), .val (.int k2), .val (.long r1), .second, .val (.long r2), .second, .val (.ref s1), .val (.int ra), .val (.int rb), .val (.int rc), .val (.int rd), .val (.int re), .val (.int g1), .val (.int g2), .val (.int eb), .val (.int ec), .unset, .unset] [(.int (0 : Int32))])) _
    refine XS.istore X0.here hx rfl (hb hby at_244) rfl (l' := #[.val (.long q1), .second, .val (.long q2), .second, .val (.long q3), .second, .val (.long q4), .second, .val (.long q5), .second, .val (.int p6), .val (.long xa), .second, .val (.long xb), .second, .val (.long xc), .second, .val (.long xd), .second, .val (.long xe), .second, .val (.int k1), .val (.int k2), .val (.long r1), .second, .val (.long r2), .second, .val (.ref s1), .val (.int ra), .val (.int rb), .val (.int rc), .val (.int rd), .val (.int re), .val (.int g1), .val (.int g2), .val (.int eb), .val (.int ec), .val (.int (0 : Int32)), .unset]) rfl ?_
    exact kt
  by_cases h1 : xd = xb
  · have hv : ed = (0 : Int32) := by rw [hr, if_pos (by simp [h1])]
    rw [hv] at kt
    show Steps p.tables e below (T0.setTop (mkF m 215 #[.val (.long q1), .second, .val (.long q2), .second, .val (.long q3), .second, .val (.long q4), .second, .val (.long q5), .second, .val (.int p6), .val (.long xa), .second, .val (.long xb), .second, .val (.long xc), .second, .val (.long xd), .second, .val (.long xe), .second, .val (.int k1), .val (.int k2), .val (.long r1), .second, .val (.long r2), .second, .val (.ref s1), .val (.int ra), .val (.int rb), .val (.int rc), .val (.int rd), .val (.int re), .val (.int g1), .val (.int g2), .val (.int eb), .val (.int ec), .unset, .unset] [])) _
    refine XS.lload X0.here hx rfl (hb hby at_215) rfl ?_
    show Steps p.tables e below (T0.setTop (mkF m 217 #[.val (.long q1), .second, .val (.long q2), .second, .val (.long q3), .second, .val (.long q4), .second, .val (.long q5), .second, .val (.int p6), .val (.long xa), .second, .val (.long xb), .second, .val (.long xc), .second, .val (.long xd), .second, .val (.long xe), .second, .val (.int k1), .val (.int k2), .val (.long r1), .second, .val (.long r2), .second, .val (.ref s1), .val (.int ra), .val (.int rb), .val (.int rc), .val (.int rd), .val (.int re), .val (.int g1), .val (.int g2), .val (.int eb), .val (.int ec), .unset, .unset] [(.long xd)])) _
    refine XS.lload X0.here hx rfl (hb hby at_217) rfl ?_
    show Steps p.tables e below (T0.setTop (mkF m 219 #[.val (.long q1), .second, .val (.long q2), .second, .val (.long q3), .second, .val (.long q4), .second, .val (.long q5), .second, .val (.int p6), .val (.long xa), .second, .val (.long xb), .second, .val (.long xc), .second, .val (.long xd), .second, .val (.long xe), .second, .val (.int k1), .val (.int k2), .val (.long r1), .second, .val (.long r2), .second, .val (.ref s1), .val (.int ra), .val (.int rb), .val (.int rc), .val (.int rd), .val (.int re), .val (.int g1), .val (.int g2), .val (.int eb), .val (.int ec), .unset, .unset] [(.long xa), (.long xd)])) _
    refine XS.lcmp X0.here hx rfl (hb hby at_219) rfl ?_
    show Steps p.tables e below (T0.setTop (mkF m 220 #[.val (.long q1), .second, .val (.long q2), .second, .val (.long q3), .second, .val (.long q4), .second, .val (.long q5), .second, .val (.int p6), .val (.long xa), .second, .val (.long xb), .second, .val (.long xc), .second, .val (.long xd), .second, .val (.long xe), .second, .val (.int k1), .val (.int k2), .val (.long r1), .second, .val (.long r2), .second, .val (.ref s1), .val (.int ra), .val (.int rb), .val (.int rc), .val (.int rd), .val (.int re), .val (.int g1), .val (.int g2), .val (.int eb), .val (.int ec), .unset, .unset] [(.int (lcmpW xd xa))])) _
    refine XS.ifNo X0.here hx rfl (hb hby at_220) rfl ((if0 _ _).trans (feq (fun z => h0 ((lw_eq _ _).mp z))).1) ?_
    show Steps p.tables e below (T0.setTop (mkF m 223 #[.val (.long q1), .second, .val (.long q2), .second, .val (.long q3), .second, .val (.long q4), .second, .val (.long q5), .second, .val (.int p6), .val (.long xa), .second, .val (.long xb), .second, .val (.long xc), .second, .val (.long xd), .second, .val (.long xe), .second, .val (.int k1), .val (.int k2), .val (.long r1), .second, .val (.long r2), .second, .val (.ref s1), .val (.int ra), .val (.int rb), .val (.int rc), .val (.int rd), .val (.int re), .val (.int g1), .val (.int g2), .val (.int eb), .val (.int ec), .unset, .unset] [])) _
    refine XS.lload X0.here hx rfl (hb hby at_223) rfl ?_
    show Steps p.tables e below (T0.setTop (mkF m 225 #[.val (.long q1), .second, .val (.long q2), .second, .val (.long q3), .second, .val (.long q4), .second, .val (.long q5), .second, .val (.int p6), .val (.long xa), .second, .val (.long xb), .second, .val (.long xc), .second, .val (.long xd), .second, .val (.long xe), .second, .val (.int k1), .val (.int k2), .val (.long r1), .second, .val (.long r2), .second, .val (.ref s1), .val (.int ra), .val (.int rb), .val (.int rc), .val (.int rd), .val (.int re), .val (.int g1), .val (.int g2), .val (.int eb), .val (.int ec), .unset, .unset] [(.long xd)])) _
    refine XS.lload X0.here hx rfl (hb hby at_225) rfl ?_
    show Steps p.tables e below (T0.setTop (mkF m 227 #[.val (.long q1), .second, .val (.long q2), .second, .val (.long q3), .second, .val (.long q4), .second, .val (.long q5), .second, .val (.int p6), .val (.long xa), .second, .val (.long xb), .second, .val (.long xc), .second, .val (.long xd), .second, .val (.long xe), .second, .val (.int k1), .val (.int k2), .val (.long r1), .second, .val (.long r2), .second, .val (.ref s1), .val (.int ra), .val (.int rb), .val (.int rc), .val (.int rd), .val (.int re), .val (.int g1), .val (.int g2), .val (.int eb), .val (.int ec), .unset, .unset] [(.long xb), (.long xd)])) _
    refine XS.lcmp X0.here hx rfl (hb hby at_227) rfl ?_
    show Steps p.tables e below (T0.setTop (mkF m 228 #[.val (.long q1), .second, .val (.long q2), .second, .val (.long q3), .second, .val (.long q4), .second, .val (.long q5), .second, .val (.int p6), .val (.long xa), .second, .val (.long xb), .second, .val (.long xc), .second, .val (.long xd), .second, .val (.long xe), .second, .val (.int k1), .val (.int k2), .val (.long r1), .second, .val (.long r2), .second, .val (.ref s1), .val (.int ra), .val (.int rb), .val (.int rc), .val (.int rd), .val (.int re), .val (.int g1), .val (.int g2), .val (.int eb), .val (.int ec), .unset, .unset] [(.int (lcmpW xd xb))])) _
    refine XS.ifYes X0.here hx rfl (pc0 := 228) (pc' := 243) rfl (hb hby at_228) rfl ((if0 _ _).trans (teq ((lw_eq _ _).mpr h1)).1) (by decide) (by decide) ?_
    show Steps p.tables e below (T0.setTop (mkF m 243 #[.val (.long q1), .second, .val (.long q2), .second, .val (.long q3), .second, .val (.long q4), .second, .val (.long q5), .second, .val (.int p6), .val (.long xa), .second, .val (.long xb), .second, .val (.long xc), .second, .val (.long xd), .second, .val (.long xe), .second, .val (.int k1), .val (.int k2), .val (.long r1), .second, .val (.long r2), .second, .val (.ref s1), .val (.int ra), .val (.int rb), .val (.int rc), .val (.int rd), .val (.int re), .val (.int g1), .val (.int g2), .val (.int eb), .val (.int ec), .unset, .unset] [])) _
    refine XS.iconst X0.here hx rfl (hb hby at_243) ?_
    show Steps p.tables e below (T0.setTop (mkF m 244 #[.val (.long q1), .second, .val (.long q2), .second, .val (.long q3), .second, .val (.long q4), .second, .val (.long q5), .second, .val (.int p6), .val (.long xa), .second, .val (.long xb), .second, .val (.long xc), .second, .val (.long xd), .second, .val (.long xe), .second, .val (.int k1), .val (.int k2), .val (.long r1), .second, .val (.long r2), .second, .val (.ref s1), .val (.int ra), .val (.int rb), .val (.int rc), .val (.int rd), .val (.int re), .val (.int g1), .val (.int g2), .val (.int eb), .val (.int ec), .unset, .unset] [(.int (0 : Int32))])) _
    refine XS.istore X0.here hx rfl (hb hby at_244) rfl (l' := #[.val (.long q1), .second, .val (.long q2), .second, .val (.long q3), .second, .val (.long q4), .second, .val (.long q5), .second, .val (.int p6), .val (.long xa), .second, .val (.long xb), .second, .val (.long xc), .second, .val (.long xd), .second, .val (.long xe), .second, .val (.int k1), .val (.int k2), .val (.long r1), .second, .val (.long r2), .second, .val (.ref s1), .val (.int ra), .val (.int rb), .val (.int rc), .val (.int rd), .val (.int re), .val (.int g1), .val (.int g2), .val (.int eb), .val (.int ec), .val (.int (0 : Int32)), .unset]) rfl ?_
    exact kt
  by_cases h2 : xd = xc
  · have hv : ed = (0 : Int32) := by rw [hr, if_pos (by simp [h2])]
    rw [hv] at kt
    show Steps p.tables e below (T0.setTop (mkF m 215 #[.val (.long q1), .second, .val (.long q2), .second, .val (.long q3), .second, .val (.long q4), .second, .val (.long q5), .second, .val (.int p6), .val (.long xa), .second, .val (.long xb), .second, .val (.long xc), .second, .val (.long xd), .second, .val (.long xe), .second, .val (.int k1), .val (.int k2), .val (.long r1), .second, .val (.long r2), .second, .val (.ref s1), .val (.int ra), .val (.int rb), .val (.int rc), .val (.int rd), .val (.int re), .val (.int g1), .val (.int g2), .val (.int eb), .val (.int ec), .unset, .unset] [])) _
    refine XS.lload X0.here hx rfl (hb hby at_215) rfl ?_
    show Steps p.tables e below (T0.setTop (mkF m 217 #[.val (.long q1), .second, .val (.long q2), .second, .val (.long q3), .second, .val (.long q4), .second, .val (.long q5), .second, .val (.int p6), .val (.long xa), .second, .val (.long xb), .second, .val (.long xc), .second, .val (.long xd), .second, .val (.long xe), .second, .val (.int k1), .val (.int k2), .val (.long r1), .second, .val (.long r2), .second, .val (.ref s1), .val (.int ra), .val (.int rb), .val (.int rc), .val (.int rd), .val (.int re), .val (.int g1), .val (.int g2), .val (.int eb), .val (.int ec), .unset, .unset] [(.long xd)])) _
    refine XS.lload X0.here hx rfl (hb hby at_217) rfl ?_
    show Steps p.tables e below (T0.setTop (mkF m 219 #[.val (.long q1), .second, .val (.long q2), .second, .val (.long q3), .second, .val (.long q4), .second, .val (.long q5), .second, .val (.int p6), .val (.long xa), .second, .val (.long xb), .second, .val (.long xc), .second, .val (.long xd), .second, .val (.long xe), .second, .val (.int k1), .val (.int k2), .val (.long r1), .second, .val (.long r2), .second, .val (.ref s1), .val (.int ra), .val (.int rb), .val (.int rc), .val (.int rd), .val (.int re), .val (.int g1), .val (.int g2), .val (.int eb), .val (.int ec), .unset, .unset] [(.long xa), (.long xd)])) _
    refine XS.lcmp X0.here hx rfl (hb hby at_219) rfl ?_
    show Steps p.tables e below (T0.setTop (mkF m 220 #[.val (.long q1), .second, .val (.long q2), .second, .val (.long q3), .second, .val (.long q4), .second, .val (.long q5), .second, .val (.int p6), .val (.long xa), .second, .val (.long xb), .second, .val (.long xc), .second, .val (.long xd), .second, .val (.long xe), .second, .val (.int k1), .val (.int k2), .val (.long r1), .second, .val (.long r2), .second, .val (.ref s1), .val (.int ra), .val (.int rb), .val (.int rc), .val (.int rd), .val (.int re), .val (.int g1), .val (.int g2), .val (.int eb), .val (.int ec), .unset, .unset] [(.int (lcmpW xd xa))])) _
    refine XS.ifNo X0.here hx rfl (hb hby at_220) rfl ((if0 _ _).trans (feq (fun z => h0 ((lw_eq _ _).mp z))).1) ?_
    show Steps p.tables e below (T0.setTop (mkF m 223 #[.val (.long q1), .second, .val (.long q2), .second, .val (.long q3), .second, .val (.long q4), .second, .val (.long q5), .second, .val (.int p6), .val (.long xa), .second, .val (.long xb), .second, .val (.long xc), .second, .val (.long xd), .second, .val (.long xe), .second, .val (.int k1), .val (.int k2), .val (.long r1), .second, .val (.long r2), .second, .val (.ref s1), .val (.int ra), .val (.int rb), .val (.int rc), .val (.int rd), .val (.int re), .val (.int g1), .val (.int g2), .val (.int eb), .val (.int ec), .unset, .unset] [])) _
    refine XS.lload X0.here hx rfl (hb hby at_223) rfl ?_
    show Steps p.tables e below (T0.setTop (mkF m 225 #[.val (.long q1), .second, .val (.long q2), .second, .val (.long q3), .second, .val (.long q4), .second, .val (.long q5), .second, .val (.int p6), .val (.long xa), .second, .val (.long xb), .second, .val (.long xc), .second, .val (.long xd), .second, .val (.long xe), .second, .val (.int k1), .val (.int k2), .val (.long r1), .second, .val (.long r2), .second, .val (.ref s1), .val (.int ra), .val (.int rb), .val (.int rc), .val (.int rd), .val (.int re), .val (.int g1), .val (.int g2), .val (.int eb), .val (.int ec), .unset, .unset] [(.long xd)])) _
    refine XS.lload X0.here hx rfl (hb hby at_225) rfl ?_
    show Steps p.tables e below (T0.setTop (mkF m 227 #[.val (.long q1), .second, .val (.long q2), .second, .val (.long q3), .second, .val (.long q4), .second, .val (.long q5), .second, .val (.int p6), .val (.long xa), .second, .val (.long xb), .second, .val (.long xc), .second, .val (.long xd), .second, .val (.long xe), .second, .val (.int k1), .val (.int k2), .val (.long r1), .second, .val (.long r2), .second, .val (.ref s1), .val (.int ra), .val (.int rb), .val (.int rc), .val (.int rd), .val (.int re), .val (.int g1), .val (.int g2), .val (.int eb), .val (.int ec), .unset, .unset] [(.long xb), (.long xd)])) _
    refine XS.lcmp X0.here hx rfl (hb hby at_227) rfl ?_
    show Steps p.tables e below (T0.setTop (mkF m 228 #[.val (.long q1), .second, .val (.long q2), .second, .val (.long q3), .second, .val (.long q4), .second, .val (.long q5), .second, .val (.int p6), .val (.long xa), .second, .val (.long xb), .second, .val (.long xc), .second, .val (.long xd), .second, .val (.long xe), .second, .val (.int k1), .val (.int k2), .val (.long r1), .second, .val (.long r2), .second, .val (.ref s1), .val (.int ra), .val (.int rb), .val (.int rc), .val (.int rd), .val (.int re), .val (.int g1), .val (.int g2), .val (.int eb), .val (.int ec), .unset, .unset] [(.int (lcmpW xd xb))])) _
    refine XS.ifNo X0.here hx rfl (hb hby at_228) rfl ((if0 _ _).trans (feq (fun z => h1 ((lw_eq _ _).mp z))).1) ?_
    show Steps p.tables e below (T0.setTop (mkF m 231 #[.val (.long q1), .second, .val (.long q2), .second, .val (.long q3), .second, .val (.long q4), .second, .val (.long q5), .second, .val (.int p6), .val (.long xa), .second, .val (.long xb), .second, .val (.long xc), .second, .val (.long xd), .second, .val (.long xe), .second, .val (.int k1), .val (.int k2), .val (.long r1), .second, .val (.long r2), .second, .val (.ref s1), .val (.int ra), .val (.int rb), .val (.int rc), .val (.int rd), .val (.int re), .val (.int g1), .val (.int g2), .val (.int eb), .val (.int ec), .unset, .unset] [])) _
    refine XS.lload X0.here hx rfl (hb hby at_231) rfl ?_
    show Steps p.tables e below (T0.setTop (mkF m 233 #[.val (.long q1), .second, .val (.long q2), .second, .val (.long q3), .second, .val (.long q4), .second, .val (.long q5), .second, .val (.int p6), .val (.long xa), .second, .val (.long xb), .second, .val (.long xc), .second, .val (.long xd), .second, .val (.long xe), .second, .val (.int k1), .val (.int k2), .val (.long r1), .second, .val (.long r2), .second, .val (.ref s1), .val (.int ra), .val (.int rb), .val (.int rc), .val (.int rd), .val (.int re), .val (.int g1), .val (.int g2), .val (.int eb), .val (.int ec), .unset, .unset] [(.long xd)])) _
    refine XS.lload X0.here hx rfl (hb hby at_233) rfl ?_
    show Steps p.tables e below (T0.setTop (mkF m 235 #[.val (.long q1), .second, .val (.long q2), .second, .val (.long q3), .second, .val (.long q4), .second, .val (.long q5), .second, .val (.int p6), .val (.long xa), .second, .val (.long xb), .second, .val (.long xc), .second, .val (.long xd), .second, .val (.long xe), .second, .val (.int k1), .val (.int k2), .val (.long r1), .second, .val (.long r2), .second, .val (.ref s1), .val (.int ra), .val (.int rb), .val (.int rc), .val (.int rd), .val (.int re), .val (.int g1), .val (.int g2), .val (.int eb), .val (.int ec), .unset, .unset] [(.long xc), (.long xd)])) _
    refine XS.lcmp X0.here hx rfl (hb hby at_235) rfl ?_
    show Steps p.tables e below (T0.setTop (mkF m 236 #[.val (.long q1), .second, .val (.long q2), .second, .val (.long q3), .second, .val (.long q4), .second, .val (.long q5), .second, .val (.int p6), .val (.long xa), .second, .val (.long xb), .second, .val (.long xc), .second, .val (.long xd), .second, .val (.long xe), .second, .val (.int k1), .val (.int k2), .val (.long r1), .second, .val (.long r2), .second, .val (.ref s1), .val (.int ra), .val (.int rb), .val (.int rc), .val (.int rd), .val (.int re), .val (.int g1), .val (.int g2), .val (.int eb), .val (.int ec), .unset, .unset] [(.int (lcmpW xd xc))])) _
    refine XS.ifYes X0.here hx rfl (pc0 := 236) (pc' := 243) rfl (hb hby at_236) rfl ((if0 _ _).trans (teq ((lw_eq _ _).mpr h2)).1) (by decide) (by decide) ?_
    show Steps p.tables e below (T0.setTop (mkF m 243 #[.val (.long q1), .second, .val (.long q2), .second, .val (.long q3), .second, .val (.long q4), .second, .val (.long q5), .second, .val (.int p6), .val (.long xa), .second, .val (.long xb), .second, .val (.long xc), .second, .val (.long xd), .second, .val (.long xe), .second, .val (.int k1), .val (.int k2), .val (.long r1), .second, .val (.long r2), .second, .val (.ref s1), .val (.int ra), .val (.int rb), .val (.int rc), .val (.int rd), .val (.int re), .val (.int g1), .val (.int g2), .val (.int eb), .val (.int ec), .unset, .unset] [])) _
    refine XS.iconst X0.here hx rfl (hb hby at_243) ?_
    show Steps p.tables e below (T0.setTop (mkF m 244 #[.val (.long q1), .second, .val (.long q2), .second, .val (.long q3), .second, .val (.long q4), .second, .val (.long q5), .second, .val (.int p6), .val (.long xa), .second, .val (.long xb), .second, .val (.long xc), .second, .val (.long xd), .second, .val (.long xe), .second, .val (.int k1), .val (.int k2), .val (.long r1), .second, .val (.long r2), .second, .val (.ref s1), .val (.int ra), .val (.int rb), .val (.int rc), .val (.int rd), .val (.int re), .val (.int g1), .val (.int g2), .val (.int eb), .val (.int ec), .unset, .unset] [(.int (0 : Int32))])) _
    refine XS.istore X0.here hx rfl (hb hby at_244) rfl (l' := #[.val (.long q1), .second, .val (.long q2), .second, .val (.long q3), .second, .val (.long q4), .second, .val (.long q5), .second, .val (.int p6), .val (.long xa), .second, .val (.long xb), .second, .val (.long xc), .second, .val (.long xd), .second, .val (.long xe), .second, .val (.int k1), .val (.int k2), .val (.long r1), .second, .val (.long r2), .second, .val (.ref s1), .val (.int ra), .val (.int rb), .val (.int rc), .val (.int rd), .val (.int re), .val (.int g1), .val (.int g2), .val (.int eb), .val (.int ec), .val (.int (0 : Int32)), .unset]) rfl ?_
    exact kt
  have hv : ed = (1 : Int32) := by rw [hr, if_neg (by simp [h0, h1, h2])]
  rw [hv] at kt
  show Steps p.tables e below (T0.setTop (mkF m 215 #[.val (.long q1), .second, .val (.long q2), .second, .val (.long q3), .second, .val (.long q4), .second, .val (.long q5), .second, .val (.int p6), .val (.long xa), .second, .val (.long xb), .second, .val (.long xc), .second, .val (.long xd), .second, .val (.long xe), .second, .val (.int k1), .val (.int k2), .val (.long r1), .second, .val (.long r2), .second, .val (.ref s1), .val (.int ra), .val (.int rb), .val (.int rc), .val (.int rd), .val (.int re), .val (.int g1), .val (.int g2), .val (.int eb), .val (.int ec), .unset, .unset] [])) _
  refine XS.lload X0.here hx rfl (hb hby at_215) rfl ?_
  show Steps p.tables e below (T0.setTop (mkF m 217 #[.val (.long q1), .second, .val (.long q2), .second, .val (.long q3), .second, .val (.long q4), .second, .val (.long q5), .second, .val (.int p6), .val (.long xa), .second, .val (.long xb), .second, .val (.long xc), .second, .val (.long xd), .second, .val (.long xe), .second, .val (.int k1), .val (.int k2), .val (.long r1), .second, .val (.long r2), .second, .val (.ref s1), .val (.int ra), .val (.int rb), .val (.int rc), .val (.int rd), .val (.int re), .val (.int g1), .val (.int g2), .val (.int eb), .val (.int ec), .unset, .unset] [(.long xd)])) _
  refine XS.lload X0.here hx rfl (hb hby at_217) rfl ?_
  show Steps p.tables e below (T0.setTop (mkF m 219 #[.val (.long q1), .second, .val (.long q2), .second, .val (.long q3), .second, .val (.long q4), .second, .val (.long q5), .second, .val (.int p6), .val (.long xa), .second, .val (.long xb), .second, .val (.long xc), .second, .val (.long xd), .second, .val (.long xe), .second, .val (.int k1), .val (.int k2), .val (.long r1), .second, .val (.long r2), .second, .val (.ref s1), .val (.int ra), .val (.int rb), .val (.int rc), .val (.int rd), .val (.int re), .val (.int g1), .val (.int g2), .val (.int eb), .val (.int ec), .unset, .unset] [(.long xa), (.long xd)])) _
  refine XS.lcmp X0.here hx rfl (hb hby at_219) rfl ?_
  show Steps p.tables e below (T0.setTop (mkF m 220 #[.val (.long q1), .second, .val (.long q2), .second, .val (.long q3), .second, .val (.long q4), .second, .val (.long q5), .second, .val (.int p6), .val (.long xa), .second, .val (.long xb), .second, .val (.long xc), .second, .val (.long xd), .second, .val (.long xe), .second, .val (.int k1), .val (.int k2), .val (.long r1), .second, .val (.long r2), .second, .val (.ref s1), .val (.int ra), .val (.int rb), .val (.int rc), .val (.int rd), .val (.int re), .val (.int g1), .val (.int g2), .val (.int eb), .val (.int ec), .unset, .unset] [(.int (lcmpW xd xa))])) _
  refine XS.ifNo X0.here hx rfl (hb hby at_220) rfl ((if0 _ _).trans (feq (fun z => h0 ((lw_eq _ _).mp z))).1) ?_
  show Steps p.tables e below (T0.setTop (mkF m 223 #[.val (.long q1), .second, .val (.long q2), .second, .val (.long q3), .second, .val (.long q4), .second, .val (.long q5), .second, .val (.int p6), .val (.long xa), .second, .val (.long xb), .second, .val (.long xc), .second, .val (.long xd), .second, .val (.long xe), .second, .val (.int k1), .val (.int k2), .val (.long r1), .second, .val (.long r2), .second, .val (.ref s1), .val (.int ra), .val (.int rb), .val (.int rc), .val (.int rd), .val (.int re), .val (.int g1), .val (.int g2), .val (.int eb), .val (.int ec), .unset, .unset] [])) _
  refine XS.lload X0.here hx rfl (hb hby at_223) rfl ?_
  show Steps p.tables e below (T0.setTop (mkF m 225 #[.val (.long q1), .second, .val (.long q2), .second, .val (.long q3), .second, .val (.long q4), .second, .val (.long q5), .second, .val (.int p6), .val (.long xa), .second, .val (.long xb), .second, .val (.long xc), .second, .val (.long xd), .second, .val (.long xe), .second, .val (.int k1), .val (.int k2), .val (.long r1), .second, .val (.long r2), .second, .val (.ref s1), .val (.int ra), .val (.int rb), .val (.int rc), .val (.int rd), .val (.int re), .val (.int g1), .val (.int g2), .val (.int eb), .val (.int ec), .unset, .unset] [(.long xd)])) _
  refine XS.lload X0.here hx rfl (hb hby at_225) rfl ?_
  show Steps p.tables e below (T0.setTop (mkF m 227 #[.val (.long q1), .second, .val (.long q2), .second, .val (.long q3), .second, .val (.long q4), .second, .val (.long q5), .second, .val (.int p6), .val (.long xa), .second, .val (.long xb), .second, .val (.long xc), .second, .val (.long xd), .second, .val (.long xe), .second, .val (.int k1), .val (.int k2), .val (.long r1), .second, .val (.long r2), .second, .val (.ref s1), .val (.int ra), .val (.int rb), .val (.int rc), .val (.int rd), .val (.int re), .val (.int g1), .val (.int g2), .val (.int eb), .val (.int ec), .unset, .unset] [(.long xb), (.long xd)])) _
  refine XS.lcmp X0.here hx rfl (hb hby at_227) rfl ?_
  show Steps p.tables e below (T0.setTop (mkF m 228 #[.val (.long q1), .second, .val (.long q2), .second, .val (.long q3), .second, .val (.long q4), .second, .val (.long q5), .second, .val (.int p6), .val (.long xa), .second, .val (.long xb), .second, .val (.long xc), .second, .val (.long xd), .second, .val (.long xe), .second, .val (.int k1), .val (.int k2), .val (.long r1), .second, .val (.long r2), .second, .val (.ref s1), .val (.int ra), .val (.int rb), .val (.int rc), .val (.int rd), .val (.int re), .val (.int g1), .val (.int g2), .val (.int eb), .val (.int ec), .unset, .unset] [(.int (lcmpW xd xb))])) _
  refine XS.ifNo X0.here hx rfl (hb hby at_228) rfl ((if0 _ _).trans (feq (fun z => h1 ((lw_eq _ _).mp z))).1) ?_
  show Steps p.tables e below (T0.setTop (mkF m 231 #[.val (.long q1), .second, .val (.long q2), .second, .val (.long q3), .second, .val (.long q4), .second, .val (.long q5), .second, .val (.int p6), .val (.long xa), .second, .val (.long xb), .second, .val (.long xc), .second, .val (.long xd), .second, .val (.long xe), .second, .val (.int k1), .val (.int k2), .val (.long r1), .second, .val (.long r2), .second, .val (.ref s1), .val (.int ra), .val (.int rb), .val (.int rc), .val (.int rd), .val (.int re), .val (.int g1), .val (.int g2), .val (.int eb), .val (.int ec), .unset, .unset] [])) _
  refine XS.lload X0.here hx rfl (hb hby at_231) rfl ?_
  show Steps p.tables e below (T0.setTop (mkF m 233 #[.val (.long q1), .second, .val (.long q2), .second, .val (.long q3), .second, .val (.long q4), .second, .val (.long q5), .second, .val (.int p6), .val (.long xa), .second, .val (.long xb), .second, .val (.long xc), .second, .val (.long xd), .second, .val (.long xe), .second, .val (.int k1), .val (.int k2), .val (.long r1), .second, .val (.long r2), .second, .val (.ref s1), .val (.int ra), .val (.int rb), .val (.int rc), .val (.int rd), .val (.int re), .val (.int g1), .val (.int g2), .val (.int eb), .val (.int ec), .unset, .unset] [(.long xd)])) _
  refine XS.lload X0.here hx rfl (hb hby at_233) rfl ?_
  show Steps p.tables e below (T0.setTop (mkF m 235 #[.val (.long q1), .second, .val (.long q2), .second, .val (.long q3), .second, .val (.long q4), .second, .val (.long q5), .second, .val (.int p6), .val (.long xa), .second, .val (.long xb), .second, .val (.long xc), .second, .val (.long xd), .second, .val (.long xe), .second, .val (.int k1), .val (.int k2), .val (.long r1), .second, .val (.long r2), .second, .val (.ref s1), .val (.int ra), .val (.int rb), .val (.int rc), .val (.int rd), .val (.int re), .val (.int g1), .val (.int g2), .val (.int eb), .val (.int ec), .unset, .unset] [(.long xc), (.long xd)])) _
  refine XS.lcmp X0.here hx rfl (hb hby at_235) rfl ?_
  show Steps p.tables e below (T0.setTop (mkF m 236 #[.val (.long q1), .second, .val (.long q2), .second, .val (.long q3), .second, .val (.long q4), .second, .val (.long q5), .second, .val (.int p6), .val (.long xa), .second, .val (.long xb), .second, .val (.long xc), .second, .val (.long xd), .second, .val (.long xe), .second, .val (.int k1), .val (.int k2), .val (.long r1), .second, .val (.long r2), .second, .val (.ref s1), .val (.int ra), .val (.int rb), .val (.int rc), .val (.int rd), .val (.int re), .val (.int g1), .val (.int g2), .val (.int eb), .val (.int ec), .unset, .unset] [(.int (lcmpW xd xc))])) _
  refine XS.ifNo X0.here hx rfl (hb hby at_236) rfl ((if0 _ _).trans (feq (fun z => h2 ((lw_eq _ _).mp z))).1) ?_
  show Steps p.tables e below (T0.setTop (mkF m 239 #[.val (.long q1), .second, .val (.long q2), .second, .val (.long q3), .second, .val (.long q4), .second, .val (.long q5), .second, .val (.int p6), .val (.long xa), .second, .val (.long xb), .second, .val (.long xc), .second, .val (.long xd), .second, .val (.long xe), .second, .val (.int k1), .val (.int k2), .val (.long r1), .second, .val (.long r2), .second, .val (.ref s1), .val (.int ra), .val (.int rb), .val (.int rc), .val (.int rd), .val (.int re), .val (.int g1), .val (.int g2), .val (.int eb), .val (.int ec), .unset, .unset] [])) _
  refine XS.iconst X0.here hx rfl (hb hby at_239) ?_
  show Steps p.tables e below (T0.setTop (mkF m 240 #[.val (.long q1), .second, .val (.long q2), .second, .val (.long q3), .second, .val (.long q4), .second, .val (.long q5), .second, .val (.int p6), .val (.long xa), .second, .val (.long xb), .second, .val (.long xc), .second, .val (.long xd), .second, .val (.long xe), .second, .val (.int k1), .val (.int k2), .val (.long r1), .second, .val (.long r2), .second, .val (.ref s1), .val (.int ra), .val (.int rb), .val (.int rc), .val (.int rd), .val (.int re), .val (.int g1), .val (.int g2), .val (.int eb), .val (.int ec), .unset, .unset] [(.int (1 : Int32))])) _
  refine XS.goto X0.here hx rfl (pc0 := 240) (pc' := 244) rfl (hb hby at_240) (by decide) (by decide) ?_
  show Steps p.tables e below (T0.setTop (mkF m 244 #[.val (.long q1), .second, .val (.long q2), .second, .val (.long q3), .second, .val (.long q4), .second, .val (.long q5), .second, .val (.int p6), .val (.long xa), .second, .val (.long xb), .second, .val (.long xc), .second, .val (.long xd), .second, .val (.long xe), .second, .val (.int k1), .val (.int k2), .val (.long r1), .second, .val (.long r2), .second, .val (.ref s1), .val (.int ra), .val (.int rb), .val (.int rc), .val (.int rd), .val (.int re), .val (.int g1), .val (.int g2), .val (.int eb), .val (.int ec), .unset, .unset] [(.int (1 : Int32))])) _
  refine XS.istore X0.here hx rfl (hb hby at_244) rfl (l' := #[.val (.long q1), .second, .val (.long q2), .second, .val (.long q3), .second, .val (.long q4), .second, .val (.long q5), .second, .val (.int p6), .val (.long xa), .second, .val (.long xb), .second, .val (.long xc), .second, .val (.long xd), .second, .val (.long xe), .second, .val (.int k1), .val (.int k2), .val (.long r1), .second, .val (.long r2), .second, .val (.ref s1), .val (.int ra), .val (.int rb), .val (.int rc), .val (.int rd), .val (.int re), .val (.int g1), .val (.int g2), .val (.int eb), .val (.int ec), .val (.int (1 : Int32)), .unset]) rfl ?_
  exact kt
set_option maxRecDepth 65536 in
set_option maxHeartbeats 40000000 in
theorem seg_ee {p : Program} {l : Launch} {e : Env} {R : Room} {s : State} {m : MethodId} {args : Array Value} {below : List Frame} {meth : Method} {c : Code} {T0 : State} {locs : List Loc} {cells slots : Nat} (q1 q2 q3 q4 q5 : Int64) (p6 : Int32) (xa xb xc xd xe : Int64) (k1 k2 : Int32) (r1 r2 : Int64) (s1 : Addr) (ra rb rc rd re g1 g2 eb ec ed ee : Int32)
    (X0 : Stand p l e R s m args below meth c T0 locs cells slots) (hx : p.tables.exec = Jvm.exec) (hby : c.code = code) (hr : ee = if xe ∈ [xd, xc, xb, xa] then 0 else 1) : ∀ target, Steps p.tables e below (T0.setTop (mkF m 285 #[.val (.long q1), .second, .val (.long q2), .second, .val (.long q3), .second, .val (.long q4), .second, .val (.long q5), .second, .val (.int p6), .val (.long xa), .second, .val (.long xb), .second, .val (.long xc), .second, .val (.long xd), .second, .val (.long xe), .second, .val (.int k1), .val (.int k2), .val (.long r1), .second, .val (.long r2), .second, .val (.ref s1), .val (.int ra), .val (.int rb), .val (.int rc), .val (.int rd), .val (.int re), .val (.int g1), .val (.int g2), .val (.int eb), .val (.int ec), .val (.int ed), .val (.int ee)] [])) target → Steps p.tables e below (T0.setTop (mkF m 246 #[.val (.long q1), .second, .val (.long q2), .second, .val (.long q3), .second, .val (.long q4), .second, .val (.long q5), .second, .val (.int p6), .val (.long xa), .second, .val (.long xb), .second, .val (.long xc), .second, .val (.long xd), .second, .val (.long xe), .second, .val (.int k1), .val (.int k2), .val (.long r1), .second, .val (.long r2), .second, .val (.ref s1), .val (.int ra), .val (.int rb), .val (.int rc), .val (.int rd), .val (.int re), .val (.int g1), .val (.int g2), .val (.int eb), .val (.int ec), .val (.int ed), .unset] [])) target := by
  intro target kt
  by_cases h0 : xe = xa
  · have hv : ee = (0 : Int32) := by rw [hr, if_pos (by simp [h0])]
    rw [hv] at kt
    show Steps p.tables e below (T0.setTop (mkF m 246 #[.val (.long q1), .second, .val (.long q2), .second, .val (.long q3), .second, .val (.long q4), .second, .val (.long q5), .second, .val (.int p6), .val (.long xa), .second, .val (.long xb), .second, .val (.long xc), .second, .val (.long xd), .second, .val (.long xe), .second, .val (.int k1), .val (.int k2), .val (.long r1), .second, .val (.long r2), .second, .val (.ref s1), .val (.int ra), .val (.int rb), .val (.int rc), .val (.int rd), .val (.int re), .val (.int g1), .val (.int g2), .val (.int eb), .val (.int ec), .val (.int ed), .unset] [])) _
    refine XS.lload X0.here hx rfl (hb hby at_246) rfl ?_
    show Steps p.tables e below (T0.setTop (mkF m 248 #[.val (.long q1), .second, .val (.long q2), .second, .val (.long q3), .second, .val (.long q4), .second, .val (.long q5), .second, .val (.int p6), .val (.long xa), .second, .val (.long xb), .second, .val (.long xc), .second, .val (.long xd), .second, .val (.long xe), .second, .val (.int k1), .val (.int k2), .val (.long r1), .second, .val (.long r2), .second, .val (.ref s1), .val (.int ra), .val (.int rb), .val (.int rc), .val (.int rd), .val (.int re), .val (.int g1), .val (.int g2), .val (.int eb), .val (.int ec), .val (.int ed), .unset] [(.long xe)])) _
    refine XS.lload X0.here hx rfl (hb hby at_248) rfl ?_
    show Steps p.tables e below (T0.setTop (mkF m 250 #[.val (.long q1), .second, .val (.long q2), .second, .val (.long q3), .second, .val (.long q4), .second, .val (.long q5), .second, .val (.int p6), .val (.long xa), .second, .val (.long xb), .second, .val (.long xc), .second, .val (.long xd), .second, .val (.long xe), .second, .val (.int k1), .val (.int k2), .val (.long r1), .second, .val (.long r2), .second, .val (.ref s1), .val (.int ra), .val (.int rb), .val (.int rc), .val (.int rd), .val (.int re), .val (.int g1), .val (.int g2), .val (.int eb), .val (.int ec), .val (.int ed), .unset] [(.long xa), (.long xe)])) _
    refine XS.lcmp X0.here hx rfl (hb hby at_250) rfl ?_
    show Steps p.tables e below (T0.setTop (mkF m 251 #[.val (.long q1), .second, .val (.long q2), .second, .val (.long q3), .second, .val (.long q4), .second, .val (.long q5), .second, .val (.int p6), .val (.long xa), .second, .val (.long xb), .second, .val (.long xc), .second, .val (.long xd), .second, .val (.long xe), .second, .val (.int k1), .val (.int k2), .val (.long r1), .second, .val (.long r2), .second, .val (.ref s1), .val (.int ra), .val (.int rb), .val (.int rc), .val (.int rd), .val (.int re), .val (.int g1), .val (.int g2), .val (.int eb), .val (.int ec), .val (.int ed), .unset] [(.int (lcmpW xe xa))])) _
    refine XS.ifYes X0.here hx rfl (pc0 := 251) (pc' := 282) rfl (hb hby at_251) rfl ((if0 _ _).trans (teq ((lw_eq _ _).mpr h0)).1) (by decide) (by decide) ?_
    show Steps p.tables e below (T0.setTop (mkF m 282 #[.val (.long q1), .second, .val (.long q2), .second, .val (.long q3), .second, .val (.long q4), .second, .val (.long q5), .second, .val (.int p6), .val (.long xa), .second, .val (.long xb), .second, .val (.long xc), .second, .val (.long xd), .second, .val (.long xe), .second, .val (.int k1), .val (.int k2), .val (.long r1), .second, .val (.long r2), .second, .val (.ref s1), .val (.int ra), .val (.int rb), .val (.int rc), .val (.int rd), .val (.int re), .val (.int g1), .val (.int g2), .val (.int eb), .val (.int ec), .val (.int ed), .unset] [])) _
    refine XS.iconst X0.here hx rfl (hb hby at_282) ?_
    show Steps p.tables e below (T0.setTop (mkF m 283 #[.val (.long q1), .second, .val (.long q2), .second, .val (.long q3), .second, .val (.long q4), .second, .val (.long q5), .second, .val (.int p6), .val (.long xa), .second, .val (.long xb), .second, .val (.long xc), .second, .val (.long xd), .second, .val (.long xe), .second, .val (.int k1), .val (.int k2), .val (.long r1), .second, .val (.long r2), .second, .val (.ref s1), .val (.int ra), .val (.int rb), .val (.int rc), .val (.int rd), .val (.int re), .val (.int g1), .val (.int g2), .val (.int eb), .val (.int ec), .val (.int ed), .unset] [(.int (0 : Int32))])) _
    refine XS.istore X0.here hx rfl (hb hby at_283) rfl (l' := #[.val (.long q1), .second, .val (.long q2), .second, .val (.long q3), .second, .val (.long q4), .second, .val (.long q5), .second, .val (.int p6), .val (.long xa), .second, .val (.long xb), .second, .val (.long xc), .second, .val (.long xd), .second, .val (.long xe), .second, .val (.int k1), .val (.int k2), .val (.long r1), .second, .val (.long r2), .second, .val (.ref s1), .val (.int ra), .val (.int rb), .val (.int rc), .val (.int rd), .val (.int re), .val (.int g1), .val (.int g2), .val (.int eb), .val (.int ec), .val (.int ed), .val (.int (0 : Int32))]) rfl ?_
    exact kt
  by_cases h1 : xe = xb
  · have hv : ee = (0 : Int32) := by rw [hr, if_pos (by simp [h1])]
    rw [hv] at kt
    show Steps p.tables e below (T0.setTop (mkF m 246 #[.val (.long q1), .second, .val (.long q2), .second, .val (.long q3), .second, .val (.long q4), .second, .val (.long q5), .second, .val (.int p6), .val (.long xa), .second, .val (.long xb), .second, .val (.long xc), .second, .val (.long xd), .second, .val (.long xe), .second, .val (.int k1), .val (.int k2), .val (.long r1), .second, .val (.long r2), .second, .val (.ref s1), .val (.int ra), .val (.int rb), .val (.int rc), .val (.int rd), .val (.int re), .val (.int g1), .val (.int g2), .val (.int eb), .val (.int ec), .val (.int ed), .unset] [])) _
    refine XS.lload X0.here hx rfl (hb hby at_246) rfl ?_
    show Steps p.tables e below (T0.setTop (mkF m 248 #[.val (.long q1), .second, .val (.long q2), .second, .val (.long q3), .second, .val (.long q4), .second, .val (.long q5), .second, .val (.int p6), .val (.long xa), .second, .val (.long xb), .second, .val (.long xc), .second, .val (.long xd), .second, .val (.long xe), .second, .val (.int k1), .val (.int k2), .val (.long r1), .second, .val (.long r2), .second, .val (.ref s1), .val (.int ra), .val (.int rb), .val (.int rc), .val (.int rd), .val (.int re), .val (.int g1), .val (.int g2), .val (.int eb), .val (.int ec), .val (.int ed), .unset] [(.long xe)])) _
    refine XS.lload X0.here hx rfl (hb hby at_248) rfl ?_
    show Steps p.tables e below (T0.setTop (mkF m 250 #[.val (.long q1), .second, .val (.long q2), .second, .val (.long q3), .second, .val (.long q4), .second, .val (.long q5), .second, .val (.int p6), .val (.long xa), .second, .val (.long xb), .second, .val (.long xc), .second, .val (.long xd), .second, .val (.long xe), .second, .val (.int k1), .val (.int k2), .val (.long r1), .second, .val (.long r2), .second, .val (.ref s1), .val (.int ra), .val (.int rb), .val (.int rc), .val (.int rd), .val (.int re), .val (.int g1), .val (.int g2), .val (.int eb), .val (.int ec), .val (.int ed), .unset] [(.long xa), (.long xe)])) _
    refine XS.lcmp X0.here hx rfl (hb hby at_250) rfl ?_
    show Steps p.tables e below (T0.setTop (mkF m 251 #[.val (.long q1), .second, .val (.long q2), .second, .val (.long q3), .second, .val (.long q4), .second, .val (.long q5), .second, .val (.int p6), .val (.long xa), .second, .val (.long xb), .second, .val (.long xc), .second, .val (.long xd), .second, .val (.long xe), .second, .val (.int k1), .val (.int k2), .val (.long r1), .second, .val (.long r2), .second, .val (.ref s1), .val (.int ra), .val (.int rb), .val (.int rc), .val (.int rd), .val (.int re), .val (.int g1), .val (.int g2), .val (.int eb), .val (.int ec), .val (.int ed), .unset] [(.int (lcmpW xe xa))])) _
    refine XS.ifNo X0.here hx rfl (hb hby at_251) rfl ((if0 _ _).trans (feq (fun z => h0 ((lw_eq _ _).mp z))).1) ?_
    show Steps p.tables e below (T0.setTop (mkF m 254 #[.val (.long q1), .second, .val (.long q2), .second, .val (.long q3), .second, .val (.long q4), .second, .val (.long q5), .second, .val (.int p6), .val (.long xa), .second, .val (.long xb), .second, .val (.long xc), .second, .val (.long xd), .second, .val (.long xe), .second, .val (.int k1), .val (.int k2), .val (.long r1), .second, .val (.long r2), .second, .val (.ref s1), .val (.int ra), .val (.int rb), .val (.int rc), .val (.int rd), .val (.int re), .val (.int g1), .val (.int g2), .val (.int eb), .val (.int ec), .val (.int ed), .unset] [])) _
    refine XS.lload X0.here hx rfl (hb hby at_254) rfl ?_
    show Steps p.tables e below (T0.setTop (mkF m 256 #[.val (.long q1), .second, .val (.long q2), .second, .val (.long q3), .second, .val (.long q4), .second, .val (.long q5), .second, .val (.int p6), .val (.long xa), .second, .val (.long xb), .second, .val (.long xc), .second, .val (.long xd), .second, .val (.long xe), .second, .val (.int k1), .val (.int k2), .val (.long r1), .second, .val (.long r2), .second, .val (.ref s1), .val (.int ra), .val (.int rb), .val (.int rc), .val (.int rd), .val (.int re), .val (.int g1), .val (.int g2), .val (.int eb), .val (.int ec), .val (.int ed), .unset] [(.long xe)])) _
    refine XS.lload X0.here hx rfl (hb hby at_256) rfl ?_
    show Steps p.tables e below (T0.setTop (mkF m 258 #[.val (.long q1), .second, .val (.long q2), .second, .val (.long q3), .second, .val (.long q4), .second, .val (.long q5), .second, .val (.int p6), .val (.long xa), .second, .val (.long xb), .second, .val (.long xc), .second, .val (.long xd), .second, .val (.long xe), .second, .val (.int k1), .val (.int k2), .val (.long r1), .second, .val (.long r2), .second, .val (.ref s1), .val (.int ra), .val (.int rb), .val (.int rc), .val (.int rd), .val (.int re), .val (.int g1), .val (.int g2), .val (.int eb), .val (.int ec), .val (.int ed), .unset] [(.long xb), (.long xe)])) _
    refine XS.lcmp X0.here hx rfl (hb hby at_258) rfl ?_
    show Steps p.tables e below (T0.setTop (mkF m 259 #[.val (.long q1), .second, .val (.long q2), .second, .val (.long q3), .second, .val (.long q4), .second, .val (.long q5), .second, .val (.int p6), .val (.long xa), .second, .val (.long xb), .second, .val (.long xc), .second, .val (.long xd), .second, .val (.long xe), .second, .val (.int k1), .val (.int k2), .val (.long r1), .second, .val (.long r2), .second, .val (.ref s1), .val (.int ra), .val (.int rb), .val (.int rc), .val (.int rd), .val (.int re), .val (.int g1), .val (.int g2), .val (.int eb), .val (.int ec), .val (.int ed), .unset] [(.int (lcmpW xe xb))])) _
    refine XS.ifYes X0.here hx rfl (pc0 := 259) (pc' := 282) rfl (hb hby at_259) rfl ((if0 _ _).trans (teq ((lw_eq _ _).mpr h1)).1) (by decide) (by decide) ?_
    show Steps p.tables e below (T0.setTop (mkF m 282 #[.val (.long q1), .second, .val (.long q2), .second, .val (.long q3), .second, .val (.long q4), .second, .val (.long q5), .second, .val (.int p6), .val (.long xa), .second, .val (.long xb), .second, .val (.long xc), .second, .val (.long xd), .second, .val (.long xe), .second, .val (.int k1), .val (.int k2), .val (.long r1), .second, .val (.long r2), .second, .val (.ref s1), .val (.int ra), .val (.int rb), .val (.int rc), .val (.int rd), .val (.int re), .val (.int g1), .val (.int g2), .val (.int eb), .val (.int ec), .val (.int ed), .unset] [])) _
    refine XS.iconst X0.here hx rfl (hb hby at_282) ?_
    show Steps p.tables e below (T0.setTop (mkF m 283 #[.val (.long q1), .second, .val (.long q2), .second, .val (.long q3), .second, .val (.long q4), .second, .val (.long q5), .second, .val (.int p6), .val (.long xa), .second, .val (.long xb), .second, .val (.long xc), .second, .val (.long xd), .second, .val (.long xe), .second, .val (.int k1), .val (.int k2), .val (.long r1), .second, .val (.long r2), .second, .val (.ref s1), .val (.int ra), .val (.int rb), .val (.int rc), .val (.int rd), .val (.int re), .val (.int g1), .val (.int g2), .val (.int eb), .val (.int ec), .val (.int ed), .unset] [(.int (0 : Int32))])) _
    refine XS.istore X0.here hx rfl (hb hby at_283) rfl (l' := #[.val (.long q1), .second, .val (.long q2), .second, .val (.long q3), .second, .val (.long q4), .second, .val (.long q5), .second, .val (.int p6), .val (.long xa), .second, .val (.long xb), .second, .val (.long xc), .second, .val (.long xd), .second, .val (.long xe), .second, .val (.int k1), .val (.int k2), .val (.long r1), .second, .val (.long r2), .second, .val (.ref s1), .val (.int ra), .val (.int rb), .val (.int rc), .val (.int rd), .val (.int re), .val (.int g1), .val (.int g2), .val (.int eb), .val (.int ec), .val (.int ed), .val (.int (0 : Int32))]) rfl ?_
    exact kt
  by_cases h2 : xe = xc
  · have hv : ee = (0 : Int32) := by rw [hr, if_pos (by simp [h2])]
    rw [hv] at kt
    show Steps p.tables e below (T0.setTop (mkF m 246 #[.val (.long q1), .second, .val (.long q2), .second, .val (.long q3), .second, .val (.long q4), .second, .val (.long q5), .second, .val (.int p6), .val (.long xa), .second, .val (.long xb), .second, .val (.long xc), .second, .val (.long xd), .second, .val (.long xe), .second, .val (.int k1), .val (.int k2), .val (.long r1), .second, .val (.long r2), .second, .val (.ref s1), .val (.int ra), .val (.int rb), .val (.int rc), .val (.int rd), .val (.int re), .val (.int g1), .val (.int g2), .val (.int eb), .val (.int ec), .val (.int ed), .unset] [])) _
    refine XS.lload X0.here hx rfl (hb hby at_246) rfl ?_
    show Steps p.tables e below (T0.setTop (mkF m 248 #[.val (.long q1), .second, .val (.long q2), .second, .val (.long q3), .second, .val (.long q4), .second, .val (.long q5), .second, .val (.int p6), .val (.long xa), .second, .val (.long xb), .second, .val (.long xc), .second, .val (.long xd), .second, .val (.long xe), .second, .val (.int k1), .val (.int k2), .val (.long r1), .second, .val (.long r2), .second, .val (.ref s1), .val (.int ra), .val (.int rb), .val (.int rc), .val (.int rd), .val (.int re), .val (.int g1), .val (.int g2), .val (.int eb), .val (.int ec), .val (.int ed), .unset] [(.long xe)])) _
    refine XS.lload X0.here hx rfl (hb hby at_248) rfl ?_
    show Steps p.tables e below (T0.setTop (mkF m 250 #[.val (.long q1), .second, .val (.long q2), .second, .val (.long q3), .second, .val (.long q4), .second, .val (.long q5), .second, .val (.int p6), .val (.long xa), .second, .val (.long xb), .second, .val (.long xc), .second, .val (.long xd), .second, .val (.long xe), .second, .val (.int k1), .val (.int k2), .val (.long r1), .second, .val (.long r2), .second, .val (.ref s1), .val (.int ra), .val (.int rb), .val (.int rc), .val (.int rd), .val (.int re), .val (.int g1), .val (.int g2), .val (.int eb), .val (.int ec), .val (.int ed), .unset] [(.long xa), (.long xe)])) _
    refine XS.lcmp X0.here hx rfl (hb hby at_250) rfl ?_
    show Steps p.tables e below (T0.setTop (mkF m 251 #[.val (.long q1), .second, .val (.long q2), .second, .val (.long q3), .second, .val (.long q4), .second, .val (.long q5), .second, .val (.int p6), .val (.long xa), .second, .val (.long xb), .second, .val (.long xc), .second, .val (.long xd), .second, .val (.long xe), .second, .val (.int k1), .val (.int k2), .val (.long r1), .second, .val (.long r2), .second, .val (.ref s1), .val (.int ra), .val (.int rb), .val (.int rc), .val (.int rd), .val (.int re), .val (.int g1), .val (.int g2), .val (.int eb), .val (.int ec), .val (.int ed), .unset] [(.int (lcmpW xe xa))])) _
    refine XS.ifNo X0.here hx rfl (hb hby at_251) rfl ((if0 _ _).trans (feq (fun z => h0 ((lw_eq _ _).mp z))).1) ?_
    show Steps p.tables e below (T0.setTop (mkF m 254 #[.val (.long q1), .second, .val (.long q2), .second, .val (.long q3), .second, .val (.long q4), .second, .val (.long q5), .second, .val (.int p6), .val (.long xa), .second, .val (.long xb), .second, .val (.long xc), .second, .val (.long xd), .second, .val (.long xe), .second, .val (.int k1), .val (.int k2), .val (.long r1), .second, .val (.long r2), .second, .val (.ref s1), .val (.int ra), .val (.int rb), .val (.int rc), .val (.int rd), .val (.int re), .val (.int g1), .val (.int g2), .val (.int eb), .val (.int ec), .val (.int ed), .unset] [])) _
    refine XS.lload X0.here hx rfl (hb hby at_254) rfl ?_
    show Steps p.tables e below (T0.setTop (mkF m 256 #[.val (.long q1), .second, .val (.long q2), .second, .val (.long q3), .second, .val (.long q4), .second, .val (.long q5), .second, .val (.int p6), .val (.long xa), .second, .val (.long xb), .second, .val (.long xc), .second, .val (.long xd), .second, .val (.long xe), .second, .val (.int k1), .val (.int k2), .val (.long r1), .second, .val (.long r2), .second, .val (.ref s1), .val (.int ra), .val (.int rb), .val (.int rc), .val (.int rd), .val (.int re), .val (.int g1), .val (.int g2), .val (.int eb), .val (.int ec), .val (.int ed), .unset] [(.long xe)])) _
    refine XS.lload X0.here hx rfl (hb hby at_256) rfl ?_
    show Steps p.tables e below (T0.setTop (mkF m 258 #[.val (.long q1), .second, .val (.long q2), .second, .val (.long q3), .second, .val (.long q4), .second, .val (.long q5), .second, .val (.int p6), .val (.long xa), .second, .val (.long xb), .second, .val (.long xc), .second, .val (.long xd), .second, .val (.long xe), .second, .val (.int k1), .val (.int k2), .val (.long r1), .second, .val (.long r2), .second, .val (.ref s1), .val (.int ra), .val (.int rb), .val (.int rc), .val (.int rd), .val (.int re), .val (.int g1), .val (.int g2), .val (.int eb), .val (.int ec), .val (.int ed), .unset] [(.long xb), (.long xe)])) _
    refine XS.lcmp X0.here hx rfl (hb hby at_258) rfl ?_
    show Steps p.tables e below (T0.setTop (mkF m 259 #[.val (.long q1), .second, .val (.long q2), .second, .val (.long q3), .second, .val (.long q4), .second, .val (.long q5), .second, .val (.int p6), .val (.long xa), .second, .val (.long xb), .second, .val (.long xc), .second, .val (.long xd), .second, .val (.long xe), .second, .val (.int k1), .val (.int k2), .val (.long r1), .second, .val (.long r2), .second, .val (.ref s1), .val (.int ra), .val (.int rb), .val (.int rc), .val (.int rd), .val (.int re), .val (.int g1), .val (.int g2), .val (.int eb), .val (.int ec), .val (.int ed), .unset] [(.int (lcmpW xe xb))])) _
    refine XS.ifNo X0.here hx rfl (hb hby at_259) rfl ((if0 _ _).trans (feq (fun z => h1 ((lw_eq _ _).mp z))).1) ?_
    show Steps p.tables e below (T0.setTop (mkF m 262 #[.val (.long q1), .second, .val (.long q2), .second, .val (.long q3), .second, .val (.long q4), .second, .val (.long q5), .second, .val (.int p6), .val (.long xa), .second, .val (.long xb), .second, .val (.long xc), .second, .val (.long xd), .second, .val (.long xe), .second, .val (.int k1), .val (.int k2), .val (.long r1), .second, .val (.long r2), .second, .val (.ref s1), .val (.int ra), .val (.int rb), .val (.int rc), .val (.int rd), .val (.int re), .val (.int g1), .val (.int g2), .val (.int eb), .val (.int ec), .val (.int ed), .unset] [])) _
    refine XS.lload X0.here hx rfl (hb hby at_262) rfl ?_
    show Steps p.tables e below (T0.setTop (mkF m 264 #[.val (.long q1), .second, .val (.long q2), .second, .val (.long q3), .second, .val (.long q4), .second, .val (.long q5), .second, .val (.int p6), .val (.long xa), .second, .val (.long xb), .second, .val (.long xc), .second, .val (.long xd), .second, .val (.long xe), .second, .val (.int k1), .val (.int k2), .val (.long r1), .second, .val (.long r2), .second, .val (.ref s1), .val (.int ra), .val (.int rb), .val (.int rc), .val (.int rd), .val (.int re), .val (.int g1), .val (.int g2), .val (.int eb), .val (.int ec), .val (.int ed), .unset] [(.long xe)])) _
    refine XS.lload X0.here hx rfl (hb hby at_264) rfl ?_
    show Steps p.tables e below (T0.setTop (mkF m 266 #[.val (.long q1), .second, .val (.long q2), .second, .val (.long q3), .second, .val (.long q4), .second, .val (.long q5), .second, .val (.int p6), .val (.long xa), .second, .val (.long xb), .second, .val (.long xc), .second, .val (.long xd), .second, .val (.long xe), .second, .val (.int k1), .val (.int k2), .val (.long r1), .second, .val (.long r2), .second, .val (.ref s1), .val (.int ra), .val (.int rb), .val (.int rc), .val (.int rd), .val (.int re), .val (.int g1), .val (.int g2), .val (.int eb), .val (.int ec), .val (.int ed), .unset] [(.long xc), (.long xe)])) _
    refine XS.lcmp X0.here hx rfl (hb hby at_266) rfl ?_
    show Steps p.tables e below (T0.setTop (mkF m 267 #[.val (.long q1), .second, .val (.long q2), .second, .val (.long q3), .second, .val (.long q4), .second, .val (.long q5), .second, .val (.int p6), .val (.long xa), .second, .val (.long xb), .second, .val (.long xc), .second, .val (.long xd), .second, .val (.long xe), .second, .val (.int k1), .val (.int k2), .val (.long r1), .second, .val (.long r2), .second, .val (.ref s1), .val (.int ra), .val (.int rb), .val (.int rc), .val (.int rd), .val (.int re), .val (.int g1), .val (.int g2), .val (.int eb), .val (.int ec), .val (.int ed), .unset] [(.int (lcmpW xe xc))])) _
    refine XS.ifYes X0.here hx rfl (pc0 := 267) (pc' := 282) rfl (hb hby at_267) rfl ((if0 _ _).trans (teq ((lw_eq _ _).mpr h2)).1) (by decide) (by decide) ?_
    show Steps p.tables e below (T0.setTop (mkF m 282 #[.val (.long q1), .second, .val (.long q2), .second, .val (.long q3), .second, .val (.long q4), .second, .val (.long q5), .second, .val (.int p6), .val (.long xa), .second, .val (.long xb), .second, .val (.long xc), .second, .val (.long xd), .second, .val (.long xe), .second, .val (.int k1), .val (.int k2), .val (.long r1), .second, .val (.long r2), .second, .val (.ref s1), .val (.int ra), .val (.int rb), .val (.int rc), .val (.int rd), .val (.int re), .val (.int g1), .val (.int g2), .val (.int eb), .val (.int ec), .val (.int ed), .unset] [])) _
    refine XS.iconst X0.here hx rfl (hb hby at_282) ?_
    show Steps p.tables e below (T0.setTop (mkF m 283 #[.val (.long q1), .second, .val (.long q2), .second, .val (.long q3), .second, .val (.long q4), .second, .val (.long q5), .second, .val (.int p6), .val (.long xa), .second, .val (.long xb), .second, .val (.long xc), .second, .val (.long xd), .second, .val (.long xe), .second, .val (.int k1), .val (.int k2), .val (.long r1), .second, .val (.long r2), .second, .val (.ref s1), .val (.int ra), .val (.int rb), .val (.int rc), .val (.int rd), .val (.int re), .val (.int g1), .val (.int g2), .val (.int eb), .val (.int ec), .val (.int ed), .unset] [(.int (0 : Int32))])) _
    refine XS.istore X0.here hx rfl (hb hby at_283) rfl (l' := #[.val (.long q1), .second, .val (.long q2), .second, .val (.long q3), .second, .val (.long q4), .second, .val (.long q5), .second, .val (.int p6), .val (.long xa), .second, .val (.long xb), .second, .val (.long xc), .second, .val (.long xd), .second, .val (.long xe), .second, .val (.int k1), .val (.int k2), .val (.long r1), .second, .val (.long r2), .second, .val (.ref s1), .val (.int ra), .val (.int rb), .val (.int rc), .val (.int rd), .val (.int re), .val (.int g1), .val (.int g2), .val (.int eb), .val (.int ec), .val (.int ed), .val (.int (0 : Int32))]) rfl ?_
    exact kt
  by_cases h3 : xe = xd
  · have hv : ee = (0 : Int32) := by rw [hr, if_pos (by simp [h3])]
    rw [hv] at kt
    show Steps p.tables e below (T0.setTop (mkF m 246 #[.val (.long q1), .second, .val (.long q2), .second, .val (.long q3), .second, .val (.long q4), .second, .val (.long q5), .second, .val (.int p6), .val (.long xa), .second, .val (.long xb), .second, .val (.long xc), .second, .val (.long xd), .second, .val (.long xe), .second, .val (.int k1), .val (.int k2), .val (.long r1), .second, .val (.long r2), .second, .val (.ref s1), .val (.int ra), .val (.int rb), .val (.int rc), .val (.int rd), .val (.int re), .val (.int g1), .val (.int g2), .val (.int eb), .val (.int ec), .val (.int ed), .unset] [])) _
    refine XS.lload X0.here hx rfl (hb hby at_246) rfl ?_
    show Steps p.tables e below (T0.setTop (mkF m 248 #[.val (.long q1), .second, .val (.long q2), .second, .val (.long q3), .second, .val (.long q4), .second, .val (.long q5), .second, .val (.int p6), .val (.long xa), .second, .val (.long xb), .second, .val (.long xc), .second, .val (.long xd), .second, .val (.long xe), .second, .val (.int k1), .val (.int k2), .val (.long r1), .second, .val (.long r2), .second, .val (.ref s1), .val (.int ra), .val (.int rb), .val (.int rc), .val (.int rd), .val (.int re), .val (.int g1), .val (.int g2), .val (.int eb), .val (.int ec), .val (.int ed), .unset] [(.long xe)])) _
    refine XS.lload X0.here hx rfl (hb hby at_248) rfl ?_
    show Steps p.tables e below (T0.setTop (mkF m 250 #[.val (.long q1), .second, .val (.long q2), .second, .val (.long q3), .second, .val (.long q4), .second, .val (.long q5), .second, .val (.int p6), .val (.long xa), .second, .val (.long xb), .second, .val (.long xc), .second, .val (.long xd), .second, .val (.long xe), .second, .val (.int k1), .val (.int k2), .val (.long r1), .second, .val (.long r2), .second, .val (.ref s1), .val (.int ra), .val (.int rb), .val (.int rc), .val (.int rd), .val (.int re), .val (.int g1), .val (.int g2), .val (.int eb), .val (.int ec), .val (.int ed), .unset] [(.long xa), (.long xe)])) _
    refine XS.lcmp X0.here hx rfl (hb hby at_250) rfl ?_
    show Steps p.tables e below (T0.setTop (mkF m 251 #[.val (.long q1), .second, .val (.long q2), .second, .val (.long q3), .second, .val (.long q4), .second, .val (.long q5), .second, .val (.int p6), .val (.long xa), .second, .val (.long xb), .second, .val (.long xc), .second, .val (.long xd), .second, .val (.long xe), .second, .val (.int k1), .val (.int k2), .val (.long r1), .second, .val (.long r2), .second, .val (.ref s1), .val (.int ra), .val (.int rb), .val (.int rc), .val (.int rd), .val (.int re), .val (.int g1), .val (.int g2), .val (.int eb), .val (.int ec), .val (.int ed), .unset] [(.int (lcmpW xe xa))])) _
    refine XS.ifNo X0.here hx rfl (hb hby at_251) rfl ((if0 _ _).trans (feq (fun z => h0 ((lw_eq _ _).mp z))).1) ?_
    show Steps p.tables e below (T0.setTop (mkF m 254 #[.val (.long q1), .second, .val (.long q2), .second, .val (.long q3), .second, .val (.long q4), .second, .val (.long q5), .second, .val (.int p6), .val (.long xa), .second, .val (.long xb), .second, .val (.long xc), .second, .val (.long xd), .second, .val (.long xe), .second, .val (.int k1), .val (.int k2), .val (.long r1), .second, .val (.long r2), .second, .val (.ref s1), .val (.int ra), .val (.int rb), .val (.int rc), .val (.int rd), .val (.int re), .val (.int g1), .val (.int g2), .val (.int eb), .val (.int ec), .val (.int ed), .unset] [])) _
    refine XS.lload X0.here hx rfl (hb hby at_254) rfl ?_
    show Steps p.tables e below (T0.setTop (mkF m 256 #[.val (.long q1), .second, .val (.long q2), .second, .val (.long q3), .second, .val (.long q4), .second, .val (.long q5), .second, .val (.int p6), .val (.long xa), .second, .val (.long xb), .second, .val (.long xc), .second, .val (.long xd), .second, .val (.long xe), .second, .val (.int k1), .val (.int k2), .val (.long r1), .second, .val (.long r2), .second, .val (.ref s1), .val (.int ra), .val (.int rb), .val (.int rc), .val (.int rd), .val (.int re), .val (.int g1), .val (.int g2), .val (.int eb), .val (.int ec), .val (.int ed), .unset] [(.long xe)])) _
    refine XS.lload X0.here hx rfl (hb hby at_256) rfl ?_
    show Steps p.tables e below (T0.setTop (mkF m 258 #[.val (.long q1), .second, .val (.long q2), .second, .val (.long q3), .second, .val (.long q4), .second, .val (.long q5), .second, .val (.int p6), .val (.long xa), .second, .val (.long xb), .second, .val (.long xc), .second, .val (.long xd), .second, .val (.long xe), .second, .val (.int k1), .val (.int k2), .val (.long r1), .second, .val (.long r2), .second, .val (.ref s1), .val (.int ra), .val (.int rb), .val (.int rc), .val (.int rd), .val (.int re), .val (.int g1), .val (.int g2), .val (.int eb), .val (.int ec), .val (.int ed), .unset] [(.long xb), (.long xe)])) _
    refine XS.lcmp X0.here hx rfl (hb hby at_258) rfl ?_
    show Steps p.tables e below (T0.setTop (mkF m 259 #[.val (.long q1), .second, .val (.long q2), .second, .val (.long q3), .second, .val (.long q4), .second, .val (.long q5), .second, .val (.int p6), .val (.long xa), .second, .val (.long xb), .second, .val (.long xc), .second, .val (.long xd), .second, .val (.long xe), .second, .val (.int k1), .val (.int k2), .val (.long r1), .second, .val (.long r2), .second, .val (.ref s1), .val (.int ra), .val (.int rb), .val (.int rc), .val (.int rd), .val (.int re), .val (.int g1), .val (.int g2), .val (.int eb), .val (.int ec), .val (.int ed), .unset] [(.int (lcmpW xe xb))])) _
    refine XS.ifNo X0.here hx rfl (hb hby at_259) rfl ((if0 _ _).trans (feq (fun z => h1 ((lw_eq _ _).mp z))).1) ?_
    show Steps p.tables e below (T0.setTop (mkF m 262 #[.val (.long q1), .second, .val (.long q2), .second, .val (.long q3), .second, .val (.long q4), .second, .val (.long q5), .second, .val (.int p6), .val (.long xa), .second, .val (.long xb), .second, .val (.long xc), .second, .val (.long xd), .second, .val (.long xe), .second, .val (.int k1), .val (.int k2), .val (.long r1), .second, .val (.long r2), .second, .val (.ref s1), .val (.int ra), .val (.int rb), .val (.int rc), .val (.int rd), .val (.int re), .val (.int g1), .val (.int g2), .val (.int eb), .val (.int ec), .val (.int ed), .unset] [])) _
    refine XS.lload X0.here hx rfl (hb hby at_262) rfl ?_
    show Steps p.tables e below (T0.setTop (mkF m 264 #[.val (.long q1), .second, .val (.long q2), .second, .val (.long q3), .second, .val (.long q4), .second, .val (.long q5), .second, .val (.int p6), .val (.long xa), .second, .val (.long xb), .second, .val (.long xc), .second, .val (.long xd), .second, .val (.long xe), .second, .val (.int k1), .val (.int k2), .val (.long r1), .second, .val (.long r2), .second, .val (.ref s1), .val (.int ra), .val (.int rb), .val (.int rc), .val (.int rd), .val (.int re), .val (.int g1), .val (.int g2), .val (.int eb), .val (.int ec), .val (.int ed), .unset] [(.long xe)])) _
    refine XS.lload X0.here hx rfl (hb hby at_264) rfl ?_
    show Steps p.tables e below (T0.setTop (mkF m 266 #[.val (.long q1), .second, .val (.long q2), .second, .val (.long q3), .second, .val (.long q4), .second, .val (.long q5), .second, .val (.int p6), .val (.long xa), .second, .val (.long xb), .second, .val (.long xc), .second, .val (.long xd), .second, .val (.long xe), .second, .val (.int k1), .val (.int k2), .val (.long r1), .second, .val (.long r2), .second, .val (.ref s1), .val (.int ra), .val (.int rb), .val (.int rc), .val (.int rd), .val (.int re), .val (.int g1), .val (.int g2), .val (.int eb), .val (.int ec), .val (.int ed), .unset] [(.long xc), (.long xe)])) _
    refine XS.lcmp X0.here hx rfl (hb hby at_266) rfl ?_
    show Steps p.tables e below (T0.setTop (mkF m 267 #[.val (.long q1), .second, .val (.long q2), .second, .val (.long q3), .second, .val (.long q4), .second, .val (.long q5), .second, .val (.int p6), .val (.long xa), .second, .val (.long xb), .second, .val (.long xc), .second, .val (.long xd), .second, .val (.long xe), .second, .val (.int k1), .val (.int k2), .val (.long r1), .second, .val (.long r2), .second, .val (.ref s1), .val (.int ra), .val (.int rb), .val (.int rc), .val (.int rd), .val (.int re), .val (.int g1), .val (.int g2), .val (.int eb), .val (.int ec), .val (.int ed), .unset] [(.int (lcmpW xe xc))])) _
    refine XS.ifNo X0.here hx rfl (hb hby at_267) rfl ((if0 _ _).trans (feq (fun z => h2 ((lw_eq _ _).mp z))).1) ?_
    show Steps p.tables e below (T0.setTop (mkF m 270 #[.val (.long q1), .second, .val (.long q2), .second, .val (.long q3), .second, .val (.long q4), .second, .val (.long q5), .second, .val (.int p6), .val (.long xa), .second, .val (.long xb), .second, .val (.long xc), .second, .val (.long xd), .second, .val (.long xe), .second, .val (.int k1), .val (.int k2), .val (.long r1), .second, .val (.long r2), .second, .val (.ref s1), .val (.int ra), .val (.int rb), .val (.int rc), .val (.int rd), .val (.int re), .val (.int g1), .val (.int g2), .val (.int eb), .val (.int ec), .val (.int ed), .unset] [])) _
    refine XS.lload X0.here hx rfl (hb hby at_270) rfl ?_
    show Steps p.tables e below (T0.setTop (mkF m 272 #[.val (.long q1), .second, .val (.long q2), .second, .val (.long q3), .second, .val (.long q4), .second, .val (.long q5), .second, .val (.int p6), .val (.long xa), .second, .val (.long xb), .second, .val (.long xc), .second, .val (.long xd), .second, .val (.long xe), .second, .val (.int k1), .val (.int k2), .val (.long r1), .second, .val (.long r2), .second, .val (.ref s1), .val (.int ra), .val (.int rb), .val (.int rc), .val (.int rd), .val (.int re), .val (.int g1), .val (.int g2), .val (.int eb), .val (.int ec), .val (.int ed), .unset] [(.long xe)])) _
    refine XS.lload X0.here hx rfl (hb hby at_272) rfl ?_
    show Steps p.tables e below (T0.setTop (mkF m 274 #[.val (.long q1), .second, .val (.long q2), .second, .val (.long q3), .second, .val (.long q4), .second, .val (.long q5), .second, .val (.int p6), .val (.long xa), .second, .val (.long xb), .second, .val (.long xc), .second, .val (.long xd), .second, .val (.long xe), .second, .val (.int k1), .val (.int k2), .val (.long r1), .second, .val (.long r2), .second, .val (.ref s1), .val (.int ra), .val (.int rb), .val (.int rc), .val (.int rd), .val (.int re), .val (.int g1), .val (.int g2), .val (.int eb), .val (.int ec), .val (.int ed), .unset] [(.long xd), (.long xe)])) _
    refine XS.lcmp X0.here hx rfl (hb hby at_274) rfl ?_
    show Steps p.tables e below (T0.setTop (mkF m 275 #[.val (.long q1), .second, .val (.long q2), .second, .val (.long q3), .second, .val (.long q4), .second, .val (.long q5), .second, .val (.int p6), .val (.long xa), .second, .val (.long xb), .second, .val (.long xc), .second, .val (.long xd), .second, .val (.long xe), .second, .val (.int k1), .val (.int k2), .val (.long r1), .second, .val (.long r2), .second, .val (.ref s1), .val (.int ra), .val (.int rb), .val (.int rc), .val (.int rd), .val (.int re), .val (.int g1), .val (.int g2), .val (.int eb), .val (.int ec), .val (.int ed), .unset] [(.int (lcmpW xe xd))])) _
    refine XS.ifYes X0.here hx rfl (pc0 := 275) (pc' := 282) rfl (hb hby at_275) rfl ((if0 _ _).trans (teq ((lw_eq _ _).mpr h3)).1) (by decide) (by decide) ?_
    show Steps p.tables e below (T0.setTop (mkF m 282 #[.val (.long q1), .second, .val (.long q2), .second, .val (.long q3), .second, .val (.long q4), .second, .val (.long q5), .second, .val (.int p6), .val (.long xa), .second, .val (.long xb), .second, .val (.long xc), .second, .val (.long xd), .second, .val (.long xe), .second, .val (.int k1), .val (.int k2), .val (.long r1), .second, .val (.long r2), .second, .val (.ref s1), .val (.int ra), .val (.int rb), .val (.int rc), .val (.int rd), .val (.int re), .val (.int g1), .val (.int g2), .val (.int eb), .val (.int ec), .val (.int ed), .unset] [])) _
    refine XS.iconst X0.here hx rfl (hb hby at_282) ?_
    show Steps p.tables e below (T0.setTop (mkF m 283 #[.val (.long q1), .second, .val (.long q2), .second, .val (.long q3), .second, .val (.long q4), .second, .val (.long q5), .second, .val (.int p6), .val (.long xa), .second, .val (.long xb), .second, .val (.long xc), .second, .val (.long xd), .second, .val (.long xe), .second, .val (.int k1), .val (.int k2), .val (.long r1), .second, .val (.long r2), .second, .val (.ref s1), .val (.int ra), .val (.int rb), .val (.int rc), .val (.int rd), .val (.int re), .val (.int g1), .val (.int g2), .val (.int eb), .val (.int ec), .val (.int ed), .unset] [(.int (0 : Int32))])) _
    refine XS.istore X0.here hx rfl (hb hby at_283) rfl (l' := #[.val (.long q1), .second, .val (.long q2), .second, .val (.long q3), .second, .val (.long q4), .second, .val (.long q5), .second, .val (.int p6), .val (.long xa), .second, .val (.long xb), .second, .val (.long xc), .second, .val (.long xd), .second, .val (.long xe), .second, .val (.int k1), .val (.int k2), .val (.long r1), .second, .val (.long r2), .second, .val (.ref s1), .val (.int ra), .val (.int rb), .val (.int rc), .val (.int rd), .val (.int re), .val (.int g1), .val (.int g2), .val (.int eb), .val (.int ec), .val (.int ed), .val (.int (0 : Int32))]) rfl ?_
    exact kt
  have hv : ee = (1 : Int32) := by rw [hr, if_neg (by simp [h0, h1, h2, h3])]
  rw [hv] at kt
  show Steps p.tables e below (T0.setTop (mkF m 246 #[.val (.long q1), .second, .val (.long q2), .second, .val (.long q3), .second, .val (.long q4), .second, .val (.long q5), .second, .val (.int p6), .val (.long xa), .second, .val (.long xb), .second, .val (.long xc), .second, .val (.long xd), .second, .val (.long xe), .second, .val (.int k1), .val (.int k2), .val (.long r1), .second, .val (.long r2), .second, .val (.ref s1), .val (.int ra), .val (.int rb), .val (.int rc), .val (.int rd), .val (.int re), .val (.int g1), .val (.int g2), .val (.int eb), .val (.int ec), .val (.int ed), .unset] [])) _
  refine XS.lload X0.here hx rfl (hb hby at_246) rfl ?_
  show Steps p.tables e below (T0.setTop (mkF m 248 #[.val (.long q1), .second, .val (.long q2), .second, .val (.long q3), .second, .val (.long q4), .second, .val (.long q5), .second, .val (.int p6), .val (.long xa), .second, .val (.long xb), .second, .val (.long xc), .second, .val (.long xd), .second, .val (.long xe), .second, .val (.int k1), .val (.int k2), .val (.long r1), .second, .val (.long r2), .second, .val (.ref s1), .val (.int ra), .val (.int rb), .val (.int rc), .val (.int rd), .val (.int re), .val (.int g1), .val (.int g2), .val (.int eb), .val (.int ec), .val (.int ed), .unset] [(.long xe)])) _
  refine XS.lload X0.here hx rfl (hb hby at_248) rfl ?_
  show Steps p.tables e below (T0.setTop (mkF m 250 #[.val (.long q1), .second, .val (.long q2), .second, .val (.long q3), .second, .val (.long q4), .second, .val (.long q5), .second, .val (.int p6), .val (.long xa), .second, .val (.long xb), .second, .val (.long xc), .second, .val (.long xd), .second, .val (.long xe), .second, .val (.int k1), .val (.int k2), .val (.long r1), .second, .val (.long r2), .second, .val (.ref s1), .val (.int ra), .val (.int rb), .val (.int rc), .val (.int rd), .val (.int re), .val (.int g1), .val (.int g2), .val (.int eb), .val (.int ec), .val (.int ed), .unset] [(.long xa), (.long xe)])) _
  refine XS.lcmp X0.here hx rfl (hb hby at_250) rfl ?_
  show Steps p.tables e below (T0.setTop (mkF m 251 #[.val (.long q1), .second, .val (.long q2), .second, .val (.long q3), .second, .val (.long q4), .second, .val (.long q5), .second, .val (.int p6), .val (.long xa), .second, .val (.long xb), .second, .val (.long xc), .second, .val (.long xd), .second, .val (.long xe), .second, .val (.int k1), .val (.int k2), .val (.long r1), .second, .val (.long r2), .second, .val (.ref s1), .val (.int ra), .val (.int rb), .val (.int rc), .val (.int rd), .val (.int re), .val (.int g1), .val (.int g2), .val (.int eb), .val (.int ec), .val (.int ed), .unset] [(.int (lcmpW xe xa))])) _
  refine XS.ifNo X0.here hx rfl (hb hby at_251) rfl ((if0 _ _).trans (feq (fun z => h0 ((lw_eq _ _).mp z))).1) ?_
  show Steps p.tables e below (T0.setTop (mkF m 254 #[.val (.long q1), .second, .val (.long q2), .second, .val (.long q3), .second, .val (.long q4), .second, .val (.long q5), .second, .val (.int p6), .val (.long xa), .second, .val (.long xb), .second, .val (.long xc), .second, .val (.long xd), .second, .val (.long xe), .second, .val (.int k1), .val (.int k2), .val (.long r1), .second, .val (.long r2), .second, .val (.ref s1), .val (.int ra), .val (.int rb), .val (.int rc), .val (.int rd), .val (.int re), .val (.int g1), .val (.int g2), .val (.int eb), .val (.int ec), .val (.int ed), .unset] [])) _
  refine XS.lload X0.here hx rfl (hb hby at_254) rfl ?_
  show Steps p.tables e below (T0.setTop (mkF m 256 #[.val (.long q1), .second, .val (.long q2), .second, .val (.long q3), .second, .val (.long q4), .second, .val (.long q5), .second, .val (.int p6), .val (.long xa), .second, .val (.long xb), .second, .val (.long xc), .second, .val (.long xd), .second, .val (.long xe), .second, .val (.int k1), .val (.int k2), .val (.long r1), .second, .val (.long r2), .second, .val (.ref s1), .val (.int ra), .val (.int rb), .val (.int rc), .val (.int rd), .val (.int re), .val (.int g1), .val (.int g2), .val (.int eb), .val (.int ec), .val (.int ed), .unset] [(.long xe)])) _
  refine XS.lload X0.here hx rfl (hb hby at_256) rfl ?_
  show Steps p.tables e below (T0.setTop (mkF m 258 #[.val (.long q1), .second, .val (.long q2), .second, .val (.long q3), .second, .val (.long q4), .second, .val (.long q5), .second, .val (.int p6), .val (.long xa), .second, .val (.long xb), .second, .val (.long xc), .second, .val (.long xd), .second, .val (.long xe), .second, .val (.int k1), .val (.int k2), .val (.long r1), .second, .val (.long r2), .second, .val (.ref s1), .val (.int ra), .val (.int rb), .val (.int rc), .val (.int rd), .val (.int re), .val (.int g1), .val (.int g2), .val (.int eb), .val (.int ec), .val (.int ed), .unset] [(.long xb), (.long xe)])) _
  refine XS.lcmp X0.here hx rfl (hb hby at_258) rfl ?_
  show Steps p.tables e below (T0.setTop (mkF m 259 #[.val (.long q1), .second, .val (.long q2), .second, .val (.long q3), .second, .val (.long q4), .second, .val (.long q5), .second, .val (.int p6), .val (.long xa), .second, .val (.long xb), .second, .val (.long xc), .second, .val (.long xd), .second, .val (.long xe), .second, .val (.int k1), .val (.int k2), .val (.long r1), .second, .val (.long r2), .second, .val (.ref s1), .val (.int ra), .val (.int rb), .val (.int rc), .val (.int rd), .val (.int re), .val (.int g1), .val (.int g2), .val (.int eb), .val (.int ec), .val (.int ed), .unset] [(.int (lcmpW xe xb))])) _
  refine XS.ifNo X0.here hx rfl (hb hby at_259) rfl ((if0 _ _).trans (feq (fun z => h1 ((lw_eq _ _).mp z))).1) ?_
  show Steps p.tables e below (T0.setTop (mkF m 262 #[.val (.long q1), .second, .val (.long q2), .second, .val (.long q3), .second, .val (.long q4), .second, .val (.long q5), .second, .val (.int p6), .val (.long xa), .second, .val (.long xb), .second, .val (.long xc), .second, .val (.long xd), .second, .val (.long xe), .second, .val (.int k1), .val (.int k2), .val (.long r1), .second, .val (.long r2), .second, .val (.ref s1), .val (.int ra), .val (.int rb), .val (.int rc), .val (.int rd), .val (.int re), .val (.int g1), .val (.int g2), .val (.int eb), .val (.int ec), .val (.int ed), .unset] [])) _
  refine XS.lload X0.here hx rfl (hb hby at_262) rfl ?_
  show Steps p.tables e below (T0.setTop (mkF m 264 #[.val (.long q1), .second, .val (.long q2), .second, .val (.long q3), .second, .val (.long q4), .second, .val (.long q5), .second, .val (.int p6), .val (.long xa), .second, .val (.long xb), .second, .val (.long xc), .second, .val (.long xd), .second, .val (.long xe), .second, .val (.int k1), .val (.int k2), .val (.long r1), .second, .val (.long r2), .second, .val (.ref s1), .val (.int ra), .val (.int rb), .val (.int rc), .val (.int rd), .val (.int re), .val (.int g1), .val (.int g2), .val (.int eb), .val (.int ec), .val (.int ed), .unset] [(.long xe)])) _
  refine XS.lload X0.here hx rfl (hb hby at_264) rfl ?_
  show Steps p.tables e below (T0.setTop (mkF m 266 #[.val (.long q1), .second, .val (.long q2), .second, .val (.long q3), .second, .val (.long q4), .second, .val (.long q5), .second, .val (.int p6), .val (.long xa), .second, .val (.long xb), .second, .val (.long xc), .second, .val (.long xd), .second, .val (.long xe), .second, .val (.int k1), .val (.int k2), .val (.long r1), .second, .val (.long r2), .second, .val (.ref s1), .val (.int ra), .val (.int rb), .val (.int rc), .val (.int rd), .val (.int re), .val (.int g1), .val (.int g2), .val (.int eb), .val (.int ec), .val (.int ed), .unset] [(.long xc), (.long xe)])) _
  refine XS.lcmp X0.here hx rfl (hb hby at_266) rfl ?_
  show Steps p.tables e below (T0.setTop (mkF m 267 #[.val (.long q1), .second, .val (.long q2), .second, .val (.long q3), .second, .val (.long q4), .second, .val (.long q5), .second, .val (.int p6), .val (.long xa), .second, .val (.long xb), .second, .val (.long xc), .second, .val (.long xd), .second, .val (.long xe), .second, .val (.int k1), .val (.int k2), .val (.long r1), .second, .val (.long r2), .second, .val (.ref s1), .val (.int ra), .val (.int rb), .val (.int rc), .val (.int rd), .val (.int re), .val (.int g1), .val (.int g2), .val (.int eb), .val (.int ec), .val (.int ed), .unset] [(.int (lcmpW xe xc))])) _
  refine XS.ifNo X0.here hx rfl (hb hby at_267) rfl ((if0 _ _).trans (feq (fun z => h2 ((lw_eq _ _).mp z))).1) ?_
  show Steps p.tables e below (T0.setTop (mkF m 270 #[.val (.long q1), .second, .val (.long q2), .second, .val (.long q3), .second, .val (.long q4), .second, .val (.long q5), .second, .val (.int p6), .val (.long xa), .second, .val (.long xb), .second, .val (.long xc), .second, .val (.long xd), .second, .val (.long xe), .second, .val (.int k1), .val (.int k2), .val (.long r1), .second, .val (.long r2), .second, .val (.ref s1), .val (.int ra), .val (.int rb), .val (.int rc), .val (.int rd), .val (.int re), .val (.int g1), .val (.int g2), .val (.int eb), .val (.int ec), .val (.int ed), .unset] [])) _
  refine XS.lload X0.here hx rfl (hb hby at_270) rfl ?_
  show Steps p.tables e below (T0.setTop (mkF m 272 #[.val (.long q1), .second, .val (.long q2), .second, .val (.long q3), .second, .val (.long q4), .second, .val (.long q5), .second, .val (.int p6), .val (.long xa), .second, .val (.long xb), .second, .val (.long xc), .second, .val (.long xd), .second, .val (.long xe), .second, .val (.int k1), .val (.int k2), .val (.long r1), .second, .val (.long r2), .second, .val (.ref s1), .val (.int ra), .val (.int rb), .val (.int rc), .val (.int rd), .val (.int re), .val (.int g1), .val (.int g2), .val (.int eb), .val (.int ec), .val (.int ed), .unset] [(.long xe)])) _
  refine XS.lload X0.here hx rfl (hb hby at_272) rfl ?_
  show Steps p.tables e below (T0.setTop (mkF m 274 #[.val (.long q1), .second, .val (.long q2), .second, .val (.long q3), .second, .val (.long q4), .second, .val (.long q5), .second, .val (.int p6), .val (.long xa), .second, .val (.long xb), .second, .val (.long xc), .second, .val (.long xd), .second, .val (.long xe), .second, .val (.int k1), .val (.int k2), .val (.long r1), .second, .val (.long r2), .second, .val (.ref s1), .val (.int ra), .val (.int rb), .val (.int rc), .val (.int rd), .val (.int re), .val (.int g1), .val (.int g2), .val (.int eb), .val (.int ec), .val (.int ed), .unset] [(.long xd), (.long xe)])) _
  refine XS.lcmp X0.here hx rfl (hb hby at_274) rfl ?_
  show Steps p.tables e below (T0.setTop (mkF m 275 #[.val (.long q1), .second, .val (.long q2), .second, .val (.long q3), .second, .val (.long q4), .second, .val (.long q5), .second, .val (.int p6), .val (.long xa), .second, .val (.long xb), .second, .val (.long xc), .second, .val (.long xd), .second, .val (.long xe), .second, .val (.int k1), .val (.int k2), .val (.long r1), .second, .val (.long r2), .second, .val (.ref s1), .val (.int ra), .val (.int rb), .val (.int rc), .val (.int rd), .val (.int re), .val (.int g1), .val (.int g2), .val (.int eb), .val (.int ec), .val (.int ed), .unset] [(.int (lcmpW xe xd))])) _
  refine XS.ifNo X0.here hx rfl (hb hby at_275) rfl ((if0 _ _).trans (feq (fun z => h3 ((lw_eq _ _).mp z))).1) ?_
  show Steps p.tables e below (T0.setTop (mkF m 278 #[.val (.long q1), .second, .val (.long q2), .second, .val (.long q3), .second, .val (.long q4), .second, .val (.long q5), .second, .val (.int p6), .val (.long xa), .second, .val (.long xb), .second, .val (.long xc), .second, .val (.long xd), .second, .val (.long xe), .second, .val (.int k1), .val (.int k2), .val (.long r1), .second, .val (.long r2), .second, .val (.ref s1), .val (.int ra), .val (.int rb), .val (.int rc), .val (.int rd), .val (.int re), .val (.int g1), .val (.int g2), .val (.int eb), .val (.int ec), .val (.int ed), .unset] [])) _
  refine XS.iconst X0.here hx rfl (hb hby at_278) ?_
  show Steps p.tables e below (T0.setTop (mkF m 279 #[.val (.long q1), .second, .val (.long q2), .second, .val (.long q3), .second, .val (.long q4), .second, .val (.long q5), .second, .val (.int p6), .val (.long xa), .second, .val (.long xb), .second, .val (.long xc), .second, .val (.long xd), .second, .val (.long xe), .second, .val (.int k1), .val (.int k2), .val (.long r1), .second, .val (.long r2), .second, .val (.ref s1), .val (.int ra), .val (.int rb), .val (.int rc), .val (.int rd), .val (.int re), .val (.int g1), .val (.int g2), .val (.int eb), .val (.int ec), .val (.int ed), .unset] [(.int (1 : Int32))])) _
  refine XS.goto X0.here hx rfl (pc0 := 279) (pc' := 283) rfl (hb hby at_279) (by decide) (by decide) ?_
  show Steps p.tables e below (T0.setTop (mkF m 283 #[.val (.long q1), .second, .val (.long q2), .second, .val (.long q3), .second, .val (.long q4), .second, .val (.long q5), .second, .val (.int p6), .val (.long xa), .second, .val (.long xb), .second, .val (.long xc), .second, .val (.long xd), .second, .val (.long xe), .second, .val (.int k1), .val (.int k2), .val (.long r1), .second, .val (.long r2), .second, .val (.ref s1), .val (.int ra), .val (.int rb), .val (.int rc), .val (.int rd), .val (.int re), .val (.int g1), .val (.int g2), .val (.int eb), .val (.int ec), .val (.int ed), .unset] [(.int (1 : Int32))])) _
  refine XS.istore X0.here hx rfl (hb hby at_283) rfl (l' := #[.val (.long q1), .second, .val (.long q2), .second, .val (.long q3), .second, .val (.long q4), .second, .val (.long q5), .second, .val (.int p6), .val (.long xa), .second, .val (.long xb), .second, .val (.long xc), .second, .val (.long xd), .second, .val (.long xe), .second, .val (.int k1), .val (.int k2), .val (.long r1), .second, .val (.long r2), .second, .val (.ref s1), .val (.int ra), .val (.int rb), .val (.int rc), .val (.int rd), .val (.int re), .val (.int g1), .val (.int g2), .val (.int eb), .val (.int ec), .val (.int ed), .val (.int (1 : Int32))]) rfl ?_
  exact kt
theorem pd_3 : parseMethodDescriptor "(JII)J" = some ⟨[.long, .int, .int], some .long⟩ := by decide +kernel
theorem pd_4 : parseMethodDescriptor "(IJJJJJ)J" = some ⟨[.int, .long, .long, .long, .long, .long], some .long⟩ := by decide +kernel
theorem pd_5 : parseMethodDescriptor "()V" = some ⟨[], none⟩ := by decide +kernel
theorem ef_0 (m : MethodId) (x0 : Int64) (x1 : Int64) (x2 : Int64) (x3 : Int64) (x4 : Int64) (x5 : Int32) : entryFrame m #[(.long x0), (.long x1), (.long x2), (.long x3), (.long x4), (.int x5)] maxLocals = mkF m 0 #[.val (.long x0), .second, .val (.long x1), .second, .val (.long x2), .second, .val (.long x3), .second, .val (.long x4), .second, .val (.int x5), .unset, .unset, .unset, .unset, .unset, .unset, .unset, .unset, .unset, .unset, .unset, .unset, .unset, .unset, .unset, .unset, .unset, .unset, .unset, .unset, .unset, .unset, .unset, .unset, .unset, .unset, .unset, .unset] [] := by first | (simp [entryFrame, mkF, argsToLocals, Value.category, maxLocals]; done) | rfl
def Q0 (Z : State) (q1 q2 q3 q4 q5 : Int64) (p6 : Int32) (h0 : Heap) (n0 : Nat) (v : Option Value) (h : Heap) (L : List Loc) : Prop := v = some (.int 1) ∧ Fr n0 L
set_option maxRecDepth 65536 in
set_option maxHeartbeats 40000000 in
theorem rm0 (l : Launch) (Z : State) (a0 : Array Value) (hw : ∀ d ∈ tables_1, d.before a0 Z = true) (ws : List Jvm.Cond) (q1 q2 q3 q4 q5 : Int64) (p6 : Int32) (h0 : Heap) (n0 : Nat) (Z0 : n0 ≤ h0.size) :
    MetFree l x (head1 (Jvm.Cond.code x code maxLocals ret :: ws) room_1) (fun a U => a = #[(.long q1), (.long q2), (.long q3), (.long q4), (.long q5), (.int p6)] ∧ Z.Warmed39 U.vm ∧ U.heap = h0) (fun _ _ _ _ _ => True) (fun _ U o U' => ∃ v L, o = .returned v ∧ Q0 Z q1 q2 q3 q4 q5 p6 h0 n0 v U'.heap L ∧ FrameEnd U o U' L room_1.cells room_1.slots) := by
  refine MetFree.of_bodySF (plainFor_of_name pn_PostIdsAddPinLaw) hisR ?_
  intro p e s m args below meth c s₁ Bd hml0 hP hK
  obtain ⟨rfl, hZ, hh⟩ := hP
  have hx := Bd.exec
  have hby := Bd.bytes
  have hml : c.maxLocals = 39 := hml0
  have hown : s.vm.findClass "com/example/dilate_query/dilatequery/collection/PostIdsAddPinLaw" = some m.cls := findClass_of_methodNamed Bd.named
  have hnm := (name_of_methodNamed Bd.named Bd.method).1
  have X0 : Stand p l e room_1 s m #[(.long q1), (.long q2), (.long q3), (.long q4), (.long q5), (.int p6)] below meth c s₁ [] 0 0 := Stand.of_body Bd
  have e0 : s₁.heap = h0 := by rw [← hh, Bd.state]; rfl
  have N0 := Fr.nil n0
  have pre0 : ∀ t, Steps p.tables e below (s₁.setTop (mkF m 0 #[.val (.long q1), .second, .val (.long q2), .second, .val (.long q3), .second, .val (.long q4), .second, .val (.long q5), .second, .val (.int p6), .unset, .unset, .unset, .unset, .unset, .unset, .unset, .unset, .unset, .unset, .unset, .unset, .unset, .unset, .unset, .unset, .unset, .unset, .unset, .unset, .unset, .unset, .unset, .unset, .unset, .unset, .unset, .unset] [])) t → Steps p.tables e below (s₁.setTop (entryFrame m #[(.long q1), (.long q2), (.long q3), (.long q4), (.long q5), (.int p6)] maxLocals)) t := fun t k => castTop (ef_0 m q1 q2 q3 q4 q5 p6) k
  obtain ⟨_, _, ⟨T1, L1, k1, n1⟩, -, X1, ⟨Lc1, hQ1, l1, y1, z1⟩, st1⟩ := Jvm.LawKit.callS X0 hx (y := (⟨"com/example/dilate_query/dilatequery/collection/PostIdsAddPinLaw", "id", "(JII)J"⟩ : MethodName)) hown (mvT hZ (hw _ (List.mem_of_getElem? (i := 0) rfl))) (mvT hZ (hw _ (List.mem_of_getElem? (i := 1) rfl))) (mvT hZ (hw _ (List.mem_of_getElem? (i := 2) rfl))) (mvT hZ (hw _ (List.mem_of_getElem? (i := 3) rfl))) (by decide) (backOf (W := 0) (rm1 l Z a0 hw [] q1 p6 (0 : Int32) h0 n0 Z0) hZ (hw _ (List.mem_of_getElem? (i := 3) rfl)) (hw _ (List.mem_of_getElem? (i := 2) rfl)) (by decide) (by decide)) (g := (mkF m 4 #[.val (.long q1), .second, .val (.long q2), .second, .val (.long q3), .second, .val (.long q4), .second, .val (.long q5), .second, .val (.int p6), .unset, .unset, .unset, .unset, .unset, .unset, .unset, .unset, .unset, .unset, .unset, .unset, .unset, .unset, .unset, .unset, .unset, .unset, .unset, .unset, .unset, .unset, .unset, .unset, .unset, .unset, .unset, .unset] [(.int (0 : Int32)), (.int p6), (.long q1)])) rfl (by rw [hml]; rfl) (argsL := [(.long q1), (.int p6), (.int (0 : Int32))]) (rest := []) (lenOf pd_3 rfl) rfl (by show 2 * 0 + _ ≤ _; exact Nat.le_of_eq rfl) (hb hby at_4) (fun _ _ => ⟨rfl, e0, (by decide : 0 + 0 ≤ _), (by decide : 0 + 0 ≤ _)⟩)
  dsimp only [Pt.U, Pt.locs, Pt.cells, Pt.slots] at X1 l1 y1 z1 st1 hQ1
  subst l1 y1 z1
  obtain ⟨⟨xa, rfl, hxa⟩, N1q, eq1⟩ := hQ1
  have N1 := Fr.app N0 N1q
  obtain ⟨_, _, ⟨T2, L2, k2, n2⟩, -, X2, ⟨Lc2, hQ2, l2, y2, z2⟩, st2⟩ := Jvm.LawKit.callS X1 hx (y := (⟨"com/example/dilate_query/dilatequery/collection/PostIdsAddPinLaw", "id", "(JII)J"⟩ : MethodName)) hown (mvT hZ (hw _ (List.mem_of_getElem? (i := 0) rfl))) (mvT hZ (hw _ (List.mem_of_getElem? (i := 1) rfl))) (mvT hZ (hw _ (List.mem_of_getElem? (i := 2) rfl))) (mvT hZ (hw _ (List.mem_of_getElem? (i := 3) rfl))) (by decide) (backOf (W := 0) (rm1 l Z a0 hw [] q2 p6 (1 : Int32) h0 n0 Z0) hZ (hw _ (List.mem_of_getElem? (i := 3) rfl)) (hw _ (List.mem_of_getElem? (i := 2) rfl)) (by decide) (by decide)) (g := (mkF m 13 #[.val (.long q1), .second, .val (.long q2), .second, .val (.long q3), .second, .val (.long q4), .second, .val (.long q5), .second, .val (.int p6), .val (.long xa), .second, .unset, .unset, .unset, .unset, .unset, .unset, .unset, .unset, .unset, .unset, .unset, .unset, .unset, .unset, .unset, .unset, .unset, .unset, .unset, .unset, .unset, .unset, .unset, .unset, .unset, .unset] [(.int (1 : Int32)), (.int p6), (.long q2)])) rfl (by rw [hml]; rfl) (argsL := [(.long q2), (.int p6), (.int (1 : Int32))]) (rest := []) (lenOf pd_3 rfl) rfl (by show 2 * 0 + _ ≤ _; exact Nat.le_of_eq rfl) (hb hby at_13) (fun _ _ => ⟨rfl, eq1, (by decide : 0 + 0 ≤ _), (by decide : 0 + 0 ≤ _)⟩)
  dsimp only [Pt.U, Pt.locs, Pt.cells, Pt.slots] at X2 l2 y2 z2 st2 hQ2
  subst l2 y2 z2
  obtain ⟨⟨xb, rfl, hxb⟩, N2q, eq2⟩ := hQ2
  have N2 := Fr.app N1 N2q
  obtain ⟨_, _, ⟨T3, L3, k3, n3⟩, -, X3, ⟨Lc3, hQ3, l3, y3, z3⟩, st3⟩ := Jvm.LawKit.callS X2 hx (y := (⟨"com/example/dilate_query/dilatequery/collection/PostIdsAddPinLaw", "id", "(JII)J"⟩ : MethodName)) hown (mvT hZ (hw _ (List.mem_of_getElem? (i := 0) rfl))) (mvT hZ (hw _ (List.mem_of_getElem? (i := 1) rfl))) (mvT hZ (hw _ (List.mem_of_getElem? (i := 2) rfl))) (mvT hZ (hw _ (List.mem_of_getElem? (i := 3) rfl))) (by decide) (backOf (W := 0) (rm1 l Z a0 hw [] q3 p6 (2 : Int32) h0 n0 Z0) hZ (hw _ (List.mem_of_getElem? (i := 3) rfl)) (hw _ (List.mem_of_getElem? (i := 2) rfl)) (by decide) (by decide)) (g := (mkF m 23 #[.val (.long q1), .second, .val (.long q2), .second, .val (.long q3), .second, .val (.long q4), .second, .val (.long q5), .second, .val (.int p6), .val (.long xa), .second, .val (.long xb), .second, .unset, .unset, .unset, .unset, .unset, .unset, .unset, .unset, .unset, .unset, .unset, .unset, .unset, .unset, .unset, .unset, .unset, .unset, .unset, .unset, .unset, .unset, .unset, .unset] [(.int (2 : Int32)), (.int p6), (.long q3)])) rfl (by rw [hml]; rfl) (argsL := [(.long q3), (.int p6), (.int (2 : Int32))]) (rest := []) (lenOf pd_3 rfl) rfl (by show 2 * 0 + _ ≤ _; exact Nat.le_of_eq rfl) (hb hby at_23) (fun _ _ => ⟨rfl, eq2, (by decide : 0 + 0 ≤ _), (by decide : 0 + 0 ≤ _)⟩)
  dsimp only [Pt.U, Pt.locs, Pt.cells, Pt.slots] at X3 l3 y3 z3 st3 hQ3
  subst l3 y3 z3
  obtain ⟨⟨xc, rfl, hxc⟩, N3q, eq3⟩ := hQ3
  have N3 := Fr.app N2 N3q
  obtain ⟨_, _, ⟨T4, L4, k4, n4⟩, -, X4, ⟨Lc4, hQ4, l4, y4, z4⟩, st4⟩ := Jvm.LawKit.callS X3 hx (y := (⟨"com/example/dilate_query/dilatequery/collection/PostIdsAddPinLaw", "id", "(JII)J"⟩ : MethodName)) hown (mvT hZ (hw _ (List.mem_of_getElem? (i := 0) rfl))) (mvT hZ (hw _ (List.mem_of_getElem? (i := 1) rfl))) (mvT hZ (hw _ (List.mem_of_getElem? (i := 2) rfl))) (mvT hZ (hw _ (List.mem_of_getElem? (i := 3) rfl))) (by decide) (backOf (W := 0) (rm1 l Z a0 hw [] q4 p6 (3 : Int32) h0 n0 Z0) hZ (hw _ (List.mem_of_getElem? (i := 3) rfl)) (hw _ (List.mem_of_getElem? (i := 2) rfl)) (by decide) (by decide)) (g := (mkF m 33 #[.val (.long q1), .second, .val (.long q2), .second, .val (.long q3), .second, .val (.long q4), .second, .val (.long q5), .second, .val (.int p6), .val (.long xa), .second, .val (.long xb), .second, .val (.long xc), .second, .unset, .unset, .unset, .unset, .unset, .unset, .unset, .unset, .unset, .unset, .unset, .unset, .unset, .unset, .unset, .unset, .unset, .unset, .unset, .unset, .unset, .unset] [(.int (3 : Int32)), (.int p6), (.long q4)])) rfl (by rw [hml]; rfl) (argsL := [(.long q4), (.int p6), (.int (3 : Int32))]) (rest := []) (lenOf pd_3 rfl) rfl (by show 2 * 0 + _ ≤ _; exact Nat.le_of_eq rfl) (hb hby at_33) (fun _ _ => ⟨rfl, eq3, (by decide : 0 + 0 ≤ _), (by decide : 0 + 0 ≤ _)⟩)
  dsimp only [Pt.U, Pt.locs, Pt.cells, Pt.slots] at X4 l4 y4 z4 st4 hQ4
  subst l4 y4 z4
  obtain ⟨⟨xd, rfl, hxd⟩, N4q, eq4⟩ := hQ4
  have N4 := Fr.app N3 N4q
  obtain ⟨_, _, ⟨T5, L5, k5, n5⟩, -, X5, ⟨Lc5, hQ5, l5, y5, z5⟩, st5⟩ := Jvm.LawKit.callS X4 hx (y := (⟨"com/example/dilate_query/dilatequery/collection/PostIdsAddPinLaw", "id", "(JII)J"⟩ : MethodName)) hown (mvT hZ (hw _ (List.mem_of_getElem? (i := 0) rfl))) (mvT hZ (hw _ (List.mem_of_getElem? (i := 1) rfl))) (mvT hZ (hw _ (List.mem_of_getElem? (i := 2) rfl))) (mvT hZ (hw _ (List.mem_of_getElem? (i := 3) rfl))) (by decide) (backOf (W := 0) (rm1 l Z a0 hw [] q5 p6 (4 : Int32) h0 n0 Z0) hZ (hw _ (List.mem_of_getElem? (i := 3) rfl)) (hw _ (List.mem_of_getElem? (i := 2) rfl)) (by decide) (by decide)) (g := (mkF m 43 #[.val (.long q1), .second, .val (.long q2), .second, .val (.long q3), .second, .val (.long q4), .second, .val (.long q5), .second, .val (.int p6), .val (.long xa), .second, .val (.long xb), .second, .val (.long xc), .second, .val (.long xd), .second, .unset, .unset, .unset, .unset, .unset, .unset, .unset, .unset, .unset, .unset, .unset, .unset, .unset, .unset, .unset, .unset, .unset, .unset, .unset, .unset] [(.int (4 : Int32)), (.int p6), (.long q5)])) rfl (by rw [hml]; rfl) (argsL := [(.long q5), (.int p6), (.int (4 : Int32))]) (rest := []) (lenOf pd_3 rfl) rfl (by show 2 * 0 + _ ≤ _; exact Nat.le_of_eq rfl) (hb hby at_43) (fun _ _ => ⟨rfl, eq4, (by decide : 0 + 0 ≤ _), (by decide : 0 + 0 ≤ _)⟩)
  dsimp only [Pt.U, Pt.locs, Pt.cells, Pt.slots] at X5 l5 y5 z5 st5 hQ5
  subst l5 y5 z5
  obtain ⟨⟨xe, rfl, hxe⟩, N5q, eq5⟩ := hQ5
  have N5 := Fr.app N4 N5q
  obtain ⟨_, _, ⟨T6, L6, k6, n6⟩, -, X6, ⟨Lc6, hQ6, l6, y6, z6⟩, st6⟩ := Jvm.LawKit.callS X5 hx (y := (⟨"com/example/dilate_query/dilatequery/collection/PostIdsAddPinLaw", "pick", "(IJJJJJ)J"⟩ : MethodName)) hown (mvT hZ (hw _ (List.mem_of_getElem? (i := 6) rfl))) (mvT hZ (hw _ (List.mem_of_getElem? (i := 7) rfl))) (mvT hZ (hw _ (List.mem_of_getElem? (i := 2) rfl))) (mvT hZ (hw _ (List.mem_of_getElem? (i := 8) rfl))) (by decide) (backOf (W := 0) (rm2 l Z a0 hw [] ((((p6.toUInt32 >>> ((5 : Int32) &&& 31).toUInt32).toInt32) &&& (7 : Int32)) % (5 : Int32)) xa xb xc xd xe h0 n0 Z0) hZ (hw _ (List.mem_of_getElem? (i := 8) rfl)) (hw _ (List.mem_of_getElem? (i := 2) rfl)) (by decide) (by decide)) (g := (mkF m 83 #[.val (.long q1), .second, .val (.long q2), .second, .val (.long q3), .second, .val (.long q4), .second, .val (.long q5), .second, .val (.int p6), .val (.long xa), .second, .val (.long xb), .second, .val (.long xc), .second, .val (.long xd), .second, .val (.long xe), .second, .val (.int ((((p6.toUInt32 >>> ((5 : Int32) &&& 31).toUInt32).toInt32) &&& (7 : Int32)) % (5 : Int32))), .val (.int ((((p6.toUInt32 >>> ((8 : Int32) &&& 31).toUInt32).toInt32) &&& (7 : Int32)) % (5 : Int32))), .unset, .unset, .unset, .unset, .unset, .unset, .unset, .unset, .unset, .unset, .unset, .unset, .unset, .unset, .unset, .unset] [(.long xe), (.long xd), (.long xc), (.long xb), (.long xa), (.int ((((p6.toUInt32 >>> ((5 : Int32) &&& 31).toUInt32).toInt32) &&& (7 : Int32)) % (5 : Int32)))])) rfl (by rw [hml]; rfl) (argsL := [(.int ((((p6.toUInt32 >>> ((5 : Int32) &&& 31).toUInt32).toInt32) &&& (7 : Int32)) % (5 : Int32))), (.long xa), (.long xb), (.long xc), (.long xd), (.long xe)]) (rest := []) (lenOf pd_4 rfl) rfl (by show 2 * 0 + _ ≤ _; exact Nat.le_of_eq rfl) (hb hby at_83) (fun _ _ => ⟨rfl, eq5, (by decide : 0 + 0 ≤ _), (by decide : 0 + 0 ≤ _)⟩)
  dsimp only [Pt.U, Pt.locs, Pt.cells, Pt.slots] at X6 l6 y6 z6 st6 hQ6
  subst l6 y6 z6
  obtain ⟨⟨r1, rfl, hr1⟩, N6q, eq6⟩ := hQ6
  have N6 := Fr.app N5 N6q
  obtain ⟨_, _, ⟨T7, L7, k7, n7⟩, -, X7, ⟨Lc7, hQ7, l7, y7, z7⟩, st7⟩ := Jvm.LawKit.callS X6 hx (y := (⟨"com/example/dilate_query/dilatequery/collection/PostIdsAddPinLaw", "pick", "(IJJJJJ)J"⟩ : MethodName)) hown (mvT hZ (hw _ (List.mem_of_getElem? (i := 6) rfl))) (mvT hZ (hw _ (List.mem_of_getElem? (i := 7) rfl))) (mvT hZ (hw _ (List.mem_of_getElem? (i := 2) rfl))) (mvT hZ (hw _ (List.mem_of_getElem? (i := 8) rfl))) (by decide) (backOf (W := 0) (rm2 l Z a0 hw [] ((((p6.toUInt32 >>> ((8 : Int32) &&& 31).toUInt32).toInt32) &&& (7 : Int32)) % (5 : Int32)) xa xb xc xd xe h0 n0 Z0) hZ (hw _ (List.mem_of_getElem? (i := 8) rfl)) (hw _ (List.mem_of_getElem? (i := 2) rfl)) (by decide) (by decide)) (g := (mkF m 100 #[.val (.long q1), .second, .val (.long q2), .second, .val (.long q3), .second, .val (.long q4), .second, .val (.long q5), .second, .val (.int p6), .val (.long xa), .second, .val (.long xb), .second, .val (.long xc), .second, .val (.long xd), .second, .val (.long xe), .second, .val (.int ((((p6.toUInt32 >>> ((5 : Int32) &&& 31).toUInt32).toInt32) &&& (7 : Int32)) % (5 : Int32))), .val (.int ((((p6.toUInt32 >>> ((8 : Int32) &&& 31).toUInt32).toInt32) &&& (7 : Int32)) % (5 : Int32))), .val (.long r1), .second, .unset, .unset, .unset, .unset, .unset, .unset, .unset, .unset, .unset, .unset, .unset, .unset, .unset, .unset] [(.long xe), (.long xd), (.long xc), (.long xb), (.long xa), (.int ((((p6.toUInt32 >>> ((8 : Int32) &&& 31).toUInt32).toInt32) &&& (7 : Int32)) % (5 : Int32)))])) rfl (by rw [hml]; rfl) (argsL := [(.int ((((p6.toUInt32 >>> ((8 : Int32) &&& 31).toUInt32).toInt32) &&& (7 : Int32)) % (5 : Int32))), (.long xa), (.long xb), (.long xc), (.long xd), (.long xe)]) (rest := []) (lenOf pd_4 rfl) rfl (by show 2 * 0 + _ ≤ _; exact Nat.le_of_eq rfl) (hb hby at_100) (fun _ _ => ⟨rfl, eq6, (by decide : 0 + 0 ≤ _), (by decide : 0 + 0 ≤ _)⟩)
  dsimp only [Pt.U, Pt.locs, Pt.cells, Pt.slots] at X7 l7 y7 z7 st7 hQ7
  subst l7 y7 z7
  obtain ⟨⟨r2, rfl, hr2⟩, N7q, eq7⟩ := hQ7
  have N7 := Fr.app N6 N7q
  obtain ⟨T8, h8, X8, e8, E8, A8, D8, -, st8⟩ := newO X7 hx hZ hown (hw _ (List.mem_of_getElem? (i := 9) rfl)) (hw _ (List.mem_of_getElem? (i := 10) rfl)) (hw _ (List.mem_of_getElem? (i := 11) rfl)) eq7 (g := (mkF m 105 #[.val (.long q1), .second, .val (.long q2), .second, .val (.long q3), .second, .val (.long q4), .second, .val (.long q5), .second, .val (.int p6), .val (.long xa), .second, .val (.long xb), .second, .val (.long xc), .second, .val (.long xd), .second, .val (.long xe), .second, .val (.int ((((p6.toUInt32 >>> ((5 : Int32) &&& 31).toUInt32).toInt32) &&& (7 : Int32)) % (5 : Int32))), .val (.int ((((p6.toUInt32 >>> ((8 : Int32) &&& 31).toUInt32).toInt32) &&& (7 : Int32)) % (5 : Int32))), .val (.long r1), .second, .val (.long r2), .second, .unset, .unset, .unset, .unset, .unset, .unset, .unset, .unset, .unset, .unset, .unset, .unset] [])) rfl (hb hby at_105) (by decide) (by decide)
  obtain ⟨b8, g8⟩ : ∃ z, z = h0.size := ⟨_, rfl⟩
  rw [← g8] at A8 st8 D8
  have fr_b8 : n0 ≤ b8 := Nat.le_trans Z0 (Nat.le_of_eq g8.symm)
  have Z8 : n0 ≤ h8.size := Nat.le_trans Z0 E8.1
  have f8_40 : Exa Z h8 b8 "com/example/dilate_query/dilatequery/collection/PostIds" := A8
  have f8_41 : Fld Z h8 b8 "com/example/dilate_query/dilatequery/collection/PostIds" "blocks" "[[J" .null := D8 (Or.inl (hw _ (List.mem_of_getElem? (i := 21) rfl))) (ty := (.array (.array .long))) (by decide)
  have f8_42 : Fld Z h8 b8 "com/example/dilate_query/dilatequery/collection/PostIds" "table" "[J" .null := D8 (Or.inl (hw _ (List.mem_of_getElem? (i := 24) rfl))) (ty := (.array .long)) (by decide)
  have f8_43 : Fld Z h8 b8 "com/example/dilate_query/dilatequery/collection/PostIds" "tableBits" "I" (.int (0 : Int32)) := D8 (Or.inl (hw _ (List.mem_of_getElem? (i := 26) rfl))) (ty := .int) (by decide)
  have f8_44 : Fld Z h8 b8 "com/example/dilate_query/dilatequery/collection/PostIds" "largest" "J" (.long (0 : Int64)) := D8 (Or.inl (hw _ (List.mem_of_getElem? (i := 33) rfl))) (ty := .long) (by decide)
  have f8_45 : Fld Z h8 b8 "com/example/dilate_query/dilatequery/collection/PostIds" "ascendingCount" "I" (.int (0 : Int32)) := D8 (Or.inl (hw _ (List.mem_of_getElem? (i := 39) rfl))) (ty := .int) (by decide)
  have f8_46 : Fld Z h8 b8 "com/example/dilate_query/dilatequery/collection/PostIds" "tableCount" "I" (.int (0 : Int32)) := D8 (Or.inl (hw _ (List.mem_of_getElem? (i := 55) rfl))) (ty := .int) (by decide)
  obtain ⟨_, _, ⟨T9, L9, k9, n9⟩, -, X9, ⟨Lc9, hQ9, l9, y9, z9⟩, st9⟩ := X8.specialBack hx (y := (⟨"com/example/dilate_query/dilatequery/collection/PostIds", "<init>", "()V"⟩ : MethodName)) rfl hown (mvT hZ (hw _ (List.mem_of_getElem? (i := 12) rfl))) (mvT hZ (hw _ (List.mem_of_getElem? (i := 13) rfl))) (mvT hZ (hw _ (List.mem_of_getElem? (i := 14) rfl))) (by decide) (backOf (W := 1) (rm3 l Z a0 hw [] b8 h8 n0 Z8 f8_40 f8_41 f8_42 f8_43 f8_44 f8_45 f8_46 fr_b8) hZ (hw _ (List.mem_of_getElem? (i := 14) rfl)) (hw _ (List.mem_of_getElem? (i := 11) rfl)) (by decide) (by decide)) (g := (mkF m 109 #[.val (.long q1), .second, .val (.long q2), .second, .val (.long q3), .second, .val (.long q4), .second, .val (.long q5), .second, .val (.int p6), .val (.long xa), .second, .val (.long xb), .second, .val (.long xc), .second, .val (.long xd), .second, .val (.long xe), .second, .val (.int ((((p6.toUInt32 >>> ((5 : Int32) &&& 31).toUInt32).toInt32) &&& (7 : Int32)) % (5 : Int32))), .val (.int ((((p6.toUInt32 >>> ((8 : Int32) &&& 31).toUInt32).toInt32) &&& (7 : Int32)) % (5 : Int32))), .val (.long r1), .second, .val (.long r2), .second, .unset, .unset, .unset, .unset, .unset, .unset, .unset, .unset, .unset, .unset, .unset, .unset] [(.ref b8), (.ref b8)])) rfl (by rw [hml]; rfl) (Steps.refl _) (a := b8) (argsL := []) (rest := [(.ref b8)]) (lenOf pd_5 rfl) rfl (by show 2 * 0 + _ ≤ _; exact Nat.le_of_eq rfl) (hb hby at_109) (fun _ _ => ⟨rfl, e8, (by decide : 1 + 2 ≤ _), (by decide : 6 + 1025 ≤ _)⟩)
  dsimp only [Pt.U, Pt.locs, Pt.cells, Pt.slots] at X9 l9 y9 z9 st9 hQ9
  subst l9 y9 z9
  obtain ⟨rfl, N9q, b1, t1, kb, I0, O_b, g_b, g_t, n_ab, n_at, n_bt, Zi⟩ := hQ9
  have N9 := Fr.app N7 N9q
  obtain ⟨cq10, kq10, q10a, q10b, q10c⟩ := isOf hZ rfl I0.1
  obtain ⟨_, _, ⟨T10, L10, k10, n10⟩, -, X10, ⟨Lc10, hQ10, l10, y10, z10⟩, st10⟩ := X9.virtualBack hx (y := (⟨"com/example/dilate_query/dilatequery/collection/PostIds", "add", "(J)Z"⟩ : MethodName)) (z := (⟨"com/example/dilate_query/dilatequery/collection/PostIds", "add", "(J)Z"⟩ : MethodName)) hown (mvT hZ (hw _ (List.mem_of_getElem? (i := 27) rfl))) (mvT hZ (hw _ (List.mem_of_getElem? (i := 28) rfl))) (notFace_of_selects (args := #[]) (mvT hZ (hw _ (List.mem_of_getElem? (i := 30) rfl)))) (mvT hZ (hw _ (List.mem_of_getElem? (i := 30) rfl))) (mvT hZ (hw _ (List.mem_of_getElem? (i := 29) rfl))) (by decide) (backOf (W := 0) (rm5_0 l Z a0 hw [] b8 xa b1 t1 kb T9.heap n0 Zi I0 O_b fr_b8 g_b g_t n_ab n_at n_bt hxa) hZ (hw _ (List.mem_of_getElem? (i := 31) rfl)) (hw _ (List.mem_of_getElem? (i := 11) rfl)) (by decide) (by decide)) q10a q10c (g := (mkF m 118 #[.val (.long q1), .second, .val (.long q2), .second, .val (.long q3), .second, .val (.long q4), .second, .val (.long q5), .second, .val (.int p6), .val (.long xa), .second, .val (.long xb), .second, .val (.long xc), .second, .val (.long xd), .second, .val (.long xe), .second, .val (.int ((((p6.toUInt32 >>> ((5 : Int32) &&& 31).toUInt32).toInt32) &&& (7 : Int32)) % (5 : Int32))), .val (.int ((((p6.toUInt32 >>> ((8 : Int32) &&& 31).toUInt32).toInt32) &&& (7 : Int32)) % (5 : Int32))), .val (.long r1), .second, .val (.long r2), .second, .val (.ref b8), .unset, .unset, .unset, .unset, .unset, .unset, .unset, .unset, .unset, .unset, .unset] [(.long xa), (.ref b8)])) rfl (by rw [hml]; rfl) (Steps.refl _) (argsL := [(.long xa)]) (rest := []) (lenOf pd_2 rfl) rfl (by show 2 * 0 + _ ≤ _; exact Nat.le_of_eq rfl) (hb hby at_118) (fun _ _ => ⟨rfl, rfl, (by decide : 3 + 1 ≤ _), (by decide : 1031 + 16384 ≤ _)⟩)
  dsimp only [Pt.U, Pt.locs, Pt.cells, Pt.slots] at X10 l10 y10 z10 st10 hQ10
  subst l10 y10 z10
  obtain ⟨rfl, N10q, kA, kk, PS1, SP1⟩ := hQ10
  have Iv1 := (own_inv_app own_inv_start hxa hxa).1
  have hn1 : (1 : Int32) = Int32.ofNat ([] ++ [xa]).length := rfl
  have ht1 : (0 : Int32) = Int32.ofNat ([] : List Nat).length := rfl
  have N10 := Fr.app N9 N10q
  obtain ⟨cq11, kq11, q11a, q11b, q11c⟩ := isOf hZ rfl PS1.1
  obtain ⟨_, _, ⟨T11, L11, k11, n11⟩, -, X11, ⟨Lc11, hQ11, l11, y11, z11⟩, st11⟩ := X10.virtualBack hx (y := (⟨"com/example/dilate_query/dilatequery/collection/PostIds", "add", "(J)Z"⟩ : MethodName)) (z := (⟨"com/example/dilate_query/dilatequery/collection/PostIds", "add", "(J)Z"⟩ : MethodName)) hown (mvT hZ (hw _ (List.mem_of_getElem? (i := 27) rfl))) (mvT hZ (hw _ (List.mem_of_getElem? (i := 28) rfl))) (notFace_of_selects (args := #[]) (mvT hZ (hw _ (List.mem_of_getElem? (i := 30) rfl)))) (mvT hZ (hw _ (List.mem_of_getElem? (i := 30) rfl))) (mvT hZ (hw _ (List.mem_of_getElem? (i := 29) rfl))) (by decide) (backOf (W := 0) (rm5 l Z a0 hw [] b8 xb b1 t1 kA kb kk ([] ++ [xa]) (fun _ => 0) (1 : Int32) (0 : Int32) xa [xa] [] T10.heap n0 PS1.2.2.2.2.2.2.2.2.2.2 PS1 SP1 Iv1 (Nat.le_of_ble_eq_true rfl) hn1 ht1 hxb) hZ (hw _ (List.mem_of_getElem? (i := 31) rfl)) (hw _ (List.mem_of_getElem? (i := 11) rfl)) (by decide) (by decide)) q11a q11c (g := (mkF m 127 #[.val (.long q1), .second, .val (.long q2), .second, .val (.long q3), .second, .val (.long q4), .second, .val (.long q5), .second, .val (.int p6), .val (.long xa), .second, .val (.long xb), .second, .val (.long xc), .second, .val (.long xd), .second, .val (.long xe), .second, .val (.int ((((p6.toUInt32 >>> ((5 : Int32) &&& 31).toUInt32).toInt32) &&& (7 : Int32)) % (5 : Int32))), .val (.int ((((p6.toUInt32 >>> ((8 : Int32) &&& 31).toUInt32).toInt32) &&& (7 : Int32)) % (5 : Int32))), .val (.long r1), .second, .val (.long r2), .second, .val (.ref b8), .val (.int (1 : Int32)), .unset, .unset, .unset, .unset, .unset, .unset, .unset, .unset, .unset, .unset] [(.long xb), (.ref b8)])) rfl (by rw [hml]; rfl) (Steps.refl _) (argsL := [(.long xb)]) (rest := []) (lenOf pd_2 rfl) rfl (by show 2 * 0 + _ ≤ _; exact Nat.le_of_eq rfl) (hb hby at_127) (fun _ _ => ⟨rfl, rfl, (by decide : 4 + 0 ≤ _), (by decide : 17415 + 0 ≤ _)⟩)
  dsimp only [Pt.U, Pt.locs, Pt.cells, Pt.slots] at X11 l11 y11 z11 st11 hQ11
  subst l11 y11 z11
  obtain ⟨hv11, N11q, asc2, T2', F2, n2', tc2, lg2, PS2, Iv2, hn2, ht2⟩ := hQ11
  obtain ⟨rb, erb⟩ : ∃ z : Int32, z = if xb ∈ [xa] then 0 else 1 := ⟨_, rfl⟩
  rw [← erb] at hv11
  subst hv11
  have N11 := Fr.app N10 N11q
  obtain ⟨cq12, kq12, q12a, q12b, q12c⟩ := isOf hZ rfl PS2.1
  obtain ⟨_, _, ⟨T12, L12, k12, n12⟩, -, X12, ⟨Lc12, hQ12, l12, y12, z12⟩, st12⟩ := X11.virtualBack hx (y := (⟨"com/example/dilate_query/dilatequery/collection/PostIds", "add", "(J)Z"⟩ : MethodName)) (z := (⟨"com/example/dilate_query/dilatequery/collection/PostIds", "add", "(J)Z"⟩ : MethodName)) hown (mvT hZ (hw _ (List.mem_of_getElem? (i := 27) rfl))) (mvT hZ (hw _ (List.mem_of_getElem? (i := 28) rfl))) (notFace_of_selects (args := #[]) (mvT hZ (hw _ (List.mem_of_getElem? (i := 30) rfl)))) (mvT hZ (hw _ (List.mem_of_getElem? (i := 30) rfl))) (mvT hZ (hw _ (List.mem_of_getElem? (i := 29) rfl))) (by decide) (backOf (W := 0) (rm5 l Z a0 hw [] b8 xc b1 t1 kA kb kk asc2 T2' n2' tc2 lg2 [xb, xa] F2 T11.heap n0 PS2.2.2.2.2.2.2.2.2.2.2 PS2 SP1 Iv2 (Nat.le_of_ble_eq_true rfl) hn2 ht2 hxc) hZ (hw _ (List.mem_of_getElem? (i := 31) rfl)) (hw _ (List.mem_of_getElem? (i := 11) rfl)) (by decide) (by decide)) q12a q12c (g := (mkF m 136 #[.val (.long q1), .second, .val (.long q2), .second, .val (.long q3), .second, .val (.long q4), .second, .val (.long q5), .second, .val (.int p6), .val (.long xa), .second, .val (.long xb), .second, .val (.long xc), .second, .val (.long xd), .second, .val (.long xe), .second, .val (.int ((((p6.toUInt32 >>> ((5 : Int32) &&& 31).toUInt32).toInt32) &&& (7 : Int32)) % (5 : Int32))), .val (.int ((((p6.toUInt32 >>> ((8 : Int32) &&& 31).toUInt32).toInt32) &&& (7 : Int32)) % (5 : Int32))), .val (.long r1), .second, .val (.long r2), .second, .val (.ref b8), .val (.int (1 : Int32)), .val (.int rb), .unset, .unset, .unset, .unset, .unset, .unset, .unset, .unset, .unset] [(.long xc), (.ref b8)])) rfl (by rw [hml]; rfl) (Steps.refl _) (argsL := [(.long xc)]) (rest := []) (lenOf pd_2 rfl) rfl (by show 2 * 0 + _ ≤ _; exact Nat.le_of_eq rfl) (hb hby at_136) (fun _ _ => ⟨rfl, rfl, (by decide : 4 + 0 ≤ _), (by decide : 17415 + 0 ≤ _)⟩)
  dsimp only [Pt.U, Pt.locs, Pt.cells, Pt.slots] at X12 l12 y12 z12 st12 hQ12
  subst l12 y12 z12
  obtain ⟨hv12, N12q, asc3, T3', F3, n3', tc3, lg3, PS3, Iv3, hn3, ht3⟩ := hQ12
  obtain ⟨rc, erc⟩ : ∃ z : Int32, z = if xc ∈ [xb, xa] then 0 else 1 := ⟨_, rfl⟩
  rw [← erc] at hv12
  subst hv12
  have N12 := Fr.app N11 N12q
  obtain ⟨cq13, kq13, q13a, q13b, q13c⟩ := isOf hZ rfl PS3.1
  obtain ⟨_, _, ⟨T13, L13, k13, n13⟩, -, X13, ⟨Lc13, hQ13, l13, y13, z13⟩, st13⟩ := X12.virtualBack hx (y := (⟨"com/example/dilate_query/dilatequery/collection/PostIds", "add", "(J)Z"⟩ : MethodName)) (z := (⟨"com/example/dilate_query/dilatequery/collection/PostIds", "add", "(J)Z"⟩ : MethodName)) hown (mvT hZ (hw _ (List.mem_of_getElem? (i := 27) rfl))) (mvT hZ (hw _ (List.mem_of_getElem? (i := 28) rfl))) (notFace_of_selects (args := #[]) (mvT hZ (hw _ (List.mem_of_getElem? (i := 30) rfl)))) (mvT hZ (hw _ (List.mem_of_getElem? (i := 30) rfl))) (mvT hZ (hw _ (List.mem_of_getElem? (i := 29) rfl))) (by decide) (backOf (W := 0) (rm5 l Z a0 hw [] b8 xd b1 t1 kA kb kk asc3 T3' n3' tc3 lg3 [xc, xb, xa] F3 T12.heap n0 PS3.2.2.2.2.2.2.2.2.2.2 PS3 SP1 Iv3 (Nat.le_of_ble_eq_true rfl) hn3 ht3 hxd) hZ (hw _ (List.mem_of_getElem? (i := 31) rfl)) (hw _ (List.mem_of_getElem? (i := 11) rfl)) (by decide) (by decide)) q13a q13c (g := (mkF m 145 #[.val (.long q1), .second, .val (.long q2), .second, .val (.long q3), .second, .val (.long q4), .second, .val (.long q5), .second, .val (.int p6), .val (.long xa), .second, .val (.long xb), .second, .val (.long xc), .second, .val (.long xd), .second, .val (.long xe), .second, .val (.int ((((p6.toUInt32 >>> ((5 : Int32) &&& 31).toUInt32).toInt32) &&& (7 : Int32)) % (5 : Int32))), .val (.int ((((p6.toUInt32 >>> ((8 : Int32) &&& 31).toUInt32).toInt32) &&& (7 : Int32)) % (5 : Int32))), .val (.long r1), .second, .val (.long r2), .second, .val (.ref b8), .val (.int (1 : Int32)), .val (.int rb), .val (.int rc), .unset, .unset, .unset, .unset, .unset, .unset, .unset, .unset] [(.long xd), (.ref b8)])) rfl (by rw [hml]; rfl) (Steps.refl _) (argsL := [(.long xd)]) (rest := []) (lenOf pd_2 rfl) rfl (by show 2 * 0 + _ ≤ _; exact Nat.le_of_eq rfl) (hb hby at_145) (fun _ _ => ⟨rfl, rfl, (by decide : 4 + 0 ≤ _), (by decide : 17415 + 0 ≤ _)⟩)
  dsimp only [Pt.U, Pt.locs, Pt.cells, Pt.slots] at X13 l13 y13 z13 st13 hQ13
  subst l13 y13 z13
  obtain ⟨hv13, N13q, asc4, T4', F4, n4', tc4, lg4, PS4, Iv4, hn4, ht4⟩ := hQ13
  obtain ⟨rd, erd⟩ : ∃ z : Int32, z = if xd ∈ [xc, xb, xa] then 0 else 1 := ⟨_, rfl⟩
  rw [← erd] at hv13
  subst hv13
  have N13 := Fr.app N12 N13q
  obtain ⟨cq14, kq14, q14a, q14b, q14c⟩ := isOf hZ rfl PS4.1
  obtain ⟨_, _, ⟨T14, L14, k14, n14⟩, -, X14, ⟨Lc14, hQ14, l14, y14, z14⟩, st14⟩ := X13.virtualBack hx (y := (⟨"com/example/dilate_query/dilatequery/collection/PostIds", "add", "(J)Z"⟩ : MethodName)) (z := (⟨"com/example/dilate_query/dilatequery/collection/PostIds", "add", "(J)Z"⟩ : MethodName)) hown (mvT hZ (hw _ (List.mem_of_getElem? (i := 27) rfl))) (mvT hZ (hw _ (List.mem_of_getElem? (i := 28) rfl))) (notFace_of_selects (args := #[]) (mvT hZ (hw _ (List.mem_of_getElem? (i := 30) rfl)))) (mvT hZ (hw _ (List.mem_of_getElem? (i := 30) rfl))) (mvT hZ (hw _ (List.mem_of_getElem? (i := 29) rfl))) (by decide) (backOf (W := 0) (rm5 l Z a0 hw [] b8 xe b1 t1 kA kb kk asc4 T4' n4' tc4 lg4 [xd, xc, xb, xa] F4 T13.heap n0 PS4.2.2.2.2.2.2.2.2.2.2 PS4 SP1 Iv4 (Nat.le_of_ble_eq_true rfl) hn4 ht4 hxe) hZ (hw _ (List.mem_of_getElem? (i := 31) rfl)) (hw _ (List.mem_of_getElem? (i := 11) rfl)) (by decide) (by decide)) q14a q14c (g := (mkF m 154 #[.val (.long q1), .second, .val (.long q2), .second, .val (.long q3), .second, .val (.long q4), .second, .val (.long q5), .second, .val (.int p6), .val (.long xa), .second, .val (.long xb), .second, .val (.long xc), .second, .val (.long xd), .second, .val (.long xe), .second, .val (.int ((((p6.toUInt32 >>> ((5 : Int32) &&& 31).toUInt32).toInt32) &&& (7 : Int32)) % (5 : Int32))), .val (.int ((((p6.toUInt32 >>> ((8 : Int32) &&& 31).toUInt32).toInt32) &&& (7 : Int32)) % (5 : Int32))), .val (.long r1), .second, .val (.long r2), .second, .val (.ref b8), .val (.int (1 : Int32)), .val (.int rb), .val (.int rc), .val (.int rd), .unset, .unset, .unset, .unset, .unset, .unset, .unset] [(.long xe), (.ref b8)])) rfl (by rw [hml]; rfl) (Steps.refl _) (argsL := [(.long xe)]) (rest := []) (lenOf pd_2 rfl) rfl (by show 2 * 0 + _ ≤ _; exact Nat.le_of_eq rfl) (hb hby at_154) (fun _ _ => ⟨rfl, rfl, (by decide : 4 + 0 ≤ _), (by decide : 17415 + 0 ≤ _)⟩)
  dsimp only [Pt.U, Pt.locs, Pt.cells, Pt.slots] at X14 l14 y14 z14 st14 hQ14
  subst l14 y14 z14
  obtain ⟨hv14, N14q, asc5, T5', F5, n5', tc5, lg5, PS5, Iv5, hn5, ht5⟩ := hQ14
  obtain ⟨re, ere⟩ : ∃ z : Int32, z = if xe ∈ [xd, xc, xb, xa] then 0 else 1 := ⟨_, rfl⟩
  rw [← ere] at hv14
  subst hv14
  have N14 := Fr.app N13 N14q
  have hpos : ∀ r, r ∈ [xe, xd, xc, xb, xa] → 0 < r := fun r h => by simp only [List.mem_cons, List.not_mem_nil, or_false] at h; rcases h with rfl | rfl | rfl | rfl | rfl <;> assumption
  have hr1p := hpos r1 hr1
  have hr2p := hpos r2 hr2
  obtain ⟨cq15, kq15, q15a, q15b, q15c⟩ := isOf hZ rfl PS5.1
  obtain ⟨_, _, ⟨T15, L15, k15, n15⟩, -, X15, ⟨Lc15, hQ15, l15, y15, z15⟩, st15⟩ := X14.virtualBack hx (y := (⟨"com/example/dilate_query/dilatequery/collection/PostIds", "add", "(J)Z"⟩ : MethodName)) (z := (⟨"com/example/dilate_query/dilatequery/collection/PostIds", "add", "(J)Z"⟩ : MethodName)) hown (mvT hZ (hw _ (List.mem_of_getElem? (i := 27) rfl))) (mvT hZ (hw _ (List.mem_of_getElem? (i := 28) rfl))) (notFace_of_selects (args := #[]) (mvT hZ (hw _ (List.mem_of_getElem? (i := 30) rfl)))) (mvT hZ (hw _ (List.mem_of_getElem? (i := 30) rfl))) (mvT hZ (hw _ (List.mem_of_getElem? (i := 29) rfl))) (by decide) (backOf (W := 0) (rm5 l Z a0 hw [] b8 r1 b1 t1 kA kb kk asc5 T5' n5' tc5 lg5 [xe, xd, xc, xb, xa] F5 T14.heap n0 PS5.2.2.2.2.2.2.2.2.2.2 PS5 SP1 Iv5 (Nat.le_of_ble_eq_true rfl) hn5 ht5 hr1p) hZ (hw _ (List.mem_of_getElem? (i := 31) rfl)) (hw _ (List.mem_of_getElem? (i := 11) rfl)) (by decide) (by decide)) q15a q15c (g := (mkF m 163 #[.val (.long q1), .second, .val (.long q2), .second, .val (.long q3), .second, .val (.long q4), .second, .val (.long q5), .second, .val (.int p6), .val (.long xa), .second, .val (.long xb), .second, .val (.long xc), .second, .val (.long xd), .second, .val (.long xe), .second, .val (.int ((((p6.toUInt32 >>> ((5 : Int32) &&& 31).toUInt32).toInt32) &&& (7 : Int32)) % (5 : Int32))), .val (.int ((((p6.toUInt32 >>> ((8 : Int32) &&& 31).toUInt32).toInt32) &&& (7 : Int32)) % (5 : Int32))), .val (.long r1), .second, .val (.long r2), .second, .val (.ref b8), .val (.int (1 : Int32)), .val (.int rb), .val (.int rc), .val (.int rd), .val (.int re), .unset, .unset, .unset, .unset, .unset, .unset] [(.long r1), (.ref b8)])) rfl (by rw [hml]; rfl) (Steps.refl _) (argsL := [(.long r1)]) (rest := []) (lenOf pd_2 rfl) rfl (by show 2 * 0 + _ ≤ _; exact Nat.le_of_eq rfl) (hb hby at_163) (fun _ _ => ⟨rfl, rfl, (by decide : 4 + 0 ≤ _), (by decide : 17415 + 0 ≤ _)⟩)
  dsimp only [Pt.U, Pt.locs, Pt.cells, Pt.slots] at X15 l15 y15 z15 st15 hQ15
  subst l15 y15 z15
  obtain ⟨hv15, N15q, asc6, T6', F6, n6', tc6, lg6, PS6, Iv6, hn6, ht6⟩ := hQ15
  obtain ⟨g1, eg1⟩ : ∃ z : Int32, z = if r1 ∈ [xe, xd, xc, xb, xa] then 0 else 1 := ⟨_, rfl⟩
  rw [← eg1] at hv15
  subst hv15
  have N15 := Fr.app N14 N15q
  obtain ⟨cq16, kq16, q16a, q16b, q16c⟩ := isOf hZ rfl PS6.1
  obtain ⟨_, _, ⟨T16, L16, k16, n16⟩, -, X16, ⟨Lc16, hQ16, l16, y16, z16⟩, st16⟩ := X15.virtualBack hx (y := (⟨"com/example/dilate_query/dilatequery/collection/PostIds", "add", "(J)Z"⟩ : MethodName)) (z := (⟨"com/example/dilate_query/dilatequery/collection/PostIds", "add", "(J)Z"⟩ : MethodName)) hown (mvT hZ (hw _ (List.mem_of_getElem? (i := 27) rfl))) (mvT hZ (hw _ (List.mem_of_getElem? (i := 28) rfl))) (notFace_of_selects (args := #[]) (mvT hZ (hw _ (List.mem_of_getElem? (i := 30) rfl)))) (mvT hZ (hw _ (List.mem_of_getElem? (i := 30) rfl))) (mvT hZ (hw _ (List.mem_of_getElem? (i := 29) rfl))) (by decide) (backOf (W := 0) (rm5 l Z a0 hw [] b8 r2 b1 t1 kA kb kk asc6 T6' n6' tc6 lg6 [r1, xe, xd, xc, xb, xa] F6 T15.heap n0 PS6.2.2.2.2.2.2.2.2.2.2 PS6 SP1 Iv6 (Nat.le_of_ble_eq_true rfl) hn6 ht6 hr2p) hZ (hw _ (List.mem_of_getElem? (i := 31) rfl)) (hw _ (List.mem_of_getElem? (i := 11) rfl)) (by decide) (by decide)) q16a q16c (g := (mkF m 172 #[.val (.long q1), .second, .val (.long q2), .second, .val (.long q3), .second, .val (.long q4), .second, .val (.long q5), .second, .val (.int p6), .val (.long xa), .second, .val (.long xb), .second, .val (.long xc), .second, .val (.long xd), .second, .val (.long xe), .second, .val (.int ((((p6.toUInt32 >>> ((5 : Int32) &&& 31).toUInt32).toInt32) &&& (7 : Int32)) % (5 : Int32))), .val (.int ((((p6.toUInt32 >>> ((8 : Int32) &&& 31).toUInt32).toInt32) &&& (7 : Int32)) % (5 : Int32))), .val (.long r1), .second, .val (.long r2), .second, .val (.ref b8), .val (.int (1 : Int32)), .val (.int rb), .val (.int rc), .val (.int rd), .val (.int re), .val (.int g1), .unset, .unset, .unset, .unset, .unset] [(.long r2), (.ref b8)])) rfl (by rw [hml]; rfl) (Steps.refl _) (argsL := [(.long r2)]) (rest := []) (lenOf pd_2 rfl) rfl (by show 2 * 0 + _ ≤ _; exact Nat.le_of_eq rfl) (hb hby at_172) (fun _ _ => ⟨rfl, rfl, (by decide : 4 + 0 ≤ _), (by decide : 17415 + 0 ≤ _)⟩)
  dsimp only [Pt.U, Pt.locs, Pt.cells, Pt.slots] at X16 l16 y16 z16 st16 hQ16
  subst l16 y16 z16
  obtain ⟨hv16, N16q, asc7, T7', F7, n7', tc7, lg7, PS7, Iv7, hn7, ht7⟩ := hQ16
  obtain ⟨g2, eg2⟩ : ∃ z : Int32, z = if r2 ∈ [r1, xe, xd, xc, xb, xa] then 0 else 1 := ⟨_, rfl⟩
  rw [← eg2] at hv16
  subst hv16
  have N16 := Fr.app N15 N16q
  have hg1 : g1 = 0 := by rw [eg1, if_pos hr1]
  have hg2 : g2 = 0 := by rw [eg2, if_pos (List.mem_cons_of_mem _ hr2)]
  obtain ⟨eb, eeb⟩ : ∃ z : Int32, z = if xb ∈ [xa] then 0 else 1 := ⟨_, rfl⟩
  obtain ⟨ec, eec⟩ : ∃ z : Int32, z = if xc ∈ [xb, xa] then 0 else 1 := ⟨_, rfl⟩
  obtain ⟨ed, eed⟩ : ∃ z : Int32, z = if xd ∈ [xc, xb, xa] then 0 else 1 := ⟨_, rfl⟩
  obtain ⟨ee, eee⟩ : ∃ z : Int32, z = if xe ∈ [xd, xc, xb, xa] then 0 else 1 := ⟨_, rfl⟩
  have hqb : rb = eb := by rw [erb, eeb]
  have hqc : rc = ec := by rw [erc, eec]
  have hqd : rd = ed := by rw [erd, eed]
  have hqe : re = ee := by rw [ere, eee]
  obtain ⟨fs, hr, hrun, hended, hW, hsame⟩ := X16.leave (v := some (.int (1 : Int32))) (fun h => by rw [Bd.returns] at h; cases h)
  refine ⟨_, _, pre0 _ ?_, hrun, hended, _, _, rfl, ?_, ⟨_, rfl⟩, hW, hsame.mono (by decide) (by decide)⟩
  · show Steps p.tables e below (s₁.setTop (mkF m 0 #[.val (.long q1), .second, .val (.long q2), .second, .val (.long q3), .second, .val (.long q4), .second, .val (.long q5), .second, .val (.int p6), .unset, .unset, .unset, .unset, .unset, .unset, .unset, .unset, .unset, .unset, .unset, .unset, .unset, .unset, .unset, .unset, .unset, .unset, .unset, .unset, .unset, .unset, .unset, .unset, .unset, .unset, .unset, .unset] [])) _
    refine XS.lloadN X0.here hx rfl (hb hby at_0) rfl ?_
    show Steps p.tables e below (s₁.setTop (mkF m 1 #[.val (.long q1), .second, .val (.long q2), .second, .val (.long q3), .second, .val (.long q4), .second, .val (.long q5), .second, .val (.int p6), .unset, .unset, .unset, .unset, .unset, .unset, .unset, .unset, .unset, .unset, .unset, .unset, .unset, .unset, .unset, .unset, .unset, .unset, .unset, .unset, .unset, .unset, .unset, .unset, .unset, .unset, .unset, .unset] [(.long q1)])) _
    refine XS.iload X0.here hx rfl (hb hby at_1) rfl ?_
    show Steps p.tables e below (s₁.setTop (mkF m 3 #[.val (.long q1), .second, .val (.long q2), .second, .val (.long q3), .second, .val (.long q4), .second, .val (.long q5), .second, .val (.int p6), .unset, .unset, .unset, .unset, .unset, .unset, .unset, .unset, .unset, .unset, .unset, .unset, .unset, .unset, .unset, .unset, .unset, .unset, .unset, .unset, .unset, .unset, .unset, .unset, .unset, .unset, .unset, .unset] [(.int p6), (.long q1)])) _
    refine XS.iconst X0.here hx rfl (hb hby at_3) ?_
    show Steps p.tables e below (s₁.setTop (mkF m 4 #[.val (.long q1), .second, .val (.long q2), .second, .val (.long q3), .second, .val (.long q4), .second, .val (.long q5), .second, .val (.int p6), .unset, .unset, .unset, .unset, .unset, .unset, .unset, .unset, .unset, .unset, .unset, .unset, .unset, .unset, .unset, .unset, .unset, .unset, .unset, .unset, .unset, .unset, .unset, .unset, .unset, .unset, .unset, .unset] [(.int (0 : Int32)), (.int p6), (.long q1)])) _
    refine st1 _ ?_
    show Steps p.tables e below (T1.setTop (mkF m 7 #[.val (.long q1), .second, .val (.long q2), .second, .val (.long q3), .second, .val (.long q4), .second, .val (.long q5), .second, .val (.int p6), .unset, .unset, .unset, .unset, .unset, .unset, .unset, .unset, .unset, .unset, .unset, .unset, .unset, .unset, .unset, .unset, .unset, .unset, .unset, .unset, .unset, .unset, .unset, .unset, .unset, .unset, .unset, .unset] [(.long xa)])) _
    refine XS.lstore X1.here hx rfl (hb hby at_7) rfl (l' := #[.val (.long q1), .second, .val (.long q2), .second, .val (.long q3), .second, .val (.long q4), .second, .val (.long q5), .second, .val (.int p6), .val (.long xa), .second, .unset, .unset, .unset, .unset, .unset, .unset, .unset, .unset, .unset, .unset, .unset, .unset, .unset, .unset, .unset, .unset, .unset, .unset, .unset, .unset, .unset, .unset, .unset, .unset, .unset, .unset]) rfl ?_
    show Steps p.tables e below (T1.setTop (mkF m 9 #[.val (.long q1), .second, .val (.long q2), .second, .val (.long q3), .second, .val (.long q4), .second, .val (.long q5), .second, .val (.int p6), .val (.long xa), .second, .unset, .unset, .unset, .unset, .unset, .unset, .unset, .unset, .unset, .unset, .unset, .unset, .unset, .unset, .unset, .unset, .unset, .unset, .unset, .unset, .unset, .unset, .unset, .unset, .unset, .unset] [])) _
    refine XS.lloadN X1.here hx rfl (hb hby at_9) rfl ?_
    show Steps p.tables e below (T1.setTop (mkF m 10 #[.val (.long q1), .second, .val (.long q2), .second, .val (.long q3), .second, .val (.long q4), .second, .val (.long q5), .second, .val (.int p6), .val (.long xa), .second, .unset, .unset, .unset, .unset, .unset, .unset, .unset, .unset, .unset, .unset, .unset, .unset, .unset, .unset, .unset, .unset, .unset, .unset, .unset, .unset, .unset, .unset, .unset, .unset, .unset, .unset] [(.long q2)])) _
    refine XS.iload X1.here hx rfl (hb hby at_10) rfl ?_
    show Steps p.tables e below (T1.setTop (mkF m 12 #[.val (.long q1), .second, .val (.long q2), .second, .val (.long q3), .second, .val (.long q4), .second, .val (.long q5), .second, .val (.int p6), .val (.long xa), .second, .unset, .unset, .unset, .unset, .unset, .unset, .unset, .unset, .unset, .unset, .unset, .unset, .unset, .unset, .unset, .unset, .unset, .unset, .unset, .unset, .unset, .unset, .unset, .unset, .unset, .unset] [(.int p6), (.long q2)])) _
    refine XS.iconst X1.here hx rfl (hb hby at_12) ?_
    show Steps p.tables e below (T1.setTop (mkF m 13 #[.val (.long q1), .second, .val (.long q2), .second, .val (.long q3), .second, .val (.long q4), .second, .val (.long q5), .second, .val (.int p6), .val (.long xa), .second, .unset, .unset, .unset, .unset, .unset, .unset, .unset, .unset, .unset, .unset, .unset, .unset, .unset, .unset, .unset, .unset, .unset, .unset, .unset, .unset, .unset, .unset, .unset, .unset, .unset, .unset] [(.int (1 : Int32)), (.int p6), (.long q2)])) _
    refine st2 _ ?_
    show Steps p.tables e below (T2.setTop (mkF m 16 #[.val (.long q1), .second, .val (.long q2), .second, .val (.long q3), .second, .val (.long q4), .second, .val (.long q5), .second, .val (.int p6), .val (.long xa), .second, .unset, .unset, .unset, .unset, .unset, .unset, .unset, .unset, .unset, .unset, .unset, .unset, .unset, .unset, .unset, .unset, .unset, .unset, .unset, .unset, .unset, .unset, .unset, .unset, .unset, .unset] [(.long xb)])) _
    refine XS.lstore X2.here hx rfl (hb hby at_16) rfl (l' := #[.val (.long q1), .second, .val (.long q2), .second, .val (.long q3), .second, .val (.long q4), .second, .val (.long q5), .second, .val (.int p6), .val (.long xa), .second, .val (.long xb), .second, .unset, .unset, .unset, .unset, .unset, .unset, .unset, .unset, .unset, .unset, .unset, .unset, .unset, .unset, .unset, .unset, .unset, .unset, .unset, .unset, .unset, .unset, .unset, .unset]) rfl ?_
    show Steps p.tables e below (T2.setTop (mkF m 18 #[.val (.long q1), .second, .val (.long q2), .second, .val (.long q3), .second, .val (.long q4), .second, .val (.long q5), .second, .val (.int p6), .val (.long xa), .second, .val (.long xb), .second, .unset, .unset, .unset, .unset, .unset, .unset, .unset, .unset, .unset, .unset, .unset, .unset, .unset, .unset, .unset, .unset, .unset, .unset, .unset, .unset, .unset, .unset, .unset, .unset] [])) _
    refine XS.lload X2.here hx rfl (hb hby at_18) rfl ?_
    show Steps p.tables e below (T2.setTop (mkF m 20 #[.val (.long q1), .second, .val (.long q2), .second, .val (.long q3), .second, .val (.long q4), .second, .val (.long q5), .second, .val (.int p6), .val (.long xa), .second, .val (.long xb), .second, .unset, .unset, .unset, .unset, .unset, .unset, .unset, .unset, .unset, .unset, .unset, .unset, .unset, .unset, .unset, .unset, .unset, .unset, .unset, .unset, .unset, .unset, .unset, .unset] [(.long q3)])) _
    refine XS.iload X2.here hx rfl (hb hby at_20) rfl ?_
    show Steps p.tables e below (T2.setTop (mkF m 22 #[.val (.long q1), .second, .val (.long q2), .second, .val (.long q3), .second, .val (.long q4), .second, .val (.long q5), .second, .val (.int p6), .val (.long xa), .second, .val (.long xb), .second, .unset, .unset, .unset, .unset, .unset, .unset, .unset, .unset, .unset, .unset, .unset, .unset, .unset, .unset, .unset, .unset, .unset, .unset, .unset, .unset, .unset, .unset, .unset, .unset] [(.int p6), (.long q3)])) _
    refine XS.iconst X2.here hx rfl (hb hby at_22) ?_
    show Steps p.tables e below (T2.setTop (mkF m 23 #[.val (.long q1), .second, .val (.long q2), .second, .val (.long q3), .second, .val (.long q4), .second, .val (.long q5), .second, .val (.int p6), .val (.long xa), .second, .val (.long xb), .second, .unset, .unset, .unset, .unset, .unset, .unset, .unset, .unset, .unset, .unset, .unset, .unset, .unset, .unset, .unset, .unset, .unset, .unset, .unset, .unset, .unset, .unset, .unset, .unset] [(.int (2 : Int32)), (.int p6), (.long q3)])) _
    refine st3 _ ?_
    show Steps p.tables e below (T3.setTop (mkF m 26 #[.val (.long q1), .second, .val (.long q2), .second, .val (.long q3), .second, .val (.long q4), .second, .val (.long q5), .second, .val (.int p6), .val (.long xa), .second, .val (.long xb), .second, .unset, .unset, .unset, .unset, .unset, .unset, .unset, .unset, .unset, .unset, .unset, .unset, .unset, .unset, .unset, .unset, .unset, .unset, .unset, .unset, .unset, .unset, .unset, .unset] [(.long xc)])) _
    refine XS.lstore X3.here hx rfl (hb hby at_26) rfl (l' := #[.val (.long q1), .second, .val (.long q2), .second, .val (.long q3), .second, .val (.long q4), .second, .val (.long q5), .second, .val (.int p6), .val (.long xa), .second, .val (.long xb), .second, .val (.long xc), .second, .unset, .unset, .unset, .unset, .unset, .unset, .unset, .unset, .unset, .unset, .unset, .unset, .unset, .unset, .unset, .unset, .unset, .unset, .unset, .unset, .unset, .unset]) rfl ?_
    show Steps p.tables e below (T3.setTop (mkF m 28 #[.val (.long q1), .second, .val (.long q2), .second, .val (.long q3), .second, .val (.long q4), .second, .val (.long q5), .second, .val (.int p6), .val (.long xa), .second, .val (.long xb), .second, .val (.long xc), .second, .unset, .unset, .unset, .unset, .unset, .unset, .unset, .unset, .unset, .unset, .unset, .unset, .unset, .unset, .unset, .unset, .unset, .unset, .unset, .unset, .unset, .unset] [])) _
    refine XS.lload X3.here hx rfl (hb hby at_28) rfl ?_
    show Steps p.tables e below (T3.setTop (mkF m 30 #[.val (.long q1), .second, .val (.long q2), .second, .val (.long q3), .second, .val (.long q4), .second, .val (.long q5), .second, .val (.int p6), .val (.long xa), .second, .val (.long xb), .second, .val (.long xc), .second, .unset, .unset, .unset, .unset, .unset, .unset, .unset, .unset, .unset, .unset, .unset, .unset, .unset, .unset, .unset, .unset, .unset, .unset, .unset, .unset, .unset, .unset] [(.long q4)])) _
    refine XS.iload X3.here hx rfl (hb hby at_30) rfl ?_
    show Steps p.tables e below (T3.setTop (mkF m 32 #[.val (.long q1), .second, .val (.long q2), .second, .val (.long q3), .second, .val (.long q4), .second, .val (.long q5), .second, .val (.int p6), .val (.long xa), .second, .val (.long xb), .second, .val (.long xc), .second, .unset, .unset, .unset, .unset, .unset, .unset, .unset, .unset, .unset, .unset, .unset, .unset, .unset, .unset, .unset, .unset, .unset, .unset, .unset, .unset, .unset, .unset] [(.int p6), (.long q4)])) _
    refine XS.iconst X3.here hx rfl (hb hby at_32) ?_
    show Steps p.tables e below (T3.setTop (mkF m 33 #[.val (.long q1), .second, .val (.long q2), .second, .val (.long q3), .second, .val (.long q4), .second, .val (.long q5), .second, .val (.int p6), .val (.long xa), .second, .val (.long xb), .second, .val (.long xc), .second, .unset, .unset, .unset, .unset, .unset, .unset, .unset, .unset, .unset, .unset, .unset, .unset, .unset, .unset, .unset, .unset, .unset, .unset, .unset, .unset, .unset, .unset] [(.int (3 : Int32)), (.int p6), (.long q4)])) _
    refine st4 _ ?_
    show Steps p.tables e below (T4.setTop (mkF m 36 #[.val (.long q1), .second, .val (.long q2), .second, .val (.long q3), .second, .val (.long q4), .second, .val (.long q5), .second, .val (.int p6), .val (.long xa), .second, .val (.long xb), .second, .val (.long xc), .second, .unset, .unset, .unset, .unset, .unset, .unset, .unset, .unset, .unset, .unset, .unset, .unset, .unset, .unset, .unset, .unset, .unset, .unset, .unset, .unset, .unset, .unset] [(.long xd)])) _
    refine XS.lstore X4.here hx rfl (hb hby at_36) rfl (l' := #[.val (.long q1), .second, .val (.long q2), .second, .val (.long q3), .second, .val (.long q4), .second, .val (.long q5), .second, .val (.int p6), .val (.long xa), .second, .val (.long xb), .second, .val (.long xc), .second, .val (.long xd), .second, .unset, .unset, .unset, .unset, .unset, .unset, .unset, .unset, .unset, .unset, .unset, .unset, .unset, .unset, .unset, .unset, .unset, .unset, .unset, .unset]) rfl ?_
    show Steps p.tables e below (T4.setTop (mkF m 38 #[.val (.long q1), .second, .val (.long q2), .second, .val (.long q3), .second, .val (.long q4), .second, .val (.long q5), .second, .val (.int p6), .val (.long xa), .second, .val (.long xb), .second, .val (.long xc), .second, .val (.long xd), .second, .unset, .unset, .unset, .unset, .unset, .unset, .unset, .unset, .unset, .unset, .unset, .unset, .unset, .unset, .unset, .unset, .unset, .unset, .unset, .unset] [])) _
    refine XS.lload X4.here hx rfl (hb hby at_38) rfl ?_
    show Steps p.tables e below (T4.setTop (mkF m 40 #[.val (.long q1), .second, .val (.long q2), .second, .val (.long q3), .second, .val (.long q4), .second, .val (.long q5), .second, .val (.int p6), .val (.long xa), .second, .val (.long xb), .second, .val (.long xc), .second, .val (.long xd), .second, .unset, .unset, .unset, .unset, .unset, .unset, .unset, .unset, .unset, .unset, .unset, .unset, .unset, .unset, .unset, .unset, .unset, .unset, .unset, .unset] [(.long q5)])) _
    refine XS.iload X4.here hx rfl (hb hby at_40) rfl ?_
    show Steps p.tables e below (T4.setTop (mkF m 42 #[.val (.long q1), .second, .val (.long q2), .second, .val (.long q3), .second, .val (.long q4), .second, .val (.long q5), .second, .val (.int p6), .val (.long xa), .second, .val (.long xb), .second, .val (.long xc), .second, .val (.long xd), .second, .unset, .unset, .unset, .unset, .unset, .unset, .unset, .unset, .unset, .unset, .unset, .unset, .unset, .unset, .unset, .unset, .unset, .unset, .unset, .unset] [(.int p6), (.long q5)])) _
    refine XS.iconst X4.here hx rfl (hb hby at_42) ?_
    show Steps p.tables e below (T4.setTop (mkF m 43 #[.val (.long q1), .second, .val (.long q2), .second, .val (.long q3), .second, .val (.long q4), .second, .val (.long q5), .second, .val (.int p6), .val (.long xa), .second, .val (.long xb), .second, .val (.long xc), .second, .val (.long xd), .second, .unset, .unset, .unset, .unset, .unset, .unset, .unset, .unset, .unset, .unset, .unset, .unset, .unset, .unset, .unset, .unset, .unset, .unset, .unset, .unset] [(.int (4 : Int32)), (.int p6), (.long q5)])) _
    refine st5 _ ?_
    show Steps p.tables e below (T5.setTop (mkF m 46 #[.val (.long q1), .second, .val (.long q2), .second, .val (.long q3), .second, .val (.long q4), .second, .val (.long q5), .second, .val (.int p6), .val (.long xa), .second, .val (.long xb), .second, .val (.long xc), .second, .val (.long xd), .second, .unset, .unset, .unset, .unset, .unset, .unset, .unset, .unset, .unset, .unset, .unset, .unset, .unset, .unset, .unset, .unset, .unset, .unset, .unset, .unset] [(.long xe)])) _
    refine XS.lstore X5.here hx rfl (hb hby at_46) rfl (l' := #[.val (.long q1), .second, .val (.long q2), .second, .val (.long q3), .second, .val (.long q4), .second, .val (.long q5), .second, .val (.int p6), .val (.long xa), .second, .val (.long xb), .second, .val (.long xc), .second, .val (.long xd), .second, .val (.long xe), .second, .unset, .unset, .unset, .unset, .unset, .unset, .unset, .unset, .unset, .unset, .unset, .unset, .unset, .unset, .unset, .unset, .unset, .unset]) rfl ?_
    show Steps p.tables e below (T5.setTop (mkF m 48 #[.val (.long q1), .second, .val (.long q2), .second, .val (.long q3), .second, .val (.long q4), .second, .val (.long q5), .second, .val (.int p6), .val (.long xa), .second, .val (.long xb), .second, .val (.long xc), .second, .val (.long xd), .second, .val (.long xe), .second, .unset, .unset, .unset, .unset, .unset, .unset, .unset, .unset, .unset, .unset, .unset, .unset, .unset, .unset, .unset, .unset, .unset, .unset] [])) _
    refine XS.iload X5.here hx rfl (hb hby at_48) rfl ?_
    show Steps p.tables e below (T5.setTop (mkF m 50 #[.val (.long q1), .second, .val (.long q2), .second, .val (.long q3), .second, .val (.long q4), .second, .val (.long q5), .second, .val (.int p6), .val (.long xa), .second, .val (.long xb), .second, .val (.long xc), .second, .val (.long xd), .second, .val (.long xe), .second, .unset, .unset, .unset, .unset, .unset, .unset, .unset, .unset, .unset, .unset, .unset, .unset, .unset, .unset, .unset, .unset, .unset, .unset] [(.int p6)])) _
    refine XS.iconst X5.here hx rfl (hb hby at_50) ?_
    show Steps p.tables e below (T5.setTop (mkF m 51 #[.val (.long q1), .second, .val (.long q2), .second, .val (.long q3), .second, .val (.long q4), .second, .val (.long q5), .second, .val (.int p6), .val (.long xa), .second, .val (.long xb), .second, .val (.long xc), .second, .val (.long xd), .second, .val (.long xe), .second, .unset, .unset, .unset, .unset, .unset, .unset, .unset, .unset, .unset, .unset, .unset, .unset, .unset, .unset, .unset, .unset, .unset, .unset] [(.int (5 : Int32)), (.int p6)])) _
    refine XS.iushr X5.here hx rfl (hb hby at_51) rfl ?_
    show Steps p.tables e below (T5.setTop (mkF m 52 #[.val (.long q1), .second, .val (.long q2), .second, .val (.long q3), .second, .val (.long q4), .second, .val (.long q5), .second, .val (.int p6), .val (.long xa), .second, .val (.long xb), .second, .val (.long xc), .second, .val (.long xd), .second, .val (.long xe), .second, .unset, .unset, .unset, .unset, .unset, .unset, .unset, .unset, .unset, .unset, .unset, .unset, .unset, .unset, .unset, .unset, .unset, .unset] [(.int ((p6.toUInt32 >>> ((5 : Int32) &&& 31).toUInt32).toInt32))])) _
    refine XS.bipush X5.here hx rfl (hb hby at_52) ?_
    show Steps p.tables e below (T5.setTop (mkF m 54 #[.val (.long q1), .second, .val (.long q2), .second, .val (.long q3), .second, .val (.long q4), .second, .val (.long q5), .second, .val (.int p6), .val (.long xa), .second, .val (.long xb), .second, .val (.long xc), .second, .val (.long xd), .second, .val (.long xe), .second, .unset, .unset, .unset, .unset, .unset, .unset, .unset, .unset, .unset, .unset, .unset, .unset, .unset, .unset, .unset, .unset, .unset, .unset] [(.int (7 : Int32)), (.int ((p6.toUInt32 >>> ((5 : Int32) &&& 31).toUInt32).toInt32))])) _
    refine XS.iand X5.here hx rfl (hb hby at_54) rfl ?_
    show Steps p.tables e below (T5.setTop (mkF m 55 #[.val (.long q1), .second, .val (.long q2), .second, .val (.long q3), .second, .val (.long q4), .second, .val (.long q5), .second, .val (.int p6), .val (.long xa), .second, .val (.long xb), .second, .val (.long xc), .second, .val (.long xd), .second, .val (.long xe), .second, .unset, .unset, .unset, .unset, .unset, .unset, .unset, .unset, .unset, .unset, .unset, .unset, .unset, .unset, .unset, .unset, .unset, .unset] [(.int (((p6.toUInt32 >>> ((5 : Int32) &&& 31).toUInt32).toInt32) &&& (7 : Int32)))])) _
    refine XS.iconst X5.here hx rfl (hb hby at_55) ?_
    show Steps p.tables e below (T5.setTop (mkF m 56 #[.val (.long q1), .second, .val (.long q2), .second, .val (.long q3), .second, .val (.long q4), .second, .val (.long q5), .second, .val (.int p6), .val (.long xa), .second, .val (.long xb), .second, .val (.long xc), .second, .val (.long xd), .second, .val (.long xe), .second, .unset, .unset, .unset, .unset, .unset, .unset, .unset, .unset, .unset, .unset, .unset, .unset, .unset, .unset, .unset, .unset, .unset, .unset] [(.int (5 : Int32)), (.int (((p6.toUInt32 >>> ((5 : Int32) &&& 31).toUInt32).toInt32) &&& (7 : Int32)))])) _
    refine iremM X5 hx (g := (mkF m 56 #[.val (.long q1), .second, .val (.long q2), .second, .val (.long q3), .second, .val (.long q4), .second, .val (.long q5), .second, .val (.int p6), .val (.long xa), .second, .val (.long xb), .second, .val (.long xc), .second, .val (.long xd), .second, .val (.long xe), .second, .unset, .unset, .unset, .unset, .unset, .unset, .unset, .unset, .unset, .unset, .unset, .unset, .unset, .unset, .unset, .unset, .unset, .unset] [(.int (5 : Int32)), (.int (((p6.toUInt32 >>> ((5 : Int32) &&& 31).toUInt32).toInt32) &&& (7 : Int32)))])) rfl (hb hby at_56) rfl (by decide +kernel) ?_
    show Steps p.tables e below (T5.setTop (mkF m 57 #[.val (.long q1), .second, .val (.long q2), .second, .val (.long q3), .second, .val (.long q4), .second, .val (.long q5), .second, .val (.int p6), .val (.long xa), .second, .val (.long xb), .second, .val (.long xc), .second, .val (.long xd), .second, .val (.long xe), .second, .unset, .unset, .unset, .unset, .unset, .unset, .unset, .unset, .unset, .unset, .unset, .unset, .unset, .unset, .unset, .unset, .unset, .unset] [(.int ((((p6.toUInt32 >>> ((5 : Int32) &&& 31).toUInt32).toInt32) &&& (7 : Int32)) % (5 : Int32)))])) _
    refine XS.istore X5.here hx rfl (hb hby at_57) rfl (l' := #[.val (.long q1), .second, .val (.long q2), .second, .val (.long q3), .second, .val (.long q4), .second, .val (.long q5), .second, .val (.int p6), .val (.long xa), .second, .val (.long xb), .second, .val (.long xc), .second, .val (.long xd), .second, .val (.long xe), .second, .val (.int ((((p6.toUInt32 >>> ((5 : Int32) &&& 31).toUInt32).toInt32) &&& (7 : Int32)) % (5 : Int32))), .unset, .unset, .unset, .unset, .unset, .unset, .unset, .unset, .unset, .unset, .unset, .unset, .unset, .unset, .unset, .unset, .unset]) rfl ?_
    show Steps p.tables e below (T5.setTop (mkF m 59 #[.val (.long q1), .second, .val (.long q2), .second, .val (.long q3), .second, .val (.long q4), .second, .val (.long q5), .second, .val (.int p6), .val (.long xa), .second, .val (.long xb), .second, .val (.long xc), .second, .val (.long xd), .second, .val (.long xe), .second, .val (.int ((((p6.toUInt32 >>> ((5 : Int32) &&& 31).toUInt32).toInt32) &&& (7 : Int32)) % (5 : Int32))), .unset, .unset, .unset, .unset, .unset, .unset, .unset, .unset, .unset, .unset, .unset, .unset, .unset, .unset, .unset, .unset, .unset] [])) _
    refine XS.iload X5.here hx rfl (hb hby at_59) rfl ?_
    show Steps p.tables e below (T5.setTop (mkF m 61 #[.val (.long q1), .second, .val (.long q2), .second, .val (.long q3), .second, .val (.long q4), .second, .val (.long q5), .second, .val (.int p6), .val (.long xa), .second, .val (.long xb), .second, .val (.long xc), .second, .val (.long xd), .second, .val (.long xe), .second, .val (.int ((((p6.toUInt32 >>> ((5 : Int32) &&& 31).toUInt32).toInt32) &&& (7 : Int32)) % (5 : Int32))), .unset, .unset, .unset, .unset, .unset, .unset, .unset, .unset, .unset, .unset, .unset, .unset, .unset, .unset, .unset, .unset, .unset] [(.int p6)])) _
    refine XS.bipush X5.here hx rfl (hb hby at_61) ?_
    show Steps p.tables e below (T5.setTop (mkF m 63 #[.val (.long q1), .second, .val (.long q2), .second, .val (.long q3), .second, .val (.long q4), .second, .val (.long q5), .second, .val (.int p6), .val (.long xa), .second, .val (.long xb), .second, .val (.long xc), .second, .val (.long xd), .second, .val (.long xe), .second, .val (.int ((((p6.toUInt32 >>> ((5 : Int32) &&& 31).toUInt32).toInt32) &&& (7 : Int32)) % (5 : Int32))), .unset, .unset, .unset, .unset, .unset, .unset, .unset, .unset, .unset, .unset, .unset, .unset, .unset, .unset, .unset, .unset, .unset] [(.int (8 : Int32)), (.int p6)])) _
    refine XS.iushr X5.here hx rfl (hb hby at_63) rfl ?_
    show Steps p.tables e below (T5.setTop (mkF m 64 #[.val (.long q1), .second, .val (.long q2), .second, .val (.long q3), .second, .val (.long q4), .second, .val (.long q5), .second, .val (.int p6), .val (.long xa), .second, .val (.long xb), .second, .val (.long xc), .second, .val (.long xd), .second, .val (.long xe), .second, .val (.int ((((p6.toUInt32 >>> ((5 : Int32) &&& 31).toUInt32).toInt32) &&& (7 : Int32)) % (5 : Int32))), .unset, .unset, .unset, .unset, .unset, .unset, .unset, .unset, .unset, .unset, .unset, .unset, .unset, .unset, .unset, .unset, .unset] [(.int ((p6.toUInt32 >>> ((8 : Int32) &&& 31).toUInt32).toInt32))])) _
    refine XS.bipush X5.here hx rfl (hb hby at_64) ?_
    show Steps p.tables e below (T5.setTop (mkF m 66 #[.val (.long q1), .second, .val (.long q2), .second, .val (.long q3), .second, .val (.long q4), .second, .val (.long q5), .second, .val (.int p6), .val (.long xa), .second, .val (.long xb), .second, .val (.long xc), .second, .val (.long xd), .second, .val (.long xe), .second, .val (.int ((((p6.toUInt32 >>> ((5 : Int32) &&& 31).toUInt32).toInt32) &&& (7 : Int32)) % (5 : Int32))), .unset, .unset, .unset, .unset, .unset, .unset, .unset, .unset, .unset, .unset, .unset, .unset, .unset, .unset, .unset, .unset, .unset] [(.int (7 : Int32)), (.int ((p6.toUInt32 >>> ((8 : Int32) &&& 31).toUInt32).toInt32))])) _
    refine XS.iand X5.here hx rfl (hb hby at_66) rfl ?_
    show Steps p.tables e below (T5.setTop (mkF m 67 #[.val (.long q1), .second, .val (.long q2), .second, .val (.long q3), .second, .val (.long q4), .second, .val (.long q5), .second, .val (.int p6), .val (.long xa), .second, .val (.long xb), .second, .val (.long xc), .second, .val (.long xd), .second, .val (.long xe), .second, .val (.int ((((p6.toUInt32 >>> ((5 : Int32) &&& 31).toUInt32).toInt32) &&& (7 : Int32)) % (5 : Int32))), .unset, .unset, .unset, .unset, .unset, .unset, .unset, .unset, .unset, .unset, .unset, .unset, .unset, .unset, .unset, .unset, .unset] [(.int (((p6.toUInt32 >>> ((8 : Int32) &&& 31).toUInt32).toInt32) &&& (7 : Int32)))])) _
    refine XS.iconst X5.here hx rfl (hb hby at_67) ?_
    show Steps p.tables e below (T5.setTop (mkF m 68 #[.val (.long q1), .second, .val (.long q2), .second, .val (.long q3), .second, .val (.long q4), .second, .val (.long q5), .second, .val (.int p6), .val (.long xa), .second, .val (.long xb), .second, .val (.long xc), .second, .val (.long xd), .second, .val (.long xe), .second, .val (.int ((((p6.toUInt32 >>> ((5 : Int32) &&& 31).toUInt32).toInt32) &&& (7 : Int32)) % (5 : Int32))), .unset, .unset, .unset, .unset, .unset, .unset, .unset, .unset, .unset, .unset, .unset, .unset, .unset, .unset, .unset, .unset, .unset] [(.int (5 : Int32)), (.int (((p6.toUInt32 >>> ((8 : Int32) &&& 31).toUInt32).toInt32) &&& (7 : Int32)))])) _
    refine iremM X5 hx (g := (mkF m 68 #[.val (.long q1), .second, .val (.long q2), .second, .val (.long q3), .second, .val (.long q4), .second, .val (.long q5), .second, .val (.int p6), .val (.long xa), .second, .val (.long xb), .second, .val (.long xc), .second, .val (.long xd), .second, .val (.long xe), .second, .val (.int ((((p6.toUInt32 >>> ((5 : Int32) &&& 31).toUInt32).toInt32) &&& (7 : Int32)) % (5 : Int32))), .unset, .unset, .unset, .unset, .unset, .unset, .unset, .unset, .unset, .unset, .unset, .unset, .unset, .unset, .unset, .unset, .unset] [(.int (5 : Int32)), (.int (((p6.toUInt32 >>> ((8 : Int32) &&& 31).toUInt32).toInt32) &&& (7 : Int32)))])) rfl (hb hby at_68) rfl (by decide +kernel) ?_
    show Steps p.tables e below (T5.setTop (mkF m 69 #[.val (.long q1), .second, .val (.long q2), .second, .val (.long q3), .second, .val (.long q4), .second, .val (.long q5), .second, .val (.int p6), .val (.long xa), .second, .val (.long xb), .second, .val (.long xc), .second, .val (.long xd), .second, .val (.long xe), .second, .val (.int ((((p6.toUInt32 >>> ((5 : Int32) &&& 31).toUInt32).toInt32) &&& (7 : Int32)) % (5 : Int32))), .unset, .unset, .unset, .unset, .unset, .unset, .unset, .unset, .unset, .unset, .unset, .unset, .unset, .unset, .unset, .unset, .unset] [(.int ((((p6.toUInt32 >>> ((8 : Int32) &&& 31).toUInt32).toInt32) &&& (7 : Int32)) % (5 : Int32)))])) _
    refine XS.istore X5.here hx rfl (hb hby at_69) rfl (l' := #[.val (.long q1), .second, .val (.long q2), .second, .val (.long q3), .second, .val (.long q4), .second, .val (.long q5), .second, .val (.int p6), .val (.long xa), .second, .val (.long xb), .second, .val (.long xc), .second, .val (.long xd), .second, .val (.long xe), .second, .val (.int ((((p6.toUInt32 >>> ((5 : Int32) &&& 31).toUInt32).toInt32) &&& (7 : Int32)) % (5 : Int32))), .val (.int ((((p6.toUInt32 >>> ((8 : Int32) &&& 31).toUInt32).toInt32) &&& (7 : Int32)) % (5 : Int32))), .unset, .unset, .unset, .unset, .unset, .unset, .unset, .unset, .unset, .unset, .unset, .unset, .unset, .unset, .unset, .unset]) rfl ?_
    show Steps p.tables e below (T5.setTop (mkF m 71 #[.val (.long q1), .second, .val (.long q2), .second, .val (.long q3), .second, .val (.long q4), .second, .val (.long q5), .second, .val (.int p6), .val (.long xa), .second, .val (.long xb), .second, .val (.long xc), .second, .val (.long xd), .second, .val (.long xe), .second, .val (.int ((((p6.toUInt32 >>> ((5 : Int32) &&& 31).toUInt32).toInt32) &&& (7 : Int32)) % (5 : Int32))), .val (.int ((((p6.toUInt32 >>> ((8 : Int32) &&& 31).toUInt32).toInt32) &&& (7 : Int32)) % (5 : Int32))), .unset, .unset, .unset, .unset, .unset, .unset, .unset, .unset, .unset, .unset, .unset, .unset, .unset, .unset, .unset, .unset] [])) _
    refine XS.iload X5.here hx rfl (hb hby at_71) rfl ?_
    show Steps p.tables e below (T5.setTop (mkF m 73 #[.val (.long q1), .second, .val (.long q2), .second, .val (.long q3), .second, .val (.long q4), .second, .val (.long q5), .second, .val (.int p6), .val (.long xa), .second, .val (.long xb), .second, .val (.long xc), .second, .val (.long xd), .second, .val (.long xe), .second, .val (.int ((((p6.toUInt32 >>> ((5 : Int32) &&& 31).toUInt32).toInt32) &&& (7 : Int32)) % (5 : Int32))), .val (.int ((((p6.toUInt32 >>> ((8 : Int32) &&& 31).toUInt32).toInt32) &&& (7 : Int32)) % (5 : Int32))), .unset, .unset, .unset, .unset, .unset, .unset, .unset, .unset, .unset, .unset, .unset, .unset, .unset, .unset, .unset, .unset] [(.int ((((p6.toUInt32 >>> ((5 : Int32) &&& 31).toUInt32).toInt32) &&& (7 : Int32)) % (5 : Int32)))])) _
    refine XS.lload X5.here hx rfl (hb hby at_73) rfl ?_
    show Steps p.tables e below (T5.setTop (mkF m 75 #[.val (.long q1), .second, .val (.long q2), .second, .val (.long q3), .second, .val (.long q4), .second, .val (.long q5), .second, .val (.int p6), .val (.long xa), .second, .val (.long xb), .second, .val (.long xc), .second, .val (.long xd), .second, .val (.long xe), .second, .val (.int ((((p6.toUInt32 >>> ((5 : Int32) &&& 31).toUInt32).toInt32) &&& (7 : Int32)) % (5 : Int32))), .val (.int ((((p6.toUInt32 >>> ((8 : Int32) &&& 31).toUInt32).toInt32) &&& (7 : Int32)) % (5 : Int32))), .unset, .unset, .unset, .unset, .unset, .unset, .unset, .unset, .unset, .unset, .unset, .unset, .unset, .unset, .unset, .unset] [(.long xa), (.int ((((p6.toUInt32 >>> ((5 : Int32) &&& 31).toUInt32).toInt32) &&& (7 : Int32)) % (5 : Int32)))])) _
    refine XS.lload X5.here hx rfl (hb hby at_75) rfl ?_
    show Steps p.tables e below (T5.setTop (mkF m 77 #[.val (.long q1), .second, .val (.long q2), .second, .val (.long q3), .second, .val (.long q4), .second, .val (.long q5), .second, .val (.int p6), .val (.long xa), .second, .val (.long xb), .second, .val (.long xc), .second, .val (.long xd), .second, .val (.long xe), .second, .val (.int ((((p6.toUInt32 >>> ((5 : Int32) &&& 31).toUInt32).toInt32) &&& (7 : Int32)) % (5 : Int32))), .val (.int ((((p6.toUInt32 >>> ((8 : Int32) &&& 31).toUInt32).toInt32) &&& (7 : Int32)) % (5 : Int32))), .unset, .unset, .unset, .unset, .unset, .unset, .unset, .unset, .unset, .unset, .unset, .unset, .unset, .unset, .unset, .unset] [(.long xb), (.long xa), (.int ((((p6.toUInt32 >>> ((5 : Int32) &&& 31).toUInt32).toInt32) &&& (7 : Int32)) % (5 : Int32)))])) _
    refine XS.lload X5.here hx rfl (hb hby at_77) rfl ?_
    show Steps p.tables e below (T5.setTop (mkF m 79 #[.val (.long q1), .second, .val (.long q2), .second, .val (.long q3), .second, .val (.long q4), .second, .val (.long q5), .second, .val (.int p6), .val (.long xa), .second, .val (.long xb), .second, .val (.long xc), .second, .val (.long xd), .second, .val (.long xe), .second, .val (.int ((((p6.toUInt32 >>> ((5 : Int32) &&& 31).toUInt32).toInt32) &&& (7 : Int32)) % (5 : Int32))), .val (.int ((((p6.toUInt32 >>> ((8 : Int32) &&& 31).toUInt32).toInt32) &&& (7 : Int32)) % (5 : Int32))), .unset, .unset, .unset, .unset, .unset, .unset, .unset, .unset, .unset, .unset, .unset, .unset, .unset, .unset, .unset, .unset] [(.long xc), (.long xb), (.long xa), (.int ((((p6.toUInt32 >>> ((5 : Int32) &&& 31).toUInt32).toInt32) &&& (7 : Int32)) % (5 : Int32)))])) _
    refine XS.lload X5.here hx rfl (hb hby at_79) rfl ?_
    show Steps p.tables e below (T5.setTop (mkF m 81 #[.val (.long q1), .second, .val (.long q2), .second, .val (.long q3), .second, .val (.long q4), .second, .val (.long q5), .second, .val (.int p6), .val (.long xa), .second, .val (.long xb), .second, .val (.long xc), .second, .val (.long xd), .second, .val (.long xe), .second, .val (.int ((((p6.toUInt32 >>> ((5 : Int32) &&& 31).toUInt32).toInt32) &&& (7 : Int32)) % (5 : Int32))), .val (.int ((((p6.toUInt32 >>> ((8 : Int32) &&& 31).toUInt32).toInt32) &&& (7 : Int32)) % (5 : Int32))), .unset, .unset, .unset, .unset, .unset, .unset, .unset, .unset, .unset, .unset, .unset, .unset, .unset, .unset, .unset, .unset] [(.long xd), (.long xc), (.long xb), (.long xa), (.int ((((p6.toUInt32 >>> ((5 : Int32) &&& 31).toUInt32).toInt32) &&& (7 : Int32)) % (5 : Int32)))])) _
    refine XS.lload X5.here hx rfl (hb hby at_81) rfl ?_
    show Steps p.tables e below (T5.setTop (mkF m 83 #[.val (.long q1), .second, .val (.long q2), .second, .val (.long q3), .second, .val (.long q4), .second, .val (.long q5), .second, .val (.int p6), .val (.long xa), .second, .val (.long xb), .second, .val (.long xc), .second, .val (.long xd), .second, .val (.long xe), .second, .val (.int ((((p6.toUInt32 >>> ((5 : Int32) &&& 31).toUInt32).toInt32) &&& (7 : Int32)) % (5 : Int32))), .val (.int ((((p6.toUInt32 >>> ((8 : Int32) &&& 31).toUInt32).toInt32) &&& (7 : Int32)) % (5 : Int32))), .unset, .unset, .unset, .unset, .unset, .unset, .unset, .unset, .unset, .unset, .unset, .unset, .unset, .unset, .unset, .unset] [(.long xe), (.long xd), (.long xc), (.long xb), (.long xa), (.int ((((p6.toUInt32 >>> ((5 : Int32) &&& 31).toUInt32).toInt32) &&& (7 : Int32)) % (5 : Int32)))])) _
    refine st6 _ ?_
    show Steps p.tables e below (T6.setTop (mkF m 86 #[.val (.long q1), .second, .val (.long q2), .second, .val (.long q3), .second, .val (.long q4), .second, .val (.long q5), .second, .val (.int p6), .val (.long xa), .second, .val (.long xb), .second, .val (.long xc), .second, .val (.long xd), .second, .val (.long xe), .second, .val (.int ((((p6.toUInt32 >>> ((5 : Int32) &&& 31).toUInt32).toInt32) &&& (7 : Int32)) % (5 : Int32))), .val (.int ((((p6.toUInt32 >>> ((8 : Int32) &&& 31).toUInt32).toInt32) &&& (7 : Int32)) % (5 : Int32))), .unset, .unset, .unset, .unset, .unset, .unset, .unset, .unset, .unset, .unset, .unset, .unset, .unset, .unset, .unset, .unset] [(.long r1)])) _
    refine XS.lstore X6.here hx rfl (hb hby at_86) rfl (l' := #[.val (.long q1), .second, .val (.long q2), .second, .val (.long q3), .second, .val (.long q4), .second, .val (.long q5), .second, .val (.int p6), .val (.long xa), .second, .val (.long xb), .second, .val (.long xc), .second, .val (.long xd), .second, .val (.long xe), .second, .val (.int ((((p6.toUInt32 >>> ((5 : Int32) &&& 31).toUInt32).toInt32) &&& (7 : Int32)) % (5 : Int32))), .val (.int ((((p6.toUInt32 >>> ((8 : Int32) &&& 31).toUInt32).toInt32) &&& (7 : Int32)) % (5 : Int32))), .val (.long r1), .second, .unset, .unset, .unset, .unset, .unset, .unset, .unset, .unset, .unset, .unset, .unset, .unset, .unset, .unset]) rfl ?_
    show Steps p.tables e below (T6.setTop (mkF m 88 #[.val (.long q1), .second, .val (.long q2), .second, .val (.long q3), .second, .val (.long q4), .second, .val (.long q5), .second, .val (.int p6), .val (.long xa), .second, .val (.long xb), .second, .val (.long xc), .second, .val (.long xd), .second, .val (.long xe), .second, .val (.int ((((p6.toUInt32 >>> ((5 : Int32) &&& 31).toUInt32).toInt32) &&& (7 : Int32)) % (5 : Int32))), .val (.int ((((p6.toUInt32 >>> ((8 : Int32) &&& 31).toUInt32).toInt32) &&& (7 : Int32)) % (5 : Int32))), .val (.long r1), .second, .unset, .unset, .unset, .unset, .unset, .unset, .unset, .unset, .unset, .unset, .unset, .unset, .unset, .unset] [])) _
    refine XS.iload X6.here hx rfl (hb hby at_88) rfl ?_
    show Steps p.tables e below (T6.setTop (mkF m 90 #[.val (.long q1), .second, .val (.long q2), .second, .val (.long q3), .second, .val (.long q4), .second, .val (.long q5), .second, .val (.int p6), .val (.long xa), .second, .val (.long xb), .second, .val (.long xc), .second, .val (.long xd), .second, .val (.long xe), .second, .val (.int ((((p6.toUInt32 >>> ((5 : Int32) &&& 31).toUInt32).toInt32) &&& (7 : Int32)) % (5 : Int32))), .val (.int ((((p6.toUInt32 >>> ((8 : Int32) &&& 31).toUInt32).toInt32) &&& (7 : Int32)) % (5 : Int32))), .val (.long r1), .second, .unset, .unset, .unset, .unset, .unset, .unset, .unset, .unset, .unset, .unset, .unset, .unset, .unset, .unset] [(.int ((((p6.toUInt32 >>> ((8 : Int32) &&& 31).toUInt32).toInt32) &&& (7 : Int32)) % (5 : Int32)))])) _
    refine XS.lload X6.here hx rfl (hb hby at_90) rfl ?_
    show Steps p.tables e below (T6.setTop (mkF m 92 #[.val (.long q1), .second, .val (.long q2), .second, .val (.long q3), .second, .val (.long q4), .second, .val (.long q5), .second, .val (.int p6), .val (.long xa), .second, .val (.long xb), .second, .val (.long xc), .second, .val (.long xd), .second, .val (.long xe), .second, .val (.int ((((p6.toUInt32 >>> ((5 : Int32) &&& 31).toUInt32).toInt32) &&& (7 : Int32)) % (5 : Int32))), .val (.int ((((p6.toUInt32 >>> ((8 : Int32) &&& 31).toUInt32).toInt32) &&& (7 : Int32)) % (5 : Int32))), .val (.long r1), .second, .unset, .unset, .unset, .unset, .unset, .unset, .unset, .unset, .unset, .unset, .unset, .unset, .unset, .unset] [(.long xa), (.int ((((p6.toUInt32 >>> ((8 : Int32) &&& 31).toUInt32).toInt32) &&& (7 : Int32)) % (5 : Int32)))])) _
    refine XS.lload X6.here hx rfl (hb hby at_92) rfl ?_
    show Steps p.tables e below (T6.setTop (mkF m 94 #[.val (.long q1), .second, .val (.long q2), .second, .val (.long q3), .second, .val (.long q4), .second, .val (.long q5), .second, .val (.int p6), .val (.long xa), .second, .val (.long xb), .second, .val (.long xc), .second, .val (.long xd), .second, .val (.long xe), .second, .val (.int ((((p6.toUInt32 >>> ((5 : Int32) &&& 31).toUInt32).toInt32) &&& (7 : Int32)) % (5 : Int32))), .val (.int ((((p6.toUInt32 >>> ((8 : Int32) &&& 31).toUInt32).toInt32) &&& (7 : Int32)) % (5 : Int32))), .val (.long r1), .second, .unset, .unset, .unset, .unset, .unset, .unset, .unset, .unset, .unset, .unset, .unset, .unset, .unset, .unset] [(.long xb), (.long xa), (.int ((((p6.toUInt32 >>> ((8 : Int32) &&& 31).toUInt32).toInt32) &&& (7 : Int32)) % (5 : Int32)))])) _
    refine XS.lload X6.here hx rfl (hb hby at_94) rfl ?_
    show Steps p.tables e below (T6.setTop (mkF m 96 #[.val (.long q1), .second, .val (.long q2), .second, .val (.long q3), .second, .val (.long q4), .second, .val (.long q5), .second, .val (.int p6), .val (.long xa), .second, .val (.long xb), .second, .val (.long xc), .second, .val (.long xd), .second, .val (.long xe), .second, .val (.int ((((p6.toUInt32 >>> ((5 : Int32) &&& 31).toUInt32).toInt32) &&& (7 : Int32)) % (5 : Int32))), .val (.int ((((p6.toUInt32 >>> ((8 : Int32) &&& 31).toUInt32).toInt32) &&& (7 : Int32)) % (5 : Int32))), .val (.long r1), .second, .unset, .unset, .unset, .unset, .unset, .unset, .unset, .unset, .unset, .unset, .unset, .unset, .unset, .unset] [(.long xc), (.long xb), (.long xa), (.int ((((p6.toUInt32 >>> ((8 : Int32) &&& 31).toUInt32).toInt32) &&& (7 : Int32)) % (5 : Int32)))])) _
    refine XS.lload X6.here hx rfl (hb hby at_96) rfl ?_
    show Steps p.tables e below (T6.setTop (mkF m 98 #[.val (.long q1), .second, .val (.long q2), .second, .val (.long q3), .second, .val (.long q4), .second, .val (.long q5), .second, .val (.int p6), .val (.long xa), .second, .val (.long xb), .second, .val (.long xc), .second, .val (.long xd), .second, .val (.long xe), .second, .val (.int ((((p6.toUInt32 >>> ((5 : Int32) &&& 31).toUInt32).toInt32) &&& (7 : Int32)) % (5 : Int32))), .val (.int ((((p6.toUInt32 >>> ((8 : Int32) &&& 31).toUInt32).toInt32) &&& (7 : Int32)) % (5 : Int32))), .val (.long r1), .second, .unset, .unset, .unset, .unset, .unset, .unset, .unset, .unset, .unset, .unset, .unset, .unset, .unset, .unset] [(.long xd), (.long xc), (.long xb), (.long xa), (.int ((((p6.toUInt32 >>> ((8 : Int32) &&& 31).toUInt32).toInt32) &&& (7 : Int32)) % (5 : Int32)))])) _
    refine XS.lload X6.here hx rfl (hb hby at_98) rfl ?_
    show Steps p.tables e below (T6.setTop (mkF m 100 #[.val (.long q1), .second, .val (.long q2), .second, .val (.long q3), .second, .val (.long q4), .second, .val (.long q5), .second, .val (.int p6), .val (.long xa), .second, .val (.long xb), .second, .val (.long xc), .second, .val (.long xd), .second, .val (.long xe), .second, .val (.int ((((p6.toUInt32 >>> ((5 : Int32) &&& 31).toUInt32).toInt32) &&& (7 : Int32)) % (5 : Int32))), .val (.int ((((p6.toUInt32 >>> ((8 : Int32) &&& 31).toUInt32).toInt32) &&& (7 : Int32)) % (5 : Int32))), .val (.long r1), .second, .unset, .unset, .unset, .unset, .unset, .unset, .unset, .unset, .unset, .unset, .unset, .unset, .unset, .unset] [(.long xe), (.long xd), (.long xc), (.long xb), (.long xa), (.int ((((p6.toUInt32 >>> ((8 : Int32) &&& 31).toUInt32).toInt32) &&& (7 : Int32)) % (5 : Int32)))])) _
    refine st7 _ ?_
    show Steps p.tables e below (T7.setTop (mkF m 103 #[.val (.long q1), .second, .val (.long q2), .second, .val (.long q3), .second, .val (.long q4), .second, .val (.long q5), .second, .val (.int p6), .val (.long xa), .second, .val (.long xb), .second, .val (.long xc), .second, .val (.long xd), .second, .val (.long xe), .second, .val (.int ((((p6.toUInt32 >>> ((5 : Int32) &&& 31).toUInt32).toInt32) &&& (7 : Int32)) % (5 : Int32))), .val (.int ((((p6.toUInt32 >>> ((8 : Int32) &&& 31).toUInt32).toInt32) &&& (7 : Int32)) % (5 : Int32))), .val (.long r1), .second, .unset, .unset, .unset, .unset, .unset, .unset, .unset, .unset, .unset, .unset, .unset, .unset, .unset, .unset] [(.long r2)])) _
    refine XS.lstore X7.here hx rfl (hb hby at_103) rfl (l' := #[.val (.long q1), .second, .val (.long q2), .second, .val (.long q3), .second, .val (.long q4), .second, .val (.long q5), .second, .val (.int p6), .val (.long xa), .second, .val (.long xb), .second, .val (.long xc), .second, .val (.long xd), .second, .val (.long xe), .second, .val (.int ((((p6.toUInt32 >>> ((5 : Int32) &&& 31).toUInt32).toInt32) &&& (7 : Int32)) % (5 : Int32))), .val (.int ((((p6.toUInt32 >>> ((8 : Int32) &&& 31).toUInt32).toInt32) &&& (7 : Int32)) % (5 : Int32))), .val (.long r1), .second, .val (.long r2), .second, .unset, .unset, .unset, .unset, .unset, .unset, .unset, .unset, .unset, .unset, .unset, .unset]) rfl ?_
    show Steps p.tables e below (T7.setTop (mkF m 105 #[.val (.long q1), .second, .val (.long q2), .second, .val (.long q3), .second, .val (.long q4), .second, .val (.long q5), .second, .val (.int p6), .val (.long xa), .second, .val (.long xb), .second, .val (.long xc), .second, .val (.long xd), .second, .val (.long xe), .second, .val (.int ((((p6.toUInt32 >>> ((5 : Int32) &&& 31).toUInt32).toInt32) &&& (7 : Int32)) % (5 : Int32))), .val (.int ((((p6.toUInt32 >>> ((8 : Int32) &&& 31).toUInt32).toInt32) &&& (7 : Int32)) % (5 : Int32))), .val (.long r1), .second, .val (.long r2), .second, .unset, .unset, .unset, .unset, .unset, .unset, .unset, .unset, .unset, .unset, .unset, .unset] [])) _
    refine st8 _ ?_
    show Steps p.tables e below (T8.setTop (mkF m 108 #[.val (.long q1), .second, .val (.long q2), .second, .val (.long q3), .second, .val (.long q4), .second, .val (.long q5), .second, .val (.int p6), .val (.long xa), .second, .val (.long xb), .second, .val (.long xc), .second, .val (.long xd), .second, .val (.long xe), .second, .val (.int ((((p6.toUInt32 >>> ((5 : Int32) &&& 31).toUInt32).toInt32) &&& (7 : Int32)) % (5 : Int32))), .val (.int ((((p6.toUInt32 >>> ((8 : Int32) &&& 31).toUInt32).toInt32) &&& (7 : Int32)) % (5 : Int32))), .val (.long r1), .second, .val (.long r2), .second, .unset, .unset, .unset, .unset, .unset, .unset, .unset, .unset, .unset, .unset, .unset, .unset] [(.ref b8)])) _
    refine XS.dup X8.here hx rfl (hb hby at_108) rfl rfl ?_
    show Steps p.tables e below (T8.setTop (mkF m 109 #[.val (.long q1), .second, .val (.long q2), .second, .val (.long q3), .second, .val (.long q4), .second, .val (.long q5), .second, .val (.int p6), .val (.long xa), .second, .val (.long xb), .second, .val (.long xc), .second, .val (.long xd), .second, .val (.long xe), .second, .val (.int ((((p6.toUInt32 >>> ((5 : Int32) &&& 31).toUInt32).toInt32) &&& (7 : Int32)) % (5 : Int32))), .val (.int ((((p6.toUInt32 >>> ((8 : Int32) &&& 31).toUInt32).toInt32) &&& (7 : Int32)) % (5 : Int32))), .val (.long r1), .second, .val (.long r2), .second, .unset, .unset, .unset, .unset, .unset, .unset, .unset, .unset, .unset, .unset, .unset, .unset] [(.ref b8), (.ref b8)])) _
    refine st9.trans ?_
    show Steps p.tables e below (T9.setTop (mkF m 112 #[.val (.long q1), .second, .val (.long q2), .second, .val (.long q3), .second, .val (.long q4), .second, .val (.long q5), .second, .val (.int p6), .val (.long xa), .second, .val (.long xb), .second, .val (.long xc), .second, .val (.long xd), .second, .val (.long xe), .second, .val (.int ((((p6.toUInt32 >>> ((5 : Int32) &&& 31).toUInt32).toInt32) &&& (7 : Int32)) % (5 : Int32))), .val (.int ((((p6.toUInt32 >>> ((8 : Int32) &&& 31).toUInt32).toInt32) &&& (7 : Int32)) % (5 : Int32))), .val (.long r1), .second, .val (.long r2), .second, .unset, .unset, .unset, .unset, .unset, .unset, .unset, .unset, .unset, .unset, .unset, .unset] [(.ref b8)])) _
    refine XS.astore X9.here hx rfl (hb hby at_112) rfl rfl (l' := #[.val (.long q1), .second, .val (.long q2), .second, .val (.long q3), .second, .val (.long q4), .second, .val (.long q5), .second, .val (.int p6), .val (.long xa), .second, .val (.long xb), .second, .val (.long xc), .second, .val (.long xd), .second, .val (.long xe), .second, .val (.int ((((p6.toUInt32 >>> ((5 : Int32) &&& 31).toUInt32).toInt32) &&& (7 : Int32)) % (5 : Int32))), .val (.int ((((p6.toUInt32 >>> ((8 : Int32) &&& 31).toUInt32).toInt32) &&& (7 : Int32)) % (5 : Int32))), .val (.long r1), .second, .val (.long r2), .second, .val (.ref b8), .unset, .unset, .unset, .unset, .unset, .unset, .unset, .unset, .unset, .unset, .unset]) rfl ?_
    show Steps p.tables e below (T9.setTop (mkF m 114 #[.val (.long q1), .second, .val (.long q2), .second, .val (.long q3), .second, .val (.long q4), .second, .val (.long q5), .second, .val (.int p6), .val (.long xa), .second, .val (.long xb), .second, .val (.long xc), .second, .val (.long xd), .second, .val (.long xe), .second, .val (.int ((((p6.toUInt32 >>> ((5 : Int32) &&& 31).toUInt32).toInt32) &&& (7 : Int32)) % (5 : Int32))), .val (.int ((((p6.toUInt32 >>> ((8 : Int32) &&& 31).toUInt32).toInt32) &&& (7 : Int32)) % (5 : Int32))), .val (.long r1), .second, .val (.long r2), .second, .val (.ref b8), .unset, .unset, .unset, .unset, .unset, .unset, .unset, .unset, .unset, .unset, .unset] [])) _
    refine XS.aload X9.here hx rfl (hb hby at_114) rfl rfl ?_
    show Steps p.tables e below (T9.setTop (mkF m 116 #[.val (.long q1), .second, .val (.long q2), .second, .val (.long q3), .second, .val (.long q4), .second, .val (.long q5), .second, .val (.int p6), .val (.long xa), .second, .val (.long xb), .second, .val (.long xc), .second, .val (.long xd), .second, .val (.long xe), .second, .val (.int ((((p6.toUInt32 >>> ((5 : Int32) &&& 31).toUInt32).toInt32) &&& (7 : Int32)) % (5 : Int32))), .val (.int ((((p6.toUInt32 >>> ((8 : Int32) &&& 31).toUInt32).toInt32) &&& (7 : Int32)) % (5 : Int32))), .val (.long r1), .second, .val (.long r2), .second, .val (.ref b8), .unset, .unset, .unset, .unset, .unset, .unset, .unset, .unset, .unset, .unset, .unset] [(.ref b8)])) _
    refine XS.lload X9.here hx rfl (hb hby at_116) rfl ?_
    show Steps p.tables e below (T9.setTop (mkF m 118 #[.val (.long q1), .second, .val (.long q2), .second, .val (.long q3), .second, .val (.long q4), .second, .val (.long q5), .second, .val (.int p6), .val (.long xa), .second, .val (.long xb), .second, .val (.long xc), .second, .val (.long xd), .second, .val (.long xe), .second, .val (.int ((((p6.toUInt32 >>> ((5 : Int32) &&& 31).toUInt32).toInt32) &&& (7 : Int32)) % (5 : Int32))), .val (.int ((((p6.toUInt32 >>> ((8 : Int32) &&& 31).toUInt32).toInt32) &&& (7 : Int32)) % (5 : Int32))), .val (.long r1), .second, .val (.long r2), .second, .val (.ref b8), .unset, .unset, .unset, .unset, .unset, .unset, .unset, .unset, .unset, .unset, .unset] [(.long xa), (.ref b8)])) _
    refine st10.trans ?_
    show Steps p.tables e below (T10.setTop (mkF m 121 #[.val (.long q1), .second, .val (.long q2), .second, .val (.long q3), .second, .val (.long q4), .second, .val (.long q5), .second, .val (.int p6), .val (.long xa), .second, .val (.long xb), .second, .val (.long xc), .second, .val (.long xd), .second, .val (.long xe), .second, .val (.int ((((p6.toUInt32 >>> ((5 : Int32) &&& 31).toUInt32).toInt32) &&& (7 : Int32)) % (5 : Int32))), .val (.int ((((p6.toUInt32 >>> ((8 : Int32) &&& 31).toUInt32).toInt32) &&& (7 : Int32)) % (5 : Int32))), .val (.long r1), .second, .val (.long r2), .second, .val (.ref b8), .unset, .unset, .unset, .unset, .unset, .unset, .unset, .unset, .unset, .unset, .unset] [(.int (1 : Int32))])) _
    refine XS.istore X10.here hx rfl (hb hby at_121) rfl (l' := #[.val (.long q1), .second, .val (.long q2), .second, .val (.long q3), .second, .val (.long q4), .second, .val (.long q5), .second, .val (.int p6), .val (.long xa), .second, .val (.long xb), .second, .val (.long xc), .second, .val (.long xd), .second, .val (.long xe), .second, .val (.int ((((p6.toUInt32 >>> ((5 : Int32) &&& 31).toUInt32).toInt32) &&& (7 : Int32)) % (5 : Int32))), .val (.int ((((p6.toUInt32 >>> ((8 : Int32) &&& 31).toUInt32).toInt32) &&& (7 : Int32)) % (5 : Int32))), .val (.long r1), .second, .val (.long r2), .second, .val (.ref b8), .val (.int (1 : Int32)), .unset, .unset, .unset, .unset, .unset, .unset, .unset, .unset, .unset, .unset]) rfl ?_
    show Steps p.tables e below (T10.setTop (mkF m 123 #[.val (.long q1), .second, .val (.long q2), .second, .val (.long q3), .second, .val (.long q4), .second, .val (.long q5), .second, .val (.int p6), .val (.long xa), .second, .val (.long xb), .second, .val (.long xc), .second, .val (.long xd), .second, .val (.long xe), .second, .val (.int ((((p6.toUInt32 >>> ((5 : Int32) &&& 31).toUInt32).toInt32) &&& (7 : Int32)) % (5 : Int32))), .val (.int ((((p6.toUInt32 >>> ((8 : Int32) &&& 31).toUInt32).toInt32) &&& (7 : Int32)) % (5 : Int32))), .val (.long r1), .second, .val (.long r2), .second, .val (.ref b8), .val (.int (1 : Int32)), .unset, .unset, .unset, .unset, .unset, .unset, .unset, .unset, .unset, .unset] [])) _
    refine XS.aload X10.here hx rfl (hb hby at_123) rfl rfl ?_
    show Steps p.tables e below (T10.setTop (mkF m 125 #[.val (.long q1), .second, .val (.long q2), .second, .val (.long q3), .second, .val (.long q4), .second, .val (.long q5), .second, .val (.int p6), .val (.long xa), .second, .val (.long xb), .second, .val (.long xc), .second, .val (.long xd), .second, .val (.long xe), .second, .val (.int ((((p6.toUInt32 >>> ((5 : Int32) &&& 31).toUInt32).toInt32) &&& (7 : Int32)) % (5 : Int32))), .val (.int ((((p6.toUInt32 >>> ((8 : Int32) &&& 31).toUInt32).toInt32) &&& (7 : Int32)) % (5 : Int32))), .val (.long r1), .second, .val (.long r2), .second, .val (.ref b8), .val (.int (1 : Int32)), .unset, .unset, .unset, .unset, .unset, .unset, .unset, .unset, .unset, .unset] [(.ref b8)])) _
    refine XS.lload X10.here hx rfl (hb hby at_125) rfl ?_
    show Steps p.tables e below (T10.setTop (mkF m 127 #[.val (.long q1), .second, .val (.long q2), .second, .val (.long q3), .second, .val (.long q4), .second, .val (.long q5), .second, .val (.int p6), .val (.long xa), .second, .val (.long xb), .second, .val (.long xc), .second, .val (.long xd), .second, .val (.long xe), .second, .val (.int ((((p6.toUInt32 >>> ((5 : Int32) &&& 31).toUInt32).toInt32) &&& (7 : Int32)) % (5 : Int32))), .val (.int ((((p6.toUInt32 >>> ((8 : Int32) &&& 31).toUInt32).toInt32) &&& (7 : Int32)) % (5 : Int32))), .val (.long r1), .second, .val (.long r2), .second, .val (.ref b8), .val (.int (1 : Int32)), .unset, .unset, .unset, .unset, .unset, .unset, .unset, .unset, .unset, .unset] [(.long xb), (.ref b8)])) _
    refine st11.trans ?_
    show Steps p.tables e below (T11.setTop (mkF m 130 #[.val (.long q1), .second, .val (.long q2), .second, .val (.long q3), .second, .val (.long q4), .second, .val (.long q5), .second, .val (.int p6), .val (.long xa), .second, .val (.long xb), .second, .val (.long xc), .second, .val (.long xd), .second, .val (.long xe), .second, .val (.int ((((p6.toUInt32 >>> ((5 : Int32) &&& 31).toUInt32).toInt32) &&& (7 : Int32)) % (5 : Int32))), .val (.int ((((p6.toUInt32 >>> ((8 : Int32) &&& 31).toUInt32).toInt32) &&& (7 : Int32)) % (5 : Int32))), .val (.long r1), .second, .val (.long r2), .second, .val (.ref b8), .val (.int (1 : Int32)), .unset, .unset, .unset, .unset, .unset, .unset, .unset, .unset, .unset, .unset] [(.int rb)])) _
    refine XS.istore X11.here hx rfl (hb hby at_130) rfl (l' := #[.val (.long q1), .second, .val (.long q2), .second, .val (.long q3), .second, .val (.long q4), .second, .val (.long q5), .second, .val (.int p6), .val (.long xa), .second, .val (.long xb), .second, .val (.long xc), .second, .val (.long xd), .second, .val (.long xe), .second, .val (.int ((((p6.toUInt32 >>> ((5 : Int32) &&& 31).toUInt32).toInt32) &&& (7 : Int32)) % (5 : Int32))), .val (.int ((((p6.toUInt32 >>> ((8 : Int32) &&& 31).toUInt32).toInt32) &&& (7 : Int32)) % (5 : Int32))), .val (.long r1), .second, .val (.long r2), .second, .val (.ref b8), .val (.int (1 : Int32)), .val (.int rb), .unset, .unset, .unset, .unset, .unset, .unset, .unset, .unset, .unset]) rfl ?_
    show Steps p.tables e below (T11.setTop (mkF m 132 #[.val (.long q1), .second, .val (.long q2), .second, .val (.long q3), .second, .val (.long q4), .second, .val (.long q5), .second, .val (.int p6), .val (.long xa), .second, .val (.long xb), .second, .val (.long xc), .second, .val (.long xd), .second, .val (.long xe), .second, .val (.int ((((p6.toUInt32 >>> ((5 : Int32) &&& 31).toUInt32).toInt32) &&& (7 : Int32)) % (5 : Int32))), .val (.int ((((p6.toUInt32 >>> ((8 : Int32) &&& 31).toUInt32).toInt32) &&& (7 : Int32)) % (5 : Int32))), .val (.long r1), .second, .val (.long r2), .second, .val (.ref b8), .val (.int (1 : Int32)), .val (.int rb), .unset, .unset, .unset, .unset, .unset, .unset, .unset, .unset, .unset] [])) _
    refine XS.aload X11.here hx rfl (hb hby at_132) rfl rfl ?_
    show Steps p.tables e below (T11.setTop (mkF m 134 #[.val (.long q1), .second, .val (.long q2), .second, .val (.long q3), .second, .val (.long q4), .second, .val (.long q5), .second, .val (.int p6), .val (.long xa), .second, .val (.long xb), .second, .val (.long xc), .second, .val (.long xd), .second, .val (.long xe), .second, .val (.int ((((p6.toUInt32 >>> ((5 : Int32) &&& 31).toUInt32).toInt32) &&& (7 : Int32)) % (5 : Int32))), .val (.int ((((p6.toUInt32 >>> ((8 : Int32) &&& 31).toUInt32).toInt32) &&& (7 : Int32)) % (5 : Int32))), .val (.long r1), .second, .val (.long r2), .second, .val (.ref b8), .val (.int (1 : Int32)), .val (.int rb), .unset, .unset, .unset, .unset, .unset, .unset, .unset, .unset, .unset] [(.ref b8)])) _
    refine XS.lload X11.here hx rfl (hb hby at_134) rfl ?_
    show Steps p.tables e below (T11.setTop (mkF m 136 #[.val (.long q1), .second, .val (.long q2), .second, .val (.long q3), .second, .val (.long q4), .second, .val (.long q5), .second, .val (.int p6), .val (.long xa), .second, .val (.long xb), .second, .val (.long xc), .second, .val (.long xd), .second, .val (.long xe), .second, .val (.int ((((p6.toUInt32 >>> ((5 : Int32) &&& 31).toUInt32).toInt32) &&& (7 : Int32)) % (5 : Int32))), .val (.int ((((p6.toUInt32 >>> ((8 : Int32) &&& 31).toUInt32).toInt32) &&& (7 : Int32)) % (5 : Int32))), .val (.long r1), .second, .val (.long r2), .second, .val (.ref b8), .val (.int (1 : Int32)), .val (.int rb), .unset, .unset, .unset, .unset, .unset, .unset, .unset, .unset, .unset] [(.long xc), (.ref b8)])) _
    refine st12.trans ?_
    show Steps p.tables e below (T12.setTop (mkF m 139 #[.val (.long q1), .second, .val (.long q2), .second, .val (.long q3), .second, .val (.long q4), .second, .val (.long q5), .second, .val (.int p6), .val (.long xa), .second, .val (.long xb), .second, .val (.long xc), .second, .val (.long xd), .second, .val (.long xe), .second, .val (.int ((((p6.toUInt32 >>> ((5 : Int32) &&& 31).toUInt32).toInt32) &&& (7 : Int32)) % (5 : Int32))), .val (.int ((((p6.toUInt32 >>> ((8 : Int32) &&& 31).toUInt32).toInt32) &&& (7 : Int32)) % (5 : Int32))), .val (.long r1), .second, .val (.long r2), .second, .val (.ref b8), .val (.int (1 : Int32)), .val (.int rb), .unset, .unset, .unset, .unset, .unset, .unset, .unset, .unset, .unset] [(.int rc)])) _
    refine XS.istore X12.here hx rfl (hb hby at_139) rfl (l' := #[.val (.long q1), .second, .val (.long q2), .second, .val (.long q3), .second, .val (.long q4), .second, .val (.long q5), .second, .val (.int p6), .val (.long xa), .second, .val (.long xb), .second, .val (.long xc), .second, .val (.long xd), .second, .val (.long xe), .second, .val (.int ((((p6.toUInt32 >>> ((5 : Int32) &&& 31).toUInt32).toInt32) &&& (7 : Int32)) % (5 : Int32))), .val (.int ((((p6.toUInt32 >>> ((8 : Int32) &&& 31).toUInt32).toInt32) &&& (7 : Int32)) % (5 : Int32))), .val (.long r1), .second, .val (.long r2), .second, .val (.ref b8), .val (.int (1 : Int32)), .val (.int rb), .val (.int rc), .unset, .unset, .unset, .unset, .unset, .unset, .unset, .unset]) rfl ?_
    show Steps p.tables e below (T12.setTop (mkF m 141 #[.val (.long q1), .second, .val (.long q2), .second, .val (.long q3), .second, .val (.long q4), .second, .val (.long q5), .second, .val (.int p6), .val (.long xa), .second, .val (.long xb), .second, .val (.long xc), .second, .val (.long xd), .second, .val (.long xe), .second, .val (.int ((((p6.toUInt32 >>> ((5 : Int32) &&& 31).toUInt32).toInt32) &&& (7 : Int32)) % (5 : Int32))), .val (.int ((((p6.toUInt32 >>> ((8 : Int32) &&& 31).toUInt32).toInt32) &&& (7 : Int32)) % (5 : Int32))), .val (.long r1), .second, .val (.long r2), .second, .val (.ref b8), .val (.int (1 : Int32)), .val (.int rb), .val (.int rc), .unset, .unset, .unset, .unset, .unset, .unset, .unset, .unset] [])) _
    refine XS.aload X12.here hx rfl (hb hby at_141) rfl rfl ?_
    show Steps p.tables e below (T12.setTop (mkF m 143 #[.val (.long q1), .second, .val (.long q2), .second, .val (.long q3), .second, .val (.long q4), .second, .val (.long q5), .second, .val (.int p6), .val (.long xa), .second, .val (.long xb), .second, .val (.long xc), .second, .val (.long xd), .second, .val (.long xe), .second, .val (.int ((((p6.toUInt32 >>> ((5 : Int32) &&& 31).toUInt32).toInt32) &&& (7 : Int32)) % (5 : Int32))), .val (.int ((((p6.toUInt32 >>> ((8 : Int32) &&& 31).toUInt32).toInt32) &&& (7 : Int32)) % (5 : Int32))), .val (.long r1), .second, .val (.long r2), .second, .val (.ref b8), .val (.int (1 : Int32)), .val (.int rb), .val (.int rc), .unset, .unset, .unset, .unset, .unset, .unset, .unset, .unset] [(.ref b8)])) _
    refine XS.lload X12.here hx rfl (hb hby at_143) rfl ?_
    show Steps p.tables e below (T12.setTop (mkF m 145 #[.val (.long q1), .second, .val (.long q2), .second, .val (.long q3), .second, .val (.long q4), .second, .val (.long q5), .second, .val (.int p6), .val (.long xa), .second, .val (.long xb), .second, .val (.long xc), .second, .val (.long xd), .second, .val (.long xe), .second, .val (.int ((((p6.toUInt32 >>> ((5 : Int32) &&& 31).toUInt32).toInt32) &&& (7 : Int32)) % (5 : Int32))), .val (.int ((((p6.toUInt32 >>> ((8 : Int32) &&& 31).toUInt32).toInt32) &&& (7 : Int32)) % (5 : Int32))), .val (.long r1), .second, .val (.long r2), .second, .val (.ref b8), .val (.int (1 : Int32)), .val (.int rb), .val (.int rc), .unset, .unset, .unset, .unset, .unset, .unset, .unset, .unset] [(.long xd), (.ref b8)])) _
    refine st13.trans ?_
    show Steps p.tables e below (T13.setTop (mkF m 148 #[.val (.long q1), .second, .val (.long q2), .second, .val (.long q3), .second, .val (.long q4), .second, .val (.long q5), .second, .val (.int p6), .val (.long xa), .second, .val (.long xb), .second, .val (.long xc), .second, .val (.long xd), .second, .val (.long xe), .second, .val (.int ((((p6.toUInt32 >>> ((5 : Int32) &&& 31).toUInt32).toInt32) &&& (7 : Int32)) % (5 : Int32))), .val (.int ((((p6.toUInt32 >>> ((8 : Int32) &&& 31).toUInt32).toInt32) &&& (7 : Int32)) % (5 : Int32))), .val (.long r1), .second, .val (.long r2), .second, .val (.ref b8), .val (.int (1 : Int32)), .val (.int rb), .val (.int rc), .unset, .unset, .unset, .unset, .unset, .unset, .unset, .unset] [(.int rd)])) _
    refine XS.istore X13.here hx rfl (hb hby at_148) rfl (l' := #[.val (.long q1), .second, .val (.long q2), .second, .val (.long q3), .second, .val (.long q4), .second, .val (.long q5), .second, .val (.int p6), .val (.long xa), .second, .val (.long xb), .second, .val (.long xc), .second, .val (.long xd), .second, .val (.long xe), .second, .val (.int ((((p6.toUInt32 >>> ((5 : Int32) &&& 31).toUInt32).toInt32) &&& (7 : Int32)) % (5 : Int32))), .val (.int ((((p6.toUInt32 >>> ((8 : Int32) &&& 31).toUInt32).toInt32) &&& (7 : Int32)) % (5 : Int32))), .val (.long r1), .second, .val (.long r2), .second, .val (.ref b8), .val (.int (1 : Int32)), .val (.int rb), .val (.int rc), .val (.int rd), .unset, .unset, .unset, .unset, .unset, .unset, .unset]) rfl ?_
    show Steps p.tables e below (T13.setTop (mkF m 150 #[.val (.long q1), .second, .val (.long q2), .second, .val (.long q3), .second, .val (.long q4), .second, .val (.long q5), .second, .val (.int p6), .val (.long xa), .second, .val (.long xb), .second, .val (.long xc), .second, .val (.long xd), .second, .val (.long xe), .second, .val (.int ((((p6.toUInt32 >>> ((5 : Int32) &&& 31).toUInt32).toInt32) &&& (7 : Int32)) % (5 : Int32))), .val (.int ((((p6.toUInt32 >>> ((8 : Int32) &&& 31).toUInt32).toInt32) &&& (7 : Int32)) % (5 : Int32))), .val (.long r1), .second, .val (.long r2), .second, .val (.ref b8), .val (.int (1 : Int32)), .val (.int rb), .val (.int rc), .val (.int rd), .unset, .unset, .unset, .unset, .unset, .unset, .unset] [])) _
    refine XS.aload X13.here hx rfl (hb hby at_150) rfl rfl ?_
    show Steps p.tables e below (T13.setTop (mkF m 152 #[.val (.long q1), .second, .val (.long q2), .second, .val (.long q3), .second, .val (.long q4), .second, .val (.long q5), .second, .val (.int p6), .val (.long xa), .second, .val (.long xb), .second, .val (.long xc), .second, .val (.long xd), .second, .val (.long xe), .second, .val (.int ((((p6.toUInt32 >>> ((5 : Int32) &&& 31).toUInt32).toInt32) &&& (7 : Int32)) % (5 : Int32))), .val (.int ((((p6.toUInt32 >>> ((8 : Int32) &&& 31).toUInt32).toInt32) &&& (7 : Int32)) % (5 : Int32))), .val (.long r1), .second, .val (.long r2), .second, .val (.ref b8), .val (.int (1 : Int32)), .val (.int rb), .val (.int rc), .val (.int rd), .unset, .unset, .unset, .unset, .unset, .unset, .unset] [(.ref b8)])) _
    refine XS.lload X13.here hx rfl (hb hby at_152) rfl ?_
    show Steps p.tables e below (T13.setTop (mkF m 154 #[.val (.long q1), .second, .val (.long q2), .second, .val (.long q3), .second, .val (.long q4), .second, .val (.long q5), .second, .val (.int p6), .val (.long xa), .second, .val (.long xb), .second, .val (.long xc), .second, .val (.long xd), .second, .val (.long xe), .second, .val (.int ((((p6.toUInt32 >>> ((5 : Int32) &&& 31).toUInt32).toInt32) &&& (7 : Int32)) % (5 : Int32))), .val (.int ((((p6.toUInt32 >>> ((8 : Int32) &&& 31).toUInt32).toInt32) &&& (7 : Int32)) % (5 : Int32))), .val (.long r1), .second, .val (.long r2), .second, .val (.ref b8), .val (.int (1 : Int32)), .val (.int rb), .val (.int rc), .val (.int rd), .unset, .unset, .unset, .unset, .unset, .unset, .unset] [(.long xe), (.ref b8)])) _
    refine st14.trans ?_
    show Steps p.tables e below (T14.setTop (mkF m 157 #[.val (.long q1), .second, .val (.long q2), .second, .val (.long q3), .second, .val (.long q4), .second, .val (.long q5), .second, .val (.int p6), .val (.long xa), .second, .val (.long xb), .second, .val (.long xc), .second, .val (.long xd), .second, .val (.long xe), .second, .val (.int ((((p6.toUInt32 >>> ((5 : Int32) &&& 31).toUInt32).toInt32) &&& (7 : Int32)) % (5 : Int32))), .val (.int ((((p6.toUInt32 >>> ((8 : Int32) &&& 31).toUInt32).toInt32) &&& (7 : Int32)) % (5 : Int32))), .val (.long r1), .second, .val (.long r2), .second, .val (.ref b8), .val (.int (1 : Int32)), .val (.int rb), .val (.int rc), .val (.int rd), .unset, .unset, .unset, .unset, .unset, .unset, .unset] [(.int re)])) _
    refine XS.istore X14.here hx rfl (hb hby at_157) rfl (l' := #[.val (.long q1), .second, .val (.long q2), .second, .val (.long q3), .second, .val (.long q4), .second, .val (.long q5), .second, .val (.int p6), .val (.long xa), .second, .val (.long xb), .second, .val (.long xc), .second, .val (.long xd), .second, .val (.long xe), .second, .val (.int ((((p6.toUInt32 >>> ((5 : Int32) &&& 31).toUInt32).toInt32) &&& (7 : Int32)) % (5 : Int32))), .val (.int ((((p6.toUInt32 >>> ((8 : Int32) &&& 31).toUInt32).toInt32) &&& (7 : Int32)) % (5 : Int32))), .val (.long r1), .second, .val (.long r2), .second, .val (.ref b8), .val (.int (1 : Int32)), .val (.int rb), .val (.int rc), .val (.int rd), .val (.int re), .unset, .unset, .unset, .unset, .unset, .unset]) rfl ?_
    show Steps p.tables e below (T14.setTop (mkF m 159 #[.val (.long q1), .second, .val (.long q2), .second, .val (.long q3), .second, .val (.long q4), .second, .val (.long q5), .second, .val (.int p6), .val (.long xa), .second, .val (.long xb), .second, .val (.long xc), .second, .val (.long xd), .second, .val (.long xe), .second, .val (.int ((((p6.toUInt32 >>> ((5 : Int32) &&& 31).toUInt32).toInt32) &&& (7 : Int32)) % (5 : Int32))), .val (.int ((((p6.toUInt32 >>> ((8 : Int32) &&& 31).toUInt32).toInt32) &&& (7 : Int32)) % (5 : Int32))), .val (.long r1), .second, .val (.long r2), .second, .val (.ref b8), .val (.int (1 : Int32)), .val (.int rb), .val (.int rc), .val (.int rd), .val (.int re), .unset, .unset, .unset, .unset, .unset, .unset] [])) _
    refine XS.aload X14.here hx rfl (hb hby at_159) rfl rfl ?_
    show Steps p.tables e below (T14.setTop (mkF m 161 #[.val (.long q1), .second, .val (.long q2), .second, .val (.long q3), .second, .val (.long q4), .second, .val (.long q5), .second, .val (.int p6), .val (.long xa), .second, .val (.long xb), .second, .val (.long xc), .second, .val (.long xd), .second, .val (.long xe), .second, .val (.int ((((p6.toUInt32 >>> ((5 : Int32) &&& 31).toUInt32).toInt32) &&& (7 : Int32)) % (5 : Int32))), .val (.int ((((p6.toUInt32 >>> ((8 : Int32) &&& 31).toUInt32).toInt32) &&& (7 : Int32)) % (5 : Int32))), .val (.long r1), .second, .val (.long r2), .second, .val (.ref b8), .val (.int (1 : Int32)), .val (.int rb), .val (.int rc), .val (.int rd), .val (.int re), .unset, .unset, .unset, .unset, .unset, .unset] [(.ref b8)])) _
    refine XS.lload X14.here hx rfl (hb hby at_161) rfl ?_
    show Steps p.tables e below (T14.setTop (mkF m 163 #[.val (.long q1), .second, .val (.long q2), .second, .val (.long q3), .second, .val (.long q4), .second, .val (.long q5), .second, .val (.int p6), .val (.long xa), .second, .val (.long xb), .second, .val (.long xc), .second, .val (.long xd), .second, .val (.long xe), .second, .val (.int ((((p6.toUInt32 >>> ((5 : Int32) &&& 31).toUInt32).toInt32) &&& (7 : Int32)) % (5 : Int32))), .val (.int ((((p6.toUInt32 >>> ((8 : Int32) &&& 31).toUInt32).toInt32) &&& (7 : Int32)) % (5 : Int32))), .val (.long r1), .second, .val (.long r2), .second, .val (.ref b8), .val (.int (1 : Int32)), .val (.int rb), .val (.int rc), .val (.int rd), .val (.int re), .unset, .unset, .unset, .unset, .unset, .unset] [(.long r1), (.ref b8)])) _
    refine st15.trans ?_
    show Steps p.tables e below (T15.setTop (mkF m 166 #[.val (.long q1), .second, .val (.long q2), .second, .val (.long q3), .second, .val (.long q4), .second, .val (.long q5), .second, .val (.int p6), .val (.long xa), .second, .val (.long xb), .second, .val (.long xc), .second, .val (.long xd), .second, .val (.long xe), .second, .val (.int ((((p6.toUInt32 >>> ((5 : Int32) &&& 31).toUInt32).toInt32) &&& (7 : Int32)) % (5 : Int32))), .val (.int ((((p6.toUInt32 >>> ((8 : Int32) &&& 31).toUInt32).toInt32) &&& (7 : Int32)) % (5 : Int32))), .val (.long r1), .second, .val (.long r2), .second, .val (.ref b8), .val (.int (1 : Int32)), .val (.int rb), .val (.int rc), .val (.int rd), .val (.int re), .unset, .unset, .unset, .unset, .unset, .unset] [(.int g1)])) _
    refine XS.istore X15.here hx rfl (hb hby at_166) rfl (l' := #[.val (.long q1), .second, .val (.long q2), .second, .val (.long q3), .second, .val (.long q4), .second, .val (.long q5), .second, .val (.int p6), .val (.long xa), .second, .val (.long xb), .second, .val (.long xc), .second, .val (.long xd), .second, .val (.long xe), .second, .val (.int ((((p6.toUInt32 >>> ((5 : Int32) &&& 31).toUInt32).toInt32) &&& (7 : Int32)) % (5 : Int32))), .val (.int ((((p6.toUInt32 >>> ((8 : Int32) &&& 31).toUInt32).toInt32) &&& (7 : Int32)) % (5 : Int32))), .val (.long r1), .second, .val (.long r2), .second, .val (.ref b8), .val (.int (1 : Int32)), .val (.int rb), .val (.int rc), .val (.int rd), .val (.int re), .val (.int g1), .unset, .unset, .unset, .unset, .unset]) rfl ?_
    show Steps p.tables e below (T15.setTop (mkF m 168 #[.val (.long q1), .second, .val (.long q2), .second, .val (.long q3), .second, .val (.long q4), .second, .val (.long q5), .second, .val (.int p6), .val (.long xa), .second, .val (.long xb), .second, .val (.long xc), .second, .val (.long xd), .second, .val (.long xe), .second, .val (.int ((((p6.toUInt32 >>> ((5 : Int32) &&& 31).toUInt32).toInt32) &&& (7 : Int32)) % (5 : Int32))), .val (.int ((((p6.toUInt32 >>> ((8 : Int32) &&& 31).toUInt32).toInt32) &&& (7 : Int32)) % (5 : Int32))), .val (.long r1), .second, .val (.long r2), .second, .val (.ref b8), .val (.int (1 : Int32)), .val (.int rb), .val (.int rc), .val (.int rd), .val (.int re), .val (.int g1), .unset, .unset, .unset, .unset, .unset] [])) _
    refine XS.aload X15.here hx rfl (hb hby at_168) rfl rfl ?_
    show Steps p.tables e below (T15.setTop (mkF m 170 #[.val (.long q1), .second, .val (.long q2), .second, .val (.long q3), .second, .val (.long q4), .second, .val (.long q5), .second, .val (.int p6), .val (.long xa), .second, .val (.long xb), .second, .val (.long xc), .second, .val (.long xd), .second, .val (.long xe), .second, .val (.int ((((p6.toUInt32 >>> ((5 : Int32) &&& 31).toUInt32).toInt32) &&& (7 : Int32)) % (5 : Int32))), .val (.int ((((p6.toUInt32 >>> ((8 : Int32) &&& 31).toUInt32).toInt32) &&& (7 : Int32)) % (5 : Int32))), .val (.long r1), .second, .val (.long r2), .second, .val (.ref b8), .val (.int (1 : Int32)), .val (.int rb), .val (.int rc), .val (.int rd), .val (.int re), .val (.int g1), .unset, .unset, .unset, .unset, .unset] [(.ref b8)])) _
    refine XS.lload X15.here hx rfl (hb hby at_170) rfl ?_
    show Steps p.tables e below (T15.setTop (mkF m 172 #[.val (.long q1), .second, .val (.long q2), .second, .val (.long q3), .second, .val (.long q4), .second, .val (.long q5), .second, .val (.int p6), .val (.long xa), .second, .val (.long xb), .second, .val (.long xc), .second, .val (.long xd), .second, .val (.long xe), .second, .val (.int ((((p6.toUInt32 >>> ((5 : Int32) &&& 31).toUInt32).toInt32) &&& (7 : Int32)) % (5 : Int32))), .val (.int ((((p6.toUInt32 >>> ((8 : Int32) &&& 31).toUInt32).toInt32) &&& (7 : Int32)) % (5 : Int32))), .val (.long r1), .second, .val (.long r2), .second, .val (.ref b8), .val (.int (1 : Int32)), .val (.int rb), .val (.int rc), .val (.int rd), .val (.int re), .val (.int g1), .unset, .unset, .unset, .unset, .unset] [(.long r2), (.ref b8)])) _
    refine st16.trans ?_
    show Steps p.tables e below (T16.setTop (mkF m 175 #[.val (.long q1), .second, .val (.long q2), .second, .val (.long q3), .second, .val (.long q4), .second, .val (.long q5), .second, .val (.int p6), .val (.long xa), .second, .val (.long xb), .second, .val (.long xc), .second, .val (.long xd), .second, .val (.long xe), .second, .val (.int ((((p6.toUInt32 >>> ((5 : Int32) &&& 31).toUInt32).toInt32) &&& (7 : Int32)) % (5 : Int32))), .val (.int ((((p6.toUInt32 >>> ((8 : Int32) &&& 31).toUInt32).toInt32) &&& (7 : Int32)) % (5 : Int32))), .val (.long r1), .second, .val (.long r2), .second, .val (.ref b8), .val (.int (1 : Int32)), .val (.int rb), .val (.int rc), .val (.int rd), .val (.int re), .val (.int g1), .unset, .unset, .unset, .unset, .unset] [(.int g2)])) _
    refine XS.istore X16.here hx rfl (hb hby at_175) rfl (l' := #[.val (.long q1), .second, .val (.long q2), .second, .val (.long q3), .second, .val (.long q4), .second, .val (.long q5), .second, .val (.int p6), .val (.long xa), .second, .val (.long xb), .second, .val (.long xc), .second, .val (.long xd), .second, .val (.long xe), .second, .val (.int ((((p6.toUInt32 >>> ((5 : Int32) &&& 31).toUInt32).toInt32) &&& (7 : Int32)) % (5 : Int32))), .val (.int ((((p6.toUInt32 >>> ((8 : Int32) &&& 31).toUInt32).toInt32) &&& (7 : Int32)) % (5 : Int32))), .val (.long r1), .second, .val (.long r2), .second, .val (.ref b8), .val (.int (1 : Int32)), .val (.int rb), .val (.int rc), .val (.int rd), .val (.int re), .val (.int g1), .val (.int g2), .unset, .unset, .unset, .unset]) rfl ?_
    show Steps p.tables e below (T16.setTop (mkF m 177 #[.val (.long q1), .second, .val (.long q2), .second, .val (.long q3), .second, .val (.long q4), .second, .val (.long q5), .second, .val (.int p6), .val (.long xa), .second, .val (.long xb), .second, .val (.long xc), .second, .val (.long xd), .second, .val (.long xe), .second, .val (.int ((((p6.toUInt32 >>> ((5 : Int32) &&& 31).toUInt32).toInt32) &&& (7 : Int32)) % (5 : Int32))), .val (.int ((((p6.toUInt32 >>> ((8 : Int32) &&& 31).toUInt32).toInt32) &&& (7 : Int32)) % (5 : Int32))), .val (.long r1), .second, .val (.long r2), .second, .val (.ref b8), .val (.int (1 : Int32)), .val (.int rb), .val (.int rc), .val (.int rd), .val (.int re), .val (.int g1), .val (.int g2), .unset, .unset, .unset, .unset] [])) _
    refine seg_eb q1 q2 q3 q4 q5 p6 xa xb xc xd xe ((((p6.toUInt32 >>> ((5 : Int32) &&& 31).toUInt32).toInt32) &&& (7 : Int32)) % (5 : Int32)) ((((p6.toUInt32 >>> ((8 : Int32) &&& 31).toUInt32).toInt32) &&& (7 : Int32)) % (5 : Int32)) r1 r2 b8 (1 : Int32) rb rc rd re g1 g2 eb ec ed ee X16 hx hby eeb _ ?_
    show Steps p.tables e below (T16.setTop (mkF m 192 #[.val (.long q1), .second, .val (.long q2), .second, .val (.long q3), .second, .val (.long q4), .second, .val (.long q5), .second, .val (.int p6), .val (.long xa), .second, .val (.long xb), .second, .val (.long xc), .second, .val (.long xd), .second, .val (.long xe), .second, .val (.int ((((p6.toUInt32 >>> ((5 : Int32) &&& 31).toUInt32).toInt32) &&& (7 : Int32)) % (5 : Int32))), .val (.int ((((p6.toUInt32 >>> ((8 : Int32) &&& 31).toUInt32).toInt32) &&& (7 : Int32)) % (5 : Int32))), .val (.long r1), .second, .val (.long r2), .second, .val (.ref b8), .val (.int (1 : Int32)), .val (.int rb), .val (.int rc), .val (.int rd), .val (.int re), .val (.int g1), .val (.int g2), .val (.int eb), .unset, .unset, .unset] [])) _
    refine seg_ec q1 q2 q3 q4 q5 p6 xa xb xc xd xe ((((p6.toUInt32 >>> ((5 : Int32) &&& 31).toUInt32).toInt32) &&& (7 : Int32)) % (5 : Int32)) ((((p6.toUInt32 >>> ((8 : Int32) &&& 31).toUInt32).toInt32) &&& (7 : Int32)) % (5 : Int32)) r1 r2 b8 (1 : Int32) rb rc rd re g1 g2 eb ec ed ee X16 hx hby eec _ ?_
    show Steps p.tables e below (T16.setTop (mkF m 215 #[.val (.long q1), .second, .val (.long q2), .second, .val (.long q3), .second, .val (.long q4), .second, .val (.long q5), .second, .val (.int p6), .val (.long xa), .second, .val (.long xb), .second, .val (.long xc), .second, .val (.long xd), .second, .val (.long xe), .second, .val (.int ((((p6.toUInt32 >>> ((5 : Int32) &&& 31).toUInt32).toInt32) &&& (7 : Int32)) % (5 : Int32))), .val (.int ((((p6.toUInt32 >>> ((8 : Int32) &&& 31).toUInt32).toInt32) &&& (7 : Int32)) % (5 : Int32))), .val (.long r1), .second, .val (.long r2), .second, .val (.ref b8), .val (.int (1 : Int32)), .val (.int rb), .val (.int rc), .val (.int rd), .val (.int re), .val (.int g1), .val (.int g2), .val (.int eb), .val (.int ec), .unset, .unset] [])) _
    refine seg_ed q1 q2 q3 q4 q5 p6 xa xb xc xd xe ((((p6.toUInt32 >>> ((5 : Int32) &&& 31).toUInt32).toInt32) &&& (7 : Int32)) % (5 : Int32)) ((((p6.toUInt32 >>> ((8 : Int32) &&& 31).toUInt32).toInt32) &&& (7 : Int32)) % (5 : Int32)) r1 r2 b8 (1 : Int32) rb rc rd re g1 g2 eb ec ed ee X16 hx hby eed _ ?_
    show Steps p.tables e below (T16.setTop (mkF m 246 #[.val (.long q1), .second, .val (.long q2), .second, .val (.long q3), .second, .val (.long q4), .second, .val (.long q5), .second, .val (.int p6), .val (.long xa), .second, .val (.long xb), .second, .val (.long xc), .second, .val (.long xd), .second, .val (.long xe), .second, .val (.int ((((p6.toUInt32 >>> ((5 : Int32) &&& 31).toUInt32).toInt32) &&& (7 : Int32)) % (5 : Int32))), .val (.int ((((p6.toUInt32 >>> ((8 : Int32) &&& 31).toUInt32).toInt32) &&& (7 : Int32)) % (5 : Int32))), .val (.long r1), .second, .val (.long r2), .second, .val (.ref b8), .val (.int (1 : Int32)), .val (.int rb), .val (.int rc), .val (.int rd), .val (.int re), .val (.int g1), .val (.int g2), .val (.int eb), .val (.int ec), .val (.int ed), .unset] [])) _
    refine seg_ee q1 q2 q3 q4 q5 p6 xa xb xc xd xe ((((p6.toUInt32 >>> ((5 : Int32) &&& 31).toUInt32).toInt32) &&& (7 : Int32)) % (5 : Int32)) ((((p6.toUInt32 >>> ((8 : Int32) &&& 31).toUInt32).toInt32) &&& (7 : Int32)) % (5 : Int32)) r1 r2 b8 (1 : Int32) rb rc rd re g1 g2 eb ec ed ee X16 hx hby eee _ ?_
    show Steps p.tables e below (T16.setTop (mkF m 285 #[.val (.long q1), .second, .val (.long q2), .second, .val (.long q3), .second, .val (.long q4), .second, .val (.long q5), .second, .val (.int p6), .val (.long xa), .second, .val (.long xb), .second, .val (.long xc), .second, .val (.long xd), .second, .val (.long xe), .second, .val (.int ((((p6.toUInt32 >>> ((5 : Int32) &&& 31).toUInt32).toInt32) &&& (7 : Int32)) % (5 : Int32))), .val (.int ((((p6.toUInt32 >>> ((8 : Int32) &&& 31).toUInt32).toInt32) &&& (7 : Int32)) % (5 : Int32))), .val (.long r1), .second, .val (.long r2), .second, .val (.ref b8), .val (.int (1 : Int32)), .val (.int rb), .val (.int rc), .val (.int rd), .val (.int re), .val (.int g1), .val (.int g2), .val (.int eb), .val (.int ec), .val (.int ed), .val (.int ee)] [])) _
    refine XS.iload X16.here hx rfl (hb hby at_285) rfl ?_
    show Steps p.tables e below (T16.setTop (mkF m 287 #[.val (.long q1), .second, .val (.long q2), .second, .val (.long q3), .second, .val (.long q4), .second, .val (.long q5), .second, .val (.int p6), .val (.long xa), .second, .val (.long xb), .second, .val (.long xc), .second, .val (.long xd), .second, .val (.long xe), .second, .val (.int ((((p6.toUInt32 >>> ((5 : Int32) &&& 31).toUInt32).toInt32) &&& (7 : Int32)) % (5 : Int32))), .val (.int ((((p6.toUInt32 >>> ((8 : Int32) &&& 31).toUInt32).toInt32) &&& (7 : Int32)) % (5 : Int32))), .val (.long r1), .second, .val (.long r2), .second, .val (.ref b8), .val (.int (1 : Int32)), .val (.int rb), .val (.int rc), .val (.int rd), .val (.int re), .val (.int g1), .val (.int g2), .val (.int eb), .val (.int ec), .val (.int ed), .val (.int ee)] [(.int (1 : Int32))])) _
    refine XS.ifNo X16.here hx rfl (hb hby at_287) rfl ((if0 _ _).trans (feq (by decide +kernel)).1) ?_
    show Steps p.tables e below (T16.setTop (mkF m 290 #[.val (.long q1), .second, .val (.long q2), .second, .val (.long q3), .second, .val (.long q4), .second, .val (.long q5), .second, .val (.int p6), .val (.long xa), .second, .val (.long xb), .second, .val (.long xc), .second, .val (.long xd), .second, .val (.long xe), .second, .val (.int ((((p6.toUInt32 >>> ((5 : Int32) &&& 31).toUInt32).toInt32) &&& (7 : Int32)) % (5 : Int32))), .val (.int ((((p6.toUInt32 >>> ((8 : Int32) &&& 31).toUInt32).toInt32) &&& (7 : Int32)) % (5 : Int32))), .val (.long r1), .second, .val (.long r2), .second, .val (.ref b8), .val (.int (1 : Int32)), .val (.int rb), .val (.int rc), .val (.int rd), .val (.int re), .val (.int g1), .val (.int g2), .val (.int eb), .val (.int ec), .val (.int ed), .val (.int ee)] [])) _
    refine XS.iload X16.here hx rfl (hb hby at_290) rfl ?_
    show Steps p.tables e below (T16.setTop (mkF m 292 #[.val (.long q1), .second, .val (.long q2), .second, .val (.long q3), .second, .val (.long q4), .second, .val (.long q5), .second, .val (.int p6), .val (.long xa), .second, .val (.long xb), .second, .val (.long xc), .second, .val (.long xd), .second, .val (.long xe), .second, .val (.int ((((p6.toUInt32 >>> ((5 : Int32) &&& 31).toUInt32).toInt32) &&& (7 : Int32)) % (5 : Int32))), .val (.int ((((p6.toUInt32 >>> ((8 : Int32) &&& 31).toUInt32).toInt32) &&& (7 : Int32)) % (5 : Int32))), .val (.long r1), .second, .val (.long r2), .second, .val (.ref b8), .val (.int (1 : Int32)), .val (.int rb), .val (.int rc), .val (.int rd), .val (.int re), .val (.int g1), .val (.int g2), .val (.int eb), .val (.int ec), .val (.int ed), .val (.int ee)] [(.int rb)])) _
    refine XS.iload X16.here hx rfl (hb hby at_292) rfl ?_
    show Steps p.tables e below (T16.setTop (mkF m 294 #[.val (.long q1), .second, .val (.long q2), .second, .val (.long q3), .second, .val (.long q4), .second, .val (.long q5), .second, .val (.int p6), .val (.long xa), .second, .val (.long xb), .second, .val (.long xc), .second, .val (.long xd), .second, .val (.long xe), .second, .val (.int ((((p6.toUInt32 >>> ((5 : Int32) &&& 31).toUInt32).toInt32) &&& (7 : Int32)) % (5 : Int32))), .val (.int ((((p6.toUInt32 >>> ((8 : Int32) &&& 31).toUInt32).toInt32) &&& (7 : Int32)) % (5 : Int32))), .val (.long r1), .second, .val (.long r2), .second, .val (.ref b8), .val (.int (1 : Int32)), .val (.int rb), .val (.int rc), .val (.int rd), .val (.int re), .val (.int g1), .val (.int g2), .val (.int eb), .val (.int ec), .val (.int ed), .val (.int ee)] [(.int eb), (.int rb)])) _
    refine XS.icmpNo X16.here hx rfl (hb hby at_294) rfl (teq hqb).2 ?_
    show Steps p.tables e below (T16.setTop (mkF m 297 #[.val (.long q1), .second, .val (.long q2), .second, .val (.long q3), .second, .val (.long q4), .second, .val (.long q5), .second, .val (.int p6), .val (.long xa), .second, .val (.long xb), .second, .val (.long xc), .second, .val (.long xd), .second, .val (.long xe), .second, .val (.int ((((p6.toUInt32 >>> ((5 : Int32) &&& 31).toUInt32).toInt32) &&& (7 : Int32)) % (5 : Int32))), .val (.int ((((p6.toUInt32 >>> ((8 : Int32) &&& 31).toUInt32).toInt32) &&& (7 : Int32)) % (5 : Int32))), .val (.long r1), .second, .val (.long r2), .second, .val (.ref b8), .val (.int (1 : Int32)), .val (.int rb), .val (.int rc), .val (.int rd), .val (.int re), .val (.int g1), .val (.int g2), .val (.int eb), .val (.int ec), .val (.int ed), .val (.int ee)] [])) _
    refine XS.iload X16.here hx rfl (hb hby at_297) rfl ?_
    show Steps p.tables e below (T16.setTop (mkF m 299 #[.val (.long q1), .second, .val (.long q2), .second, .val (.long q3), .second, .val (.long q4), .second, .val (.long q5), .second, .val (.int p6), .val (.long xa), .second, .val (.long xb), .second, .val (.long xc), .second, .val (.long xd), .second, .val (.long xe), .second, .val (.int ((((p6.toUInt32 >>> ((5 : Int32) &&& 31).toUInt32).toInt32) &&& (7 : Int32)) % (5 : Int32))), .val (.int ((((p6.toUInt32 >>> ((8 : Int32) &&& 31).toUInt32).toInt32) &&& (7 : Int32)) % (5 : Int32))), .val (.long r1), .second, .val (.long r2), .second, .val (.ref b8), .val (.int (1 : Int32)), .val (.int rb), .val (.int rc), .val (.int rd), .val (.int re), .val (.int g1), .val (.int g2), .val (.int eb), .val (.int ec), .val (.int ed), .val (.int ee)] [(.int rc)])) _
    refine XS.iload X16.here hx rfl (hb hby at_299) rfl ?_
    show Steps p.tables e below (T16.setTop (mkF m 301 #[.val (.long q1), .second, .val (.long q2), .second, .val (.long q3), .second, .val (.long q4), .second, .val (.long q5), .second, .val (.int p6), .val (.long xa), .second, .val (.long xb), .second, .val (.long xc), .second, .val (.long xd), .second, .val (.long xe), .second, .val (.int ((((p6.toUInt32 >>> ((5 : Int32) &&& 31).toUInt32).toInt32) &&& (7 : Int32)) % (5 : Int32))), .val (.int ((((p6.toUInt32 >>> ((8 : Int32) &&& 31).toUInt32).toInt32) &&& (7 : Int32)) % (5 : Int32))), .val (.long r1), .second, .val (.long r2), .second, .val (.ref b8), .val (.int (1 : Int32)), .val (.int rb), .val (.int rc), .val (.int rd), .val (.int re), .val (.int g1), .val (.int g2), .val (.int eb), .val (.int ec), .val (.int ed), .val (.int ee)] [(.int ec), (.int rc)])) _
    refine XS.icmpNo X16.here hx rfl (hb hby at_301) rfl (teq hqc).2 ?_
    show Steps p.tables e below (T16.setTop (mkF m 304 #[.val (.long q1), .second, .val (.long q2), .second, .val (.long q3), .second, .val (.long q4), .second, .val (.long q5), .second, .val (.int p6), .val (.long xa), .second, .val (.long xb), .second, .val (.long xc), .second, .val (.long xd), .second, .val (.long xe), .second, .val (.int ((((p6.toUInt32 >>> ((5 : Int32) &&& 31).toUInt32).toInt32) &&& (7 : Int32)) % (5 : Int32))), .val (.int ((((p6.toUInt32 >>> ((8 : Int32) &&& 31).toUInt32).toInt32) &&& (7 : Int32)) % (5 : Int32))), .val (.long r1), .second, .val (.long r2), .second, .val (.ref b8), .val (.int (1 : Int32)), .val (.int rb), .val (.int rc), .val (.int rd), .val (.int re), .val (.int g1), .val (.int g2), .val (.int eb), .val (.int ec), .val (.int ed), .val (.int ee)] [])) _
    refine XS.iload X16.here hx rfl (hb hby at_304) rfl ?_
    show Steps p.tables e below (T16.setTop (mkF m 306 #[.val (.long q1), .second, .val (.long q2), .second, .val (.long q3), .second, .val (.long q4), .second, .val (.long q5), .second, .val (.int p6), .val (.long xa), .second, .val (.long xb), .second, .val (.long xc), .second, .val (.long xd), .second, .val (.long xe), .second, .val (.int ((((p6.toUInt32 >>> ((5 : Int32) &&& 31).toUInt32).toInt32) &&& (7 : Int32)) % (5 : Int32))), .val (.int ((((p6.toUInt32 >>> ((8 : Int32) &&& 31).toUInt32).toInt32) &&& (7 : Int32)) % (5 : Int32))), .val (.long r1), .second, .val (.long r2), .second, .val (.ref b8), .val (.int (1 : Int32)), .val (.int rb), .val (.int rc), .val (.int rd), .val (.int re), .val (.int g1), .val (.int g2), .val (.int eb), .val (.int ec), .val (.int ed), .val (.int ee)] [(.int rd)])) _
    refine XS.iload X16.here hx rfl (hb hby at_306) rfl ?_
    show Steps p.tables e below (T16.setTop (mkF m 308 #[.val (.long q1), .second, .val (.long q2), .second, .val (.long q3), .second, .val (.long q4), .second, .val (.long q5), .second, .val (.int p6), .val (.long xa), .second, .val (.long xb), .second, .val (.long xc), .second, .val (.long xd), .second, .val (.long xe), .second, .val (.int ((((p6.toUInt32 >>> ((5 : Int32) &&& 31).toUInt32).toInt32) &&& (7 : Int32)) % (5 : Int32))), .val (.int ((((p6.toUInt32 >>> ((8 : Int32) &&& 31).toUInt32).toInt32) &&& (7 : Int32)) % (5 : Int32))), .val (.long r1), .second, .val (.long r2), .second, .val (.ref b8), .val (.int (1 : Int32)), .val (.int rb), .val (.int rc), .val (.int rd), .val (.int re), .val (.int g1), .val (.int g2), .val (.int eb), .val (.int ec), .val (.int ed), .val (.int ee)] [(.int ed), (.int rd)])) _
    refine XS.icmpNo X16.here hx rfl (hb hby at_308) rfl (teq hqd).2 ?_
    show Steps p.tables e below (T16.setTop (mkF m 311 #[.val (.long q1), .second, .val (.long q2), .second, .val (.long q3), .second, .val (.long q4), .second, .val (.long q5), .second, .val (.int p6), .val (.long xa), .second, .val (.long xb), .second, .val (.long xc), .second, .val (.long xd), .second, .val (.long xe), .second, .val (.int ((((p6.toUInt32 >>> ((5 : Int32) &&& 31).toUInt32).toInt32) &&& (7 : Int32)) % (5 : Int32))), .val (.int ((((p6.toUInt32 >>> ((8 : Int32) &&& 31).toUInt32).toInt32) &&& (7 : Int32)) % (5 : Int32))), .val (.long r1), .second, .val (.long r2), .second, .val (.ref b8), .val (.int (1 : Int32)), .val (.int rb), .val (.int rc), .val (.int rd), .val (.int re), .val (.int g1), .val (.int g2), .val (.int eb), .val (.int ec), .val (.int ed), .val (.int ee)] [])) _
    refine XS.iload X16.here hx rfl (hb hby at_311) rfl ?_
    show Steps p.tables e below (T16.setTop (mkF m 313 #[.val (.long q1), .second, .val (.long q2), .second, .val (.long q3), .second, .val (.long q4), .second, .val (.long q5), .second, .val (.int p6), .val (.long xa), .second, .val (.long xb), .second, .val (.long xc), .second, .val (.long xd), .second, .val (.long xe), .second, .val (.int ((((p6.toUInt32 >>> ((5 : Int32) &&& 31).toUInt32).toInt32) &&& (7 : Int32)) % (5 : Int32))), .val (.int ((((p6.toUInt32 >>> ((8 : Int32) &&& 31).toUInt32).toInt32) &&& (7 : Int32)) % (5 : Int32))), .val (.long r1), .second, .val (.long r2), .second, .val (.ref b8), .val (.int (1 : Int32)), .val (.int rb), .val (.int rc), .val (.int rd), .val (.int re), .val (.int g1), .val (.int g2), .val (.int eb), .val (.int ec), .val (.int ed), .val (.int ee)] [(.int re)])) _
    refine XS.iload X16.here hx rfl (hb hby at_313) rfl ?_
    show Steps p.tables e below (T16.setTop (mkF m 315 #[.val (.long q1), .second, .val (.long q2), .second, .val (.long q3), .second, .val (.long q4), .second, .val (.long q5), .second, .val (.int p6), .val (.long xa), .second, .val (.long xb), .second, .val (.long xc), .second, .val (.long xd), .second, .val (.long xe), .second, .val (.int ((((p6.toUInt32 >>> ((5 : Int32) &&& 31).toUInt32).toInt32) &&& (7 : Int32)) % (5 : Int32))), .val (.int ((((p6.toUInt32 >>> ((8 : Int32) &&& 31).toUInt32).toInt32) &&& (7 : Int32)) % (5 : Int32))), .val (.long r1), .second, .val (.long r2), .second, .val (.ref b8), .val (.int (1 : Int32)), .val (.int rb), .val (.int rc), .val (.int rd), .val (.int re), .val (.int g1), .val (.int g2), .val (.int eb), .val (.int ec), .val (.int ed), .val (.int ee)] [(.int ee), (.int re)])) _
    refine XS.icmpNo X16.here hx rfl (hb hby at_315) rfl (teq hqe).2 ?_
    show Steps p.tables e below (T16.setTop (mkF m 318 #[.val (.long q1), .second, .val (.long q2), .second, .val (.long q3), .second, .val (.long q4), .second, .val (.long q5), .second, .val (.int p6), .val (.long xa), .second, .val (.long xb), .second, .val (.long xc), .second, .val (.long xd), .second, .val (.long xe), .second, .val (.int ((((p6.toUInt32 >>> ((5 : Int32) &&& 31).toUInt32).toInt32) &&& (7 : Int32)) % (5 : Int32))), .val (.int ((((p6.toUInt32 >>> ((8 : Int32) &&& 31).toUInt32).toInt32) &&& (7 : Int32)) % (5 : Int32))), .val (.long r1), .second, .val (.long r2), .second, .val (.ref b8), .val (.int (1 : Int32)), .val (.int rb), .val (.int rc), .val (.int rd), .val (.int re), .val (.int g1), .val (.int g2), .val (.int eb), .val (.int ec), .val (.int ed), .val (.int ee)] [])) _
    refine XS.iload X16.here hx rfl (hb hby at_318) rfl ?_
    show Steps p.tables e below (T16.setTop (mkF m 320 #[.val (.long q1), .second, .val (.long q2), .second, .val (.long q3), .second, .val (.long q4), .second, .val (.long q5), .second, .val (.int p6), .val (.long xa), .second, .val (.long xb), .second, .val (.long xc), .second, .val (.long xd), .second, .val (.long xe), .second, .val (.int ((((p6.toUInt32 >>> ((5 : Int32) &&& 31).toUInt32).toInt32) &&& (7 : Int32)) % (5 : Int32))), .val (.int ((((p6.toUInt32 >>> ((8 : Int32) &&& 31).toUInt32).toInt32) &&& (7 : Int32)) % (5 : Int32))), .val (.long r1), .second, .val (.long r2), .second, .val (.ref b8), .val (.int (1 : Int32)), .val (.int rb), .val (.int rc), .val (.int rd), .val (.int re), .val (.int g1), .val (.int g2), .val (.int eb), .val (.int ec), .val (.int ed), .val (.int ee)] [(.int g1)])) _
    refine XS.ifNo X16.here hx rfl (hb hby at_320) rfl ((if0 _ _).trans (teq hg1).2) ?_
    show Steps p.tables e below (T16.setTop (mkF m 323 #[.val (.long q1), .second, .val (.long q2), .second, .val (.long q3), .second, .val (.long q4), .second, .val (.long q5), .second, .val (.int p6), .val (.long xa), .second, .val (.long xb), .second, .val (.long xc), .second, .val (.long xd), .second, .val (.long xe), .second, .val (.int ((((p6.toUInt32 >>> ((5 : Int32) &&& 31).toUInt32).toInt32) &&& (7 : Int32)) % (5 : Int32))), .val (.int ((((p6.toUInt32 >>> ((8 : Int32) &&& 31).toUInt32).toInt32) &&& (7 : Int32)) % (5 : Int32))), .val (.long r1), .second, .val (.long r2), .second, .val (.ref b8), .val (.int (1 : Int32)), .val (.int rb), .val (.int rc), .val (.int rd), .val (.int re), .val (.int g1), .val (.int g2), .val (.int eb), .val (.int ec), .val (.int ed), .val (.int ee)] [])) _
    refine XS.iload X16.here hx rfl (hb hby at_323) rfl ?_
    show Steps p.tables e below (T16.setTop (mkF m 325 #[.val (.long q1), .second, .val (.long q2), .second, .val (.long q3), .second, .val (.long q4), .second, .val (.long q5), .second, .val (.int p6), .val (.long xa), .second, .val (.long xb), .second, .val (.long xc), .second, .val (.long xd), .second, .val (.long xe), .second, .val (.int ((((p6.toUInt32 >>> ((5 : Int32) &&& 31).toUInt32).toInt32) &&& (7 : Int32)) % (5 : Int32))), .val (.int ((((p6.toUInt32 >>> ((8 : Int32) &&& 31).toUInt32).toInt32) &&& (7 : Int32)) % (5 : Int32))), .val (.long r1), .second, .val (.long r2), .second, .val (.ref b8), .val (.int (1 : Int32)), .val (.int rb), .val (.int rc), .val (.int rd), .val (.int re), .val (.int g1), .val (.int g2), .val (.int eb), .val (.int ec), .val (.int ed), .val (.int ee)] [(.int g2)])) _
    refine XS.ifNo X16.here hx rfl (hb hby at_325) rfl ((if0 _ _).trans (teq hg2).2) ?_
    show Steps p.tables e below (T16.setTop (mkF m 328 #[.val (.long q1), .second, .val (.long q2), .second, .val (.long q3), .second, .val (.long q4), .second, .val (.long q5), .second, .val (.int p6), .val (.long xa), .second, .val (.long xb), .second, .val (.long xc), .second, .val (.long xd), .second, .val (.long xe), .second, .val (.int ((((p6.toUInt32 >>> ((5 : Int32) &&& 31).toUInt32).toInt32) &&& (7 : Int32)) % (5 : Int32))), .val (.int ((((p6.toUInt32 >>> ((8 : Int32) &&& 31).toUInt32).toInt32) &&& (7 : Int32)) % (5 : Int32))), .val (.long r1), .second, .val (.long r2), .second, .val (.ref b8), .val (.int (1 : Int32)), .val (.int rb), .val (.int rc), .val (.int rd), .val (.int re), .val (.int g1), .val (.int g2), .val (.int eb), .val (.int ec), .val (.int ed), .val (.int ee)] [])) _
    refine XS.iconst X16.here hx rfl (hb hby at_328) ?_
    show Steps p.tables e below (T16.setTop (mkF m 329 #[.val (.long q1), .second, .val (.long q2), .second, .val (.long q3), .second, .val (.long q4), .second, .val (.long q5), .second, .val (.int p6), .val (.long xa), .second, .val (.long xb), .second, .val (.long xc), .second, .val (.long xd), .second, .val (.long xe), .second, .val (.int ((((p6.toUInt32 >>> ((5 : Int32) &&& 31).toUInt32).toInt32) &&& (7 : Int32)) % (5 : Int32))), .val (.int ((((p6.toUInt32 >>> ((8 : Int32) &&& 31).toUInt32).toInt32) &&& (7 : Int32)) % (5 : Int32))), .val (.long r1), .second, .val (.long r2), .second, .val (.ref b8), .val (.int (1 : Int32)), .val (.int rb), .val (.int rc), .val (.int rd), .val (.int re), .val (.int g1), .val (.int g2), .val (.int eb), .val (.int ec), .val (.int ed), .val (.int ee)] [(.int (1 : Int32))])) _
    refine XS.goto X16.here hx rfl (pc0 := 329) (pc' := 333) rfl (hb hby at_329) (by decide) (by decide) ?_
    show Steps p.tables e below (T16.setTop (mkF m 333 #[.val (.long q1), .second, .val (.long q2), .second, .val (.long q3), .second, .val (.long q4), .second, .val (.long q5), .second, .val (.int p6), .val (.long xa), .second, .val (.long xb), .second, .val (.long xc), .second, .val (.long xd), .second, .val (.long xe), .second, .val (.int ((((p6.toUInt32 >>> ((5 : Int32) &&& 31).toUInt32).toInt32) &&& (7 : Int32)) % (5 : Int32))), .val (.int ((((p6.toUInt32 >>> ((8 : Int32) &&& 31).toUInt32).toInt32) &&& (7 : Int32)) % (5 : Int32))), .val (.long r1), .second, .val (.long r2), .second, .val (.ref b8), .val (.int (1 : Int32)), .val (.int rb), .val (.int rc), .val (.int rd), .val (.int re), .val (.int g1), .val (.int g2), .val (.int eb), .val (.int ec), .val (.int ed), .val (.int ee)] [(.int (1 : Int32))])) _
    exact retN X16 hx (t := .boolean) Bd.returns (by simp) (hb hby at_333) hr
  · show Q0 Z q1 q2 q3 q4 q5 p6 h0 n0 _ T16.heap _
    exact ⟨rfl, N16⟩
set_option maxRecDepth 65536 in
set_option maxHeartbeats 40000000 in
theorem comes_1 {Post : Tables → Env → Array Value → State → Outcome → State → Prop} (hpost : ∀ tb e args s v u, (limb_1_1.after args s (.returned v) u = true ∧ limb_1_2.after args s (.returned v) u = true ∧ True) → FrameEnd s (.returned v) u (Jvm.fieldLocs frame_1_writes args s ++ Jvm.arrayLocs frame_1_arrays args s ++ Jvm.staticLocs frame_1_statics s) 16 34944 → Post tb e args s (.returned v) u) :
    ArmFor flags0 classFile x code maxLocals ret World_1 tables_1 room_1 Calls_1 rest_1 Pre_1 Post := by
  intro l hfl _ _ p e ha hc hk s m args below hf hA hF happ hP
  obtain ⟨hcalls, hrest, hpre⟩ := hP
  obtain ⟨-, -, -, hnamed, -, -, -, hat⟩ := (Spec.applies_iff hf).mp happ
  obtain ⟨hg, hn⟩ := and_e (Cond.before_iff.mp (show (Jvm.Cond.and given_1 narrow_1).before args s = true from hpre))
  obtain ⟨g0, g_r⟩ := and_e hg
  obtain ⟨g1, g_rr⟩ := and_e g_r
  obtain ⟨g2, g_rrr⟩ := and_e g_rr
  obtain ⟨g3, g_rrrr⟩ := and_e g_rrr
  obtain ⟨g4, g_rrrrr⟩ := and_e g_rrrr
  obtain ⟨g5, g6⟩ := and_e g_rrrrr
  obtain ⟨w0, w1, w2, w3, w4, w5, rfl⟩ : ∃ w0 w1 w2 w3 w4 w5 : Value, args = #[w0, w1, w2, w3, w4, w5] := by
    have hs : args.size = 6 := by simpa [Cond.value, given_1] using g0
    obtain ⟨L⟩ := args
    match L, hs with
    | [w0, w1, w2, w3, w4, w5], _ => exact ⟨w0, w1, w2, w3, w4, w5, rfl⟩
  have hw := fun d (hd : d ∈ tables_1) => atoms_spec (ws := Jvm.Cond.code x code maxLocals ret :: tables_1) hat d (List.mem_cons_of_mem _ hd)
  have hfit : Fit s := fun {y c} hc i hi => by
    obtain ⟨ha, rfl⟩ := Array.getElem?_eq_some_iff.mp hc
    have q := List.all_eq_true.mp ((Array.all_eq_true_iff_forall_mem.mp hF) _ (Array.getElem_mem ha)) i (List.mem_range.mpr hi)
    simpa [Array.getElem?_eq_getElem hi] using q
  obtain ⟨i0, ei0⟩ := isL_v g1
  obtain rfl : w0 = (.long i0) := Option.some.inj ei0
  obtain ⟨i1, ei1⟩ := isL_v g2
  obtain rfl : w1 = (.long i1) := Option.some.inj ei1
  obtain ⟨i2, ei2⟩ := isL_v g3
  obtain rfl : w2 = (.long i2) := Option.some.inj ei2
  obtain ⟨i3, ei3⟩ := isL_v g4
  obtain rfl : w3 = (.long i3) := Option.some.inj ei3
  obtain ⟨i4, ei4⟩ := isL_v g5
  obtain rfl : w4 = (.long i4) := Option.some.inj ei4
  obtain ⟨i5, ei5⟩ := is_v g6
  obtain rfl : w5 = (.int i5) := Option.some.inj ei5
  obtain ⟨n, o, h1, h2, h3, _, L, rfl, ⟨rfl, N⟩, hq⟩ := rm0 l s _ hw tables_1 i0 i1 i2 i3 i4 i5  s.heap s.heap.size (Nat.le_refl _)  p e ha hc hk s m _ below hf ((Spec.applies_iff_loose hf).mp happ).1 ⟨rfl, State.Warmed39.refl s, rfl⟩ trivial
  refine ⟨n, _, h1, h2, h3, hpost _ _ _ _ _ _ ⟨Cond.after_iff.mpr rfl, Cond.after_iff.mpr (eq_i res_at (Term.int_eval (1)) rfl), trivial⟩ ⟨hq.1, hq.2.1, (hq.2.2.sift fun y hy => Or.inr (N y hy)).mono (by decide +kernel) (by decide +kernel)⟩⟩
theorem main_1_1 : Claimed_1_1 := comes_1 fun _ _ _ _ _ _ h hF => ⟨h.1, hF⟩
theorem main_1_2 : Claimed_1_2 := comes_1 fun _ _ _ _ _ _ h hF => ⟨h.2.1, hF⟩
end Jvm.Pilot.@@N@@
namespace Jvm.Pilot.@@N@@
open Jvm Jvm.ClassFile Sem Op Lib Jvm.Free Jvm.Stand Jvm.Pilot.@@N@@.Jvm.D
/-! MADE BY PROGRAM (witnessworld.py) out of the Statement's table words and the real class files: 11 classes; the members and pool entries that the words name. The judged class is class 1, her method 3. -/
namespace start1
open Jvm.ClassFile
def u (s : String) : CpInfo := .utf8 (stringToUtf16 s)
/-- a pool by its gaps: so many unusable entries, then the entry; so many at the end -/
def gap : Nat → List CpInfo → List CpInfo
  | 0, r => r
  | n + 1, r => .unusable :: gap n r
def poolList (es : List (Nat × CpInfo)) (last : Nat) : List CpInfo := es.foldr (fun e r => gap e.1 (e.2 :: r)) (gap last [])
def pool (es : List (Nat × CpInfo)) (last : Nat) : Array CpInfo := ⟨poolList es last⟩
def fileOf (pool : Array CpInfo) (this : Nat) (attrs : Array Attribute := #[]) (ms : Array MethodInfo := #[]) (fl : Nat := 33) (sup : Nat := 0) (ifs : Array Nat := #[]) (fds : Array FieldInfo := #[]) : ClassFile where
  minorVersion := 0
  majorVersion := 65
  constantPool := pool
  accessFlags := fl
  thisClass := this
  superClass := sup
  interfaces := ifs
  fields := fds
  methods := ms
  attributes := attrs
def plain (name : String) (sup : Option ClassId) : Class where
  name := name
  kind := .ordinary
  loader := none
  accessFlags := 33
  super := sup
  interfaces := #[]
  cf := none
  fields := #[]
  methods := #[]
  instanceTypes := #[]
  staticTypes := #[]
  resolved := #[]
  callSites := []
  init := .initialized
  statics := none
  mirror := none

def pool0 : Array CpInfo := pool [(5, u "<init>"), (0, u "()V"), (1, .class_ 10), (1, u "java/lang/Object")] 113

def k0c0 : Code := { maxStack := 0, maxLocals := 1, code := object_method_1_code, exceptionTable := #[], attributes := #[] }
def k0m0 : Method := { name := "<init>", desc := "()V", sig := { parameters := [], returnType := none }, accessFlags := 1, code := some k0c0 }
/-- java/lang/Object -/
def k0 : Class := { plain "java/lang/Object" none with
  accessFlags := 33
  interfaces := #[]
  cf := some (fileOf pool0 8 #[] #[{ accessFlags := 1, nameIndex := 5, descriptorIndex := 6, attributes := #[] }] 33 0 #[] #[])
  fields := #[]
  methods := #[k0m0]
  instanceTypes := #[]
  staticTypes := #[]
  resolved := Array.replicate 124 none
  statics := none }

def pool1 : Array CpInfo := pool [(2, .class_ 4), (0, .nameAndType 5 6), (0, u "java/lang/Object"), (0, u "<init>"), (0, u "()V"), (0, .long 7), (3, .long 9223372036854775807), (1, .methodref 14 15), (0, .class_ 16), (0, .nameAndType 17 18), (0, u "com/example/dilate_query/dilatequery/collection/PostIdsAddPinLaw"), (0, u "id"), (0, u "(JII)J"), (0, .methodref 14 20), (0, .nameAndType 21 22), (0, u "pick"), (0, u "(IJJJJJ)J"), (0, .class_ 24), (0, u "com/example/dilate_query/dilatequery/collection/PostIds"), (0, .methodref 23 3), (0, .methodref 23 27), (0, .nameAndType 28 29), (0, u "add"), (0, u "(J)Z"), (3, u "law"), (0, u "(JJJJJI)Z")] 2

def k1m0 : Method := { name := "<init>", desc := "()V", sig := { parameters := [], returnType := none }, accessFlags := 1, code := none }
def k1c1 : Code := { maxStack := 4, maxLocals := 6, code := method_2_code, exceptionTable := #[], attributes := #[] }
def k1m1 : Method := { name := "id", desc := "(JII)J", sig := { parameters := [.long, .int, .int], returnType := some .long }, accessFlags := 10, code := some k1c1 }
def k1c2 : Code := { maxStack := 2, maxLocals := 11, code := method_3_code, exceptionTable := #[], attributes := #[] }
def k1m2 : Method := { name := "pick", desc := "(IJJJJJ)J", sig := { parameters := [.int, .long, .long, .long, .long, .long], returnType := some .long }, accessFlags := 10, code := some k1c2 }
def k1c3 : Code := { maxStack := 11, maxLocals := 39, code := code, exceptionTable := #[], attributes := #[] }
def k1m3 : Method := { name := "law", desc := "(JJJJJI)Z", sig := { parameters := [.long, .long, .long, .long, .long, .int], returnType := some .boolean }, accessFlags := 9, code := some k1c3 }
/-- com/example/dilate_query/dilatequery/collection/PostIdsAddPinLaw -/
def k1 : Class := { plain "com/example/dilate_query/dilatequery/collection/PostIdsAddPinLaw" (some 0) with
  accessFlags := 49
  interfaces := #[]
  cf := some (fileOf pool1 14 #[] #[{ accessFlags := 1, nameIndex := 5, descriptorIndex := 6, attributes := #[] }, { accessFlags := 10, nameIndex := 17, descriptorIndex := 18, attributes := #[] }, { accessFlags := 10, nameIndex := 21, descriptorIndex := 22, attributes := #[] }, { accessFlags := 9, nameIndex := 33, descriptorIndex := 34, attributes := #[] }] 49 2 #[] #[])
  fields := #[]
  methods := #[k1m0, k1m1, k1m2, k1m3]
  instanceTypes := #[]
  staticTypes := #[]
  resolved := Array.replicate 37 none
  statics := none }

def pool2 : Array CpInfo := pool [(1, .class_ 2), (0, u "com/example/dilate_query/dilatequery/collection/PostIds"), (0, .methodref 4 5), (0, .class_ 6), (0, .nameAndType 7 8), (0, u "java/lang/Object"), (0, u "<init>"), (0, u "()V"), (0, .class_ 10), (0, u "[J"), (0, .fieldref 1 12), (0, .nameAndType 13 14), (0, u "blocks"), (0, u "[[J"), (0, .fieldref 1 16), (0, .nameAndType 17 10), (0, u "table"), (0, .fieldref 1 19), (0, .nameAndType 20 21), (0, u "tableBits"), (0, u "I"), (0, .fieldref 1 23), (0, .nameAndType 24 25), (0, u "largest"), (0, u "J"), (0, .methodref 1 27), (0, .nameAndType 28 29), (0, u "append"), (0, u "(J)V"), (0, .methodref 1 31), (0, .nameAndType 32 33), (0, u "inAscendingList"), (0, u "(J)Z"), (0, .methodref 1 35), (0, .nameAndType 36 33), (0, u "addToTable"), (0, .fieldref 1 38), (0, .nameAndType 39 21), (0, u "ascendingCount"), (7, .methodref 1 48), (0, .nameAndType 49 50), (0, u "slotFor"), (0, u "(J)I"), (0, .fieldref 1 52), (0, .nameAndType 53 21), (0, u "tableCount"), (0, .long 4), (1, .long 3), (4, .long 11400714819323198485), (3, u "BLOCK_BITS"), (2, u "BLOCK_SIZE"), (1, u "INITIAL_TABLE_BITS"), (1, u "GOLDEN_MULTIPLIER"), (0, u "EMPTY"), (4, u "add")] 3

def k2c0 : Code := { maxStack := 2, maxLocals := 1, code := prog_2_method_1_code, exceptionTable := #[], attributes := #[] }
def k2m0 : Method := { name := "<init>", desc := "()V", sig := { parameters := [], returnType := none }, accessFlags := 0, code := some k2c0 }
def k2c1 : Code := { maxStack := 4, maxLocals := 4, code := prog_2_method_2_code, exceptionTable := #[], attributes := #[] }
def k2m1 : Method := { name := "add", desc := "(J)Z", sig := { parameters := [.long], returnType := some .boolean }, accessFlags := 0, code := some k2c1 }
def k2c2 : Code := { maxStack := 4, maxLocals := 4, code := prog_2_method_3_code, exceptionTable := #[], attributes := #[] }
def k2m2 : Method := { name := "append", desc := "(J)V", sig := { parameters := [.long], returnType := none }, accessFlags := 2, code := some k2c2 }
def k2c3 : Code := { maxStack := 4, maxLocals := 8, code := prog_2_method_4_code, exceptionTable := #[], attributes := #[] }
def k2m3 : Method := { name := "inAscendingList", desc := "(J)Z", sig := { parameters := [.long], returnType := some .boolean }, accessFlags := 2, code := some k2c3 }
def k2c4 : Code := { maxStack := 6, maxLocals := 5, code := prog_2_method_5_code, exceptionTable := #[], attributes := #[] }
def k2m4 : Method := { name := "addToTable", desc := "(J)Z", sig := { parameters := [.long], returnType := some .boolean }, accessFlags := 2, code := some k2c4 }
def k2c5 : Code := { maxStack := 4, maxLocals := 5, code := prog_2_method_6_code, exceptionTable := #[], attributes := #[] }
def k2m5 : Method := { name := "slotFor", desc := "(J)I", sig := { parameters := [.long], returnType := some .int }, accessFlags := 2, code := some k2c5 }
/-- com/example/dilate_query/dilatequery/collection/PostIds -/
def k2 : Class := { plain "com/example/dilate_query/dilatequery/collection/PostIds" (some 0) with
  accessFlags := 48
  interfaces := #[]
  cf := some (fileOf pool2 1 #[] #[{ accessFlags := 0, nameIndex := 7, descriptorIndex := 8, attributes := #[] }, { accessFlags := 0, nameIndex := 78, descriptorIndex := 33, attributes := #[] }, { accessFlags := 2, nameIndex := 28, descriptorIndex := 29, attributes := #[] }, { accessFlags := 2, nameIndex := 32, descriptorIndex := 33, attributes := #[] }, { accessFlags := 2, nameIndex := 36, descriptorIndex := 33, attributes := #[] }, { accessFlags := 2, nameIndex := 49, descriptorIndex := 50, attributes := #[] }] 48 4 #[] #[{ accessFlags := 26, nameIndex := 65, descriptorIndex := 21, attributes := #[] }, { accessFlags := 26, nameIndex := 68, descriptorIndex := 21, attributes := #[] }, { accessFlags := 26, nameIndex := 70, descriptorIndex := 21, attributes := #[] }, { accessFlags := 26, nameIndex := 72, descriptorIndex := 25, attributes := #[] }, { accessFlags := 26, nameIndex := 73, descriptorIndex := 25, attributes := #[] }, { accessFlags := 2, nameIndex := 13, descriptorIndex := 14, attributes := #[] }, { accessFlags := 2, nameIndex := 39, descriptorIndex := 21, attributes := #[] }, { accessFlags := 2, nameIndex := 24, descriptorIndex := 25, attributes := #[] }, { accessFlags := 2, nameIndex := 17, descriptorIndex := 10, attributes := #[] }, { accessFlags := 2, nameIndex := 20, descriptorIndex := 21, attributes := #[] }, { accessFlags := 2, nameIndex := 53, descriptorIndex := 21, attributes := #[] }])
  fields := #[{ name := "BLOCK_BITS", type := .int, accessFlags := 26, slot := 0, constantValue := 0 }, { name := "BLOCK_SIZE", type := .int, accessFlags := 26, slot := 1, constantValue := 0 }, { name := "INITIAL_TABLE_BITS", type := .int, accessFlags := 26, slot := 2, constantValue := 0 }, { name := "GOLDEN_MULTIPLIER", type := .long, accessFlags := 26, slot := 3, constantValue := 0 }, { name := "EMPTY", type := .long, accessFlags := 26, slot := 4, constantValue := 0 }, { name := "blocks", type := (.array (.array .long)), accessFlags := 2, slot := 0, constantValue := 0 }, { name := "ascendingCount", type := .int, accessFlags := 2, slot := 1, constantValue := 0 }, { name := "largest", type := .long, accessFlags := 2, slot := 2, constantValue := 0 }, { name := "table", type := (.array .long), accessFlags := 2, slot := 3, constantValue := 0 }, { name := "tableBits", type := .int, accessFlags := 2, slot := 4, constantValue := 0 }, { name := "tableCount", type := .int, accessFlags := 2, slot := 5, constantValue := 0 }]
  methods := #[k2m0, k2m1, k2m2, k2m3, k2m4, k2m5]
  instanceTypes := #[(.array (.array .long)), .int, .long, (.array .long), .int, .int]
  staticTypes := #[.int, .int, .int, .long, .long]
  resolved := Array.replicate 82 none
  statics := none }

def pool3 : Array CpInfo := pool [(1, u "java/lang/Cloneable"), (0, .class_ 1), (0, u "java/lang/Object"), (0, .class_ 3)] 3

/-- java/lang/Cloneable -/
def k3 : Class := { plain "java/lang/Cloneable" (some 0) with
  accessFlags := 1537
  interfaces := #[]
  cf := some (fileOf pool3 2 #[] #[] 1537 4 #[] #[])
  fields := #[]
  methods := #[]
  instanceTypes := #[]
  staticTypes := #[]
  resolved := Array.replicate 8 none
  statics := none }

def pool4 : Array CpInfo := pool [(1, u "java/io/Serializable"), (0, .class_ 1), (0, u "java/lang/Object"), (0, .class_ 3)] 3

/-- java/io/Serializable -/
def k4 : Class := { plain "java/io/Serializable" (some 0) with
  accessFlags := 1537
  interfaces := #[]
  cf := some (fileOf pool4 2 #[] #[] 1537 4 #[] #[])
  fields := #[]
  methods := #[]
  instanceTypes := #[]
  staticTypes := #[]
  resolved := Array.replicate 8 none
  statics := none }

/-- the primitive byte -/
def k5 : Class := { plain "byte" none with kind := .primitive 'B', accessFlags := 0x411 }
/-- [B -/
def k6 : Class := { plain "[B" (some 0) with kind := .array 5 .byte, interfaces := #[3, 4], accessFlags := 1041 }

/-- the primitive int -/
def k7 : Class := { plain "int" none with kind := .primitive 'I', accessFlags := 0x411 }
/-- [I -/
def k8 : Class := { plain "[I" (some 0) with kind := .array 7 .int, interfaces := #[3, 4], accessFlags := 1041 }

/-- the primitive long -/
def k9 : Class := { plain "long" none with kind := .primitive 'J', accessFlags := 0x411 }
/-- [J -/
def k10 : Class := { plain "[J" (some 0) with kind := .array 9 .long, interfaces := #[3, 4], accessFlags := 1041 }
/-- [[J -/
def k11 : Class := { plain "[[J" (some 0) with kind := .array 10 (.array .long), interfaces := #[3, 4], accessFlags := 1041 }

def heap : Heap := #[]
def classes : Array Class := #[k0, k1, k2, k3, k4, k5, k6, k7, k8, k9, k10, k11]
def interned : List (Array UInt16 × Addr) := []
def slotsUsed : Nat := 0
def theMethod : MethodId := ⟨1, 3⟩
def args0 : Array Value := #[.long 5, .long 7, .long 8, .long 9, .long 10, .int 3]
def aboutOver (below : List Frame) : State where
  vm := { classes := classes, interned := interned.toArray }
  heap := heap
  slotsUsed := slotsUsed
  threads := #[{ frames := .invoking theMethod args0 :: below }]
def below0 : List Frame := [.native { method := ⟨0, 0⟩, args := #[] }]
def about1 : State := aboutOver below0
def p0 : Program := .bare "" "" ""
def e0 : Env := launch0.env 0 0 0
theorem w_frames : about1.frames = Frame.invoking theMethod args0 :: below0 := rfl
set_option maxRecDepth 65536 in
theorem w_args : argsFit about1.vm theMethod args0 = true := by decide +kernel
set_option maxRecDepth 65536 in
theorem w_heap : heapFits about1 = true := by decide +kernel
set_option maxRecDepth 65536 in
theorem w_runnable : about1.curStatus? = some .runnable := by decide +kernel
set_option maxRecDepth 65536 in
theorem w_alone : about1.alone = true := by decide +kernel
set_option maxRecDepth 65536 in
theorem w_named : about1.methodNamed? x = some theMethod := by decide +kernel
set_option maxRecDepth 65536 in
theorem w_hears : about1.hears theMethod below0 = true := by decide +kernel
set_option maxRecDepth 65536 in
theorem w_ripe : about1.ripe theMethod args0 below0 = true := by decide +kernel
theorem w_running : about1.status = .running := rfl
set_option maxRecDepth 65536 in
theorem w_room : about1.hasRoom e0.platform room_1 = true :=
  launch0.hasRoom_least _ room_1 (by decide +kernel) (by decide +kernel) (by decide +kernel) (by decide +kernel) (by decide +kernel) (by decide +kernel)
theorem allAtoms_all (ts : List Jvm.Cond) (a : Array Jvm.Value) (st : Jvm.State) : (allAtoms ts).before a st = ts.all (fun c => c.before a st) := by
  induction ts with
  | nil => rfl
  | cons c t ih =>
    show (Jvm.Cond.and c (allAtoms t)).before a st = _
    rw [Jvm.Cond.before_and, ih, List.all_cons]
def words1 : List Jvm.Cond := Jvm.Cond.code x code maxLocals ret :: tables_1
/-- a 'code' word, met by the world's own term for the bytes: nothing is compared byte by byte -/
theorem code_word {y : MethodName} {bytes : ByteArray} {mx : Nat} {rt : Option FieldType} {a : Array Value} {s : State} {m : MethodId} {meth : Method} {c : Code} (h1 : s.methodNamed? y = some m) (h2 : s.vm.method? m = some meth) (h3 : meth.code = some c) (h4 : c.code = bytes)
    (h5 : (c.maxLocals == mx && c.exceptionTable.isEmpty && decide (c.maxStack ≤ mostOperands) && decide (meth.sig.returnType = rt) && !meth.locks && decide (parseMethodDescriptor y.desc = some meth.sig)) = true) : (Jvm.Cond.code y bytes mx rt).before a s = true := by
  simp only [Bool.and_eq_true, beq_iff_eq, Bool.not_eq_true', decide_eq_true_eq] at h5
  obtain ⟨⟨⟨⟨⟨g1, g2⟩, g3⟩, g4⟩, g5⟩, g6⟩ := h5
  simp [Cond.before, Cond.holds, Cond.value, h1, h2, h3, h4, g1, g2, g3, g4, g5, g6]
def isCode : Jvm.Cond → Bool
  | .code _ _ _ _ => true
  | _ => false
theorem all_split {L : List Jvm.Cond} {P : Jvm.Cond → Bool} (h1 : L.all (fun c => isCode c || P c) = true) (h2 : ∀ c ∈ L.filter isCode, P c = true) : L.all P = true := by
  refine List.all_eq_true.mpr fun c hc => ?_
  have h := List.all_eq_true.mp h1 c hc
  rcases Bool.eq_false_or_eq_true (isCode c) with hi | hi
  · exact h2 c (List.mem_filter.mpr ⟨hc, hi⟩)
  · simpa [hi] using h
set_option maxRecDepth 65536 in
theorem w_c0 : (Jvm.Cond.code x code maxLocals ret).before args0 about1 = true := code_word (m := ⟨1, 3⟩) (meth := k1m3) (c := k1c3) (by decide +kernel) rfl rfl rfl (by decide +kernel)
set_option maxRecDepth 65536 in
theorem w_c1 : (Jvm.Cond.code ({ cls := "com/example/dilate_query/dilatequery/collection/PostIdsAddPinLaw", name := "id", desc := "(JII)J" } : Jvm.MethodName) method_2_code (6 : Nat) (Option.some Jvm.ClassFile.FieldType.long)).before args0 about1 = true := code_word (m := ⟨1, 1⟩) (meth := k1m1) (c := k1c1) (by decide +kernel) rfl rfl rfl (by decide +kernel)
set_option maxRecDepth 65536 in
theorem w_c2 : (Jvm.Cond.code ({ cls := "com/example/dilate_query/dilatequery/collection/PostIdsAddPinLaw", name := "pick", desc := "(IJJJJJ)J" } : Jvm.MethodName) method_3_code (11 : Nat) (Option.some Jvm.ClassFile.FieldType.long)).before args0 about1 = true := code_word (m := ⟨1, 2⟩) (meth := k1m2) (c := k1c2) (by decide +kernel) rfl rfl rfl (by decide +kernel)
set_option maxRecDepth 65536 in
theorem w_c3 : (Jvm.Cond.code ({ cls := "com/example/dilate_query/dilatequery/collection/PostIds", name := "<init>", desc := "()V" } : Jvm.MethodName) prog_2_method_1_code (1 : Nat) (Option.none : Option Jvm.ClassFile.FieldType)).before args0 about1 = true := code_word (m := ⟨2, 0⟩) (meth := k2m0) (c := k2c0) (by decide +kernel) rfl rfl rfl (by decide +kernel)
set_option maxRecDepth 65536 in
theorem w_c4 : (Jvm.Cond.code ({ cls := "java/lang/Object", name := "<init>", desc := "()V" } : Jvm.MethodName) object_method_1_code (1 : Nat) (Option.none : Option Jvm.ClassFile.FieldType)).before args0 about1 = true := code_word (m := ⟨0, 0⟩) (meth := k0m0) (c := k0c0) (by decide +kernel) rfl rfl rfl (by decide +kernel)
set_option maxRecDepth 65536 in
theorem w_c5 : (Jvm.Cond.code ({ cls := "com/example/dilate_query/dilatequery/collection/PostIds", name := "add", desc := "(J)Z" } : Jvm.MethodName) prog_2_method_2_code (4 : Nat) (Option.some Jvm.ClassFile.FieldType.boolean)).before args0 about1 = true := code_word (m := ⟨2, 1⟩) (meth := k2m1) (c := k2c1) (by decide +kernel) rfl rfl rfl (by decide +kernel)
set_option maxRecDepth 65536 in
theorem w_c6 : (Jvm.Cond.code ({ cls := "com/example/dilate_query/dilatequery/collection/PostIds", name := "append", desc := "(J)V" } : Jvm.MethodName) prog_2_method_3_code (4 : Nat) (Option.none : Option Jvm.ClassFile.FieldType)).before args0 about1 = true := code_word (m := ⟨2, 2⟩) (meth := k2m2) (c := k2c2) (by decide +kernel) rfl rfl rfl (by decide +kernel)
set_option maxRecDepth 65536 in
theorem w_c7 : (Jvm.Cond.code ({ cls := "com/example/dilate_query/dilatequery/collection/PostIds", name := "inAscendingList", desc := "(J)Z" } : Jvm.MethodName) prog_2_method_4_code (8 : Nat) (Option.some Jvm.ClassFile.FieldType.boolean)).before args0 about1 = true := code_word (m := ⟨2, 3⟩) (meth := k2m3) (c := k2c3) (by decide +kernel) rfl rfl rfl (by decide +kernel)
set_option maxRecDepth 65536 in
theorem w_c8 : (Jvm.Cond.code ({ cls := "com/example/dilate_query/dilatequery/collection/PostIds", name := "addToTable", desc := "(J)Z" } : Jvm.MethodName) prog_2_method_5_code (5 : Nat) (Option.some Jvm.ClassFile.FieldType.boolean)).before args0 about1 = true := code_word (m := ⟨2, 4⟩) (meth := k2m4) (c := k2c4) (by decide +kernel) rfl rfl rfl (by decide +kernel)
set_option maxRecDepth 65536 in
theorem w_c9 : (Jvm.Cond.code ({ cls := "com/example/dilate_query/dilatequery/collection/PostIds", name := "slotFor", desc := "(J)I" } : Jvm.MethodName) prog_2_method_6_code (5 : Nat) (Option.some Jvm.ClassFile.FieldType.int)).before args0 about1 = true := code_word (m := ⟨2, 5⟩) (meth := k2m5) (c := k2c5) (by decide +kernel) rfl rfl rfl (by decide +kernel)
def codes1 : List Jvm.Cond := [Jvm.Cond.code x code maxLocals ret, Jvm.Cond.code ({ cls := "com/example/dilate_query/dilatequery/collection/PostIdsAddPinLaw", name := "id", desc := "(JII)J" } : Jvm.MethodName) method_2_code (6 : Nat) (Option.some Jvm.ClassFile.FieldType.long), Jvm.Cond.code ({ cls := "com/example/dilate_query/dilatequery/collection/PostIdsAddPinLaw", name := "pick", desc := "(IJJJJJ)J" } : Jvm.MethodName) method_3_code (11 : Nat) (Option.some Jvm.ClassFile.FieldType.long), Jvm.Cond.code ({ cls := "com/example/dilate_query/dilatequery/collection/PostIds", name := "<init>", desc := "()V" } : Jvm.MethodName) prog_2_method_1_code (1 : Nat) (Option.none : Option Jvm.ClassFile.FieldType), Jvm.Cond.code ({ cls := "java/lang/Object", name := "<init>", desc := "()V" } : Jvm.MethodName) object_method_1_code (1 : Nat) (Option.none : Option Jvm.ClassFile.FieldType), Jvm.Cond.code ({ cls := "com/example/dilate_query/dilatequery/collection/PostIds", name := "add", desc := "(J)Z" } : Jvm.MethodName) prog_2_method_2_code (4 : Nat) (Option.some Jvm.ClassFile.FieldType.boolean), Jvm.Cond.code ({ cls := "com/example/dilate_query/dilatequery/collection/PostIds", name := "append", desc := "(J)V" } : Jvm.MethodName) prog_2_method_3_code (4 : Nat) (Option.none : Option Jvm.ClassFile.FieldType), Jvm.Cond.code ({ cls := "com/example/dilate_query/dilatequery/collection/PostIds", name := "inAscendingList", desc := "(J)Z" } : Jvm.MethodName) prog_2_method_4_code (8 : Nat) (Option.some Jvm.ClassFile.FieldType.boolean), Jvm.Cond.code ({ cls := "com/example/dilate_query/dilatequery/collection/PostIds", name := "addToTable", desc := "(J)Z" } : Jvm.MethodName) prog_2_method_5_code (5 : Nat) (Option.some Jvm.ClassFile.FieldType.boolean), Jvm.Cond.code ({ cls := "com/example/dilate_query/dilatequery/collection/PostIds", name := "slotFor", desc := "(J)I" } : Jvm.MethodName) prog_2_method_6_code (5 : Nat) (Option.some Jvm.ClassFile.FieldType.int)]
set_option maxRecDepth 65536 in
theorem codes_eq : words1.filter isCode = codes1 := rfl
theorem w_codes : ∀ c ∈ words1.filter isCode, c.before args0 about1 = true := by
  rw [codes_eq]
  intro c hc
  simp only [codes1, List.mem_cons, List.not_mem_nil, or_false] at hc
  rcases hc with rfl | rfl | rfl | rfl | rfl | rfl | rfl | rfl | rfl | rfl
  · exact w_c0
  · exact w_c1
  · exact w_c2
  · exact w_c3
  · exact w_c4
  · exact w_c5
  · exact w_c6
  · exact w_c7
  · exact w_c8
  · exact w_c9
set_option maxRecDepth 65536 in
theorem w_t1 : (words1.take 24).all (fun c => isCode c || c.before args0 about1) = true := by decide +kernel
set_option maxRecDepth 65536 in
theorem w_t2 : ((words1.drop 24).take 24).all (fun c => isCode c || c.before args0 about1) = true := by decide +kernel
set_option maxRecDepth 65536 in
theorem w_t3 : ((words1.drop 24).drop 24).all (fun c => isCode c || c.before args0 about1) = true := by decide +kernel
theorem w_tables : (allAtoms (Jvm.Cond.code x code maxLocals ret :: tables_1)).before args0 about1 = true := by
  rw [allAtoms_all]
  show words1.all (fun c => c.before args0 about1) = true
  refine all_split ?_ w_codes
  rw [← List.take_append_drop 24 words1, List.all_append, w_t1, ← List.take_append_drop 24 (words1.drop 24), List.all_append, w_t2, w_t3]
  rfl
set_option maxRecDepth 65536 in
theorem w_case : (Jvm.Cond.and given_1 narrow_1).before args0 about1 = true := by decide +kernel
theorem w_applies : (headSpec (Jvm.Cond.code x code maxLocals ret :: tables_1) room_1).applies x e0.platform about1 = true :=
  (Spec.applies_iff w_frames).mpr ⟨w_running, w_runnable, w_alone, w_named, w_hears, w_ripe, w_room, w_tables⟩
theorem atStart : AtStart classFile x code maxLocals ret World_1 tables_1 room_1 Calls_1 rest_1 Pre_1 launch0 p0 e0 about1 theMethod args0 below0 :=
  ⟨lists_1, trivial, launch0.admits_env _ _ _, launch0.least_env, fairChoices_fair.cas, fairChoices_fair.clock, w_frames, w_args, w_heap, w_applies, trivial, trivial, w_case⟩
end start1
theorem witness_1 : WitnessClaimed_1 := ⟨start1.p0, start1.e0, start1.about1, start1.theMethod, start1.args0, start1.below0, start1.atStart⟩
end Jvm.Pilot.@@N@@
