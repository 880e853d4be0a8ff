import PyProof.Rows.All
import Wide.All
import OpenK.AllK
import Wide.FinOn
import Lean
import PySem.Challenge.RW_ti0052_01
set_option compiler.extract_closed false
section
open PySem PySem.W PyProof.Rows PySem.Calls PySem.Spec
set_option hygiene false
local macro_rules | `(tactic| wtm_at "mNOLOOP") => `(tactic| ((fail_if_success (with_reducible refine Mine.stop (by constructor) ?_))))
local macro_rules | `(tactic| wtm_at "mRM") => `(tactic| ((first | wtm_at "mR4" | ktr_room)))
local macro_rules | `(tactic| wtm_at "mRU") => `(tactic| ((first | wtm_at "mR4" | ktr_units)))
local macro_rules | `(tactic| wtm_at "mSTEQ") => `(tactic| (first | (with_reducible refine Mine.tk_gen ?_; intro tk0) | ((fail_if_success (with_reducible refine Mine.isK KK ?_)); (fail_if_success (fail_if_success (with_reducible refine Mine.foc (by constructor) ?_))); refine Mine.focus_let ?_; intro KK) | (k_unfold; (try dsimp only)) | (walk1; (try ((fail_if_success (with_reducible refine Mine.gSl ?_)); dsimp only))) | (dsimp only; walk1) | (leave1; try dsimp only)))
local macro_rules | `(tactic| wtm_at "mQ") => `(tactic| (repeat' (wtm_at "mNOLOOP"; wtm_at "mSTEQ")))
local macro_rules | `(tactic| wtm_at "mQX") => `(tactic| (repeat' ((fail_if_success (with_reducible refine Mine.stopX (by constructor) ?_)); wtm_at "mNOLOOP"; wtm_at "mSTEQ")))
local macro_rules | `(tactic| wtm_at "mIN") => `(tactic| (unfold Mine.Claim; k_fill; intro dp un gd cn cs a' ccd cl outer A₀ base h₀ L m s Q E hB hF hX hN hT hk hd hu hret; refine wpAny_call ?_; wtm_at "mENTER"))
local macro_rules | `(tactic| wtm_at "mEC") => `(tactic| (((iterate 5 k_asm); exact rfl; exact rfl; (first | exact rfl | assumption); k_is; k_is; wtm_at "mRM"; (first | exact BindsTo.of_eq rfl | exact binds_K (by k_in) rfl (by k_is) rfl rfl rfl))))
local macro_rules | `(tactic| wtm_at "mENTER") => `(tactic| ((first | (focus apply code_def; wtm_at "mEC"; exact locs rfl; rotate_left; rfl; rfl; rfl; decide; k_whole; intro g' L' h' FG' F' N' B' X' T') | (focus apply code_defC; wtm_at "mEC"; rfl; (decide +kernel); rotate_left; rfl; rfl; rfl; k_whole; intro g' L' h' tk' cells' FG' F' N' Y' B' X' T' l1; (try k_lt l1); k_cells Y'; (try simp only [List.cons_append, List.nil_append] at N'))); (try dsimp only); (try k_lift B'); (try k_fold); (try (refine Mine.let_av ?_; intro V9 A9)); (try ((with_reducible rename Fr _ _ _ _ => FZ); apply Mine.let_fr FZ; intro mm9 F9; clear FZ))))
set_option hygiene true
section
open PySem PySem.W PyProof.Rows
set_option maxRecDepth 100000
set_option maxHeartbeats 8000000
set_option Elab.async false
section
local macro_rules | `(tactic| o_head $_t) => `(tactic| assumption)
theorem Mine.pb : True := by
  have h : PySem.Challenge.rw_ti0052_01.row.Holds → PySem.Challenge.rw_ti0052_01.row.Holds := by
    intro h9
    k_head
  trivial
end
end
section
namespace Mine
noncomputable def parts : List (List Nat) := [[1, 2, 4, 8, 16], [1, 2, 4, 24, 24], [1, 2, 12, 12, 16], [1, 2, 20, 8, 20], [1, 2, 28, 28, 28], [1, 6, 6, 8, 16], [1, 6, 6, 24, 24], [1, 10, 4, 10, 16], [1, 10, 20, 10, 20], [1, 14, 14, 14, 16], [1, 18, 4, 8, 18], [1, 18, 12, 12, 18], [1, 22, 22, 8, 22], [1, 26, 4, 26, 26], [1, 30, 30, 30, 30], [3, 3, 4, 8, 16], [3, 3, 4, 24, 24], [3, 3, 12, 12, 16], [3, 3, 20, 8, 20], [3, 3, 28, 28, 28], [5, 2, 5, 8, 16], [5, 2, 5, 24, 24], [5, 10, 5, 10, 16], [5, 18, 5, 8, 18], [5, 26, 5, 26, 26], [7, 7, 7, 8, 16], [7, 7, 7, 24, 24], [9, 2, 4, 9, 16], [9, 2, 20, 9, 20], [9, 6, 6, 9, 16], [9, 18, 4, 9, 18], [9, 22, 22, 9, 22], [11, 11, 4, 11, 16], [11, 11, 20, 11, 20], [13, 2, 13, 13, 16], [13, 18, 13, 13, 18], [15, 15, 15, 15, 16], [17, 2, 4, 8, 17], [17, 2, 12, 12, 17], [17, 6, 6, 8, 17], [17, 10, 4, 10, 17], [17, 14, 14, 14, 17], [19, 19, 4, 8, 19], [19, 19, 12, 12, 19], [21, 2, 21, 8, 21], [21, 10, 21, 10, 21], [23, 23, 23, 8, 23], [25, 2, 4, 25, 25], [25, 6, 6, 25, 25], [27, 27, 4, 27, 27], [29, 2, 29, 29, 29], [31, 31, 31, 31, 31]]
noncomputable abbrev mkk (M : List Nat) (k : Nat) : Nat := M.getD k 0
noncomputable def Rel (M : List Nat) (i j : Nat) : Prop := mkk M i = mkk M j
noncomputable def joinM (M : List Nat) (both : Nat) : List Nat := M.map fun x => if both &&& x = x then both else x
noncomputable def ncl (M : List Nat) : Nat := ((List.range 5).filter fun k => (List.range k).all fun j => mkk M j != mkk M k).length
theorem parts_start : [1, 2, 4, 8, 16] ∈ parts := by decide +kernel
theorem parts_bits : ∀ M ∈ parts, M.length = 5 ∧ ∀ k : Fin 5, mkk M k < 32 ∧ 0 < mkk M k ∧ ∀ j : Fin 5, (mkk M k).testBit j = (mkk M j == mkk M k) := by decide +kernel
theorem parts_join : ∀ M ∈ parts, ∀ i j : Fin 5, mkk M i ≠ mkk M j → joinM M (mkk M i ||| mkk M j) ∈ parts ∧ ncl (joinM M (mkk M i ||| mkk M j)) + 1 = ncl M ∧
    ∀ k : Fin 5, mkk (joinM M (mkk M i ||| mkk M j)) k = if mkk M k = mkk M i ∨ mkk M k = mkk M j then mkk M i ||| mkk M j else mkk M k := by decide +kernel
theorem parts_ne : ∀ M ∈ parts, ∀ i j : Fin 5, mkk M i ≠ mkk M j → ∀ k : Fin 5, mkk M k ≠ mkk M i → mkk M k ≠ mkk M j → mkk M k ≠ (mkk M i ||| mkk M j) := by decide +kernel
theorem ncl_pos : ∀ M ∈ parts, 1 ≤ ncl M ∧ ncl M ≤ 5 := by decide +kernel
theorem ncl_start : ncl [1, 2, 4, 8, 16] = 5 := by decide +kernel
noncomputable abbrev Fact := Nat × Nat × Nat
structure Good (fs : List Fact) (pr : Nat × Nat) (E : Nat → Nat → Prop) : Prop where
  eqv : Equivalence E
  pair : E pr.1 pr.2
  clo : ∀ f ∈ fs, ∀ g ∈ fs, E f.1 g.1 → E f.2.1 g.2.1 → E f.2.2 g.2.2
theorem Rel.eqv (M : List Nat) : Equivalence (Rel M) := ⟨fun _ => rfl, fun h => h.symm, fun h g => h.trans g⟩
noncomputable def like (M : List Nat) (f g : Fact) : Bool := mkk M f.1 == mkk M g.1 && mkk M f.2.1 == mkk M g.2.1
noncomputable def at4 (fs : List Fact) (t : Nat) : Fact := fs.getD t (0, 0, 0)
noncomputable def firstOf (M : List Nat) (fs : List Fact) (t : Nat) : Nat := ((List.range t).find? fun s => like M (at4 fs s) (at4 fs t)).getD t
noncomputable def pushOne (M : List Nat) (fs : List Fact) (t : Nat) : List (Nat × Nat) :=
  if mkk M (at4 fs (firstOf M fs t)).2.2 = mkk M (at4 fs t).2.2 then [] else [((at4 fs (firstOf M fs t)).2.2, (at4 fs t).2.2)]
noncomputable def pushes (M : List Nat) (fs : List Fact) : List (Nat × Nat) := (List.range fs.length).flatMap (pushOne M fs)
theorem like_iff {M : List Nat} {f g : Fact} : like M f g = true ↔ Rel M f.1 g.1 ∧ Rel M f.2.1 g.2.1 := by
  unfold like Rel
  rw [Bool.and_eq_true, beq_iff_eq, beq_iff_eq]
theorem firstOf_le (M : List Nat) (fs : List Fact) (t : Nat) : firstOf M fs t ≤ t := by
  unfold firstOf
  cases h : (List.range t).find? fun s => like M (at4 fs s) (at4 fs t) with
  | none => exact Nat.le_refl _
  | some s => exact Nat.le_of_lt (List.mem_range.mp (List.mem_of_find?_eq_some h))
theorem firstOf_like (M : List Nat) (fs : List Fact) (t : Nat) : like M (at4 fs (firstOf M fs t)) (at4 fs t) = true := by
  unfold firstOf
  cases h : (List.range t).find? fun s => like M (at4 fs s) (at4 fs t) with
  | none => exact like_iff.mpr ⟨rfl, rfl⟩
  | some s =>
    have := List.find?_some h
    exact this
theorem firstOf_min (M : List Nat) (fs : List Fact) (t s : Nat) (h : like M (at4 fs s) (at4 fs t) = true) : firstOf M fs t ≤ s := by
  by_cases hs : s < t
  · unfold firstOf
    cases h2 : (List.range t).find? fun s => like M (at4 fs s) (at4 fs t) with
    | none => exact absurd h (List.find?_eq_none.mp h2 s (List.mem_range.mpr hs))
    | some u =>
      show u ≤ s
      refine Nat.le_of_not_lt fun hlt => ?_
      have h3 := (List.find?_eq_some_iff_getElem.mp h2).2
      obtain ⟨i, hi, e, hall⟩ := h3
      rw [List.getElem_range] at e
      subst e
      have := hall s hlt
      rw [List.getElem_range] at this
      rw [h] at this
      exact absurd this (by decide)
  · exact Nat.le_trans (firstOf_le M fs t) (Nat.le_of_not_lt hs)
theorem firstOf_same (M : List Nat) (fs : List Fact) (t s : Nat) (h : like M (at4 fs s) (at4 fs t) = true) : firstOf M fs s = firstOf M fs t := by
  have h' := like_iff.mp h
  have a := like_iff.mp (firstOf_like M fs t)
  have b := like_iff.mp (firstOf_like M fs s)
  refine Nat.le_antisymm (firstOf_min M fs s _ (like_iff.mpr ⟨a.1.trans h'.1.symm, a.2.trans h'.2.symm⟩)) (firstOf_min M fs t _ (like_iff.mpr ⟨b.1.trans h'.1, b.2.trans h'.2⟩))
theorem at4_mem {fs : List Fact} {t : Nat} (h : t < fs.length) : at4 fs t ∈ fs := by
  unfold at4
  rw [List.getD_eq_getElem?_getD, List.getElem?_eq_getElem h]
  exact List.getElem_mem h
theorem mem_at4 {fs : List Fact} {f : Fact} (h : f ∈ fs) : ∃ t, t < fs.length ∧ at4 fs t = f := by
  obtain ⟨t, ht, e⟩ := List.getElem_of_mem h
  refine ⟨t, ht, ?_⟩
  unfold at4
  rw [List.getD_eq_getElem?_getD, List.getElem?_eq_getElem ht]
  exact e
theorem push_lt {fs : List Fact} (hf : ∀ f ∈ fs, f.2.2 < 5) (M : List Nat) : ∀ q ∈ pushes M fs, q.1 < 5 ∧ q.2 < 5 := by
  intro q hq
  obtain ⟨t, ht, hq⟩ := List.mem_flatMap.mp hq
  have ht := List.mem_range.mp ht
  unfold pushOne at hq
  split at hq
  · exact absurd hq (List.not_mem_nil)
  · rw [List.mem_singleton.mp hq]
    exact ⟨hf _ (at4_mem (Nat.lt_of_le_of_lt (firstOf_le ..) ht)), hf _ (at4_mem ht)⟩
theorem push_sound {fs : List Fact} {pr : Nat × Nat} {M : List Nat} {E : Nat → Nat → Prop} (G : Good fs pr E) (hlt : ∀ f ∈ fs, f.1 < 5 ∧ f.2.1 < 5 ∧ f.2.2 < 5) (hM : ∀ i j, i < 5 → j < 5 → Rel M i j → E i j) : ∀ q ∈ pushes M fs, E q.1 q.2 := by
  intro q hq
  obtain ⟨t, ht, hq⟩ := List.mem_flatMap.mp hq
  have ht := List.mem_range.mp ht
  have hs := Nat.lt_of_le_of_lt (firstOf_le M fs t) ht
  have a := like_iff.mp (firstOf_like M fs t)
  unfold pushOne at hq
  split at hq
  · exact absurd hq (List.not_mem_nil)
  · rw [List.mem_singleton.mp hq]
    exact G.clo _ (at4_mem hs) _ (at4_mem ht) (hM _ _ (hlt _ (at4_mem hs)).1 (hlt _ (at4_mem ht)).1 a.1) (hM _ _ (hlt _ (at4_mem hs)).2.1 (hlt _ (at4_mem ht)).2.1 a.2)
theorem push_first {fs : List Fact} {M : List Nat} {E : Nat → Nat → Prop} (hlt : ∀ f ∈ fs, f.1 < 5 ∧ f.2.1 < 5 ∧ f.2.2 < 5) (hM : ∀ i j, i < 5 → j < 5 → Rel M i j → E i j) (hp : ∀ q ∈ pushes M fs, E q.1 q.2) {t : Nat} (ht : t < fs.length) :
    E (at4 fs (firstOf M fs t)).2.2 (at4 fs t).2.2 := by
  have hs := Nat.lt_of_le_of_lt (firstOf_le M fs t) ht
  by_cases h : mkk M (at4 fs (firstOf M fs t)).2.2 = mkk M (at4 fs t).2.2
  · exact hM _ _ (hlt _ (at4_mem hs)).2.2 (hlt _ (at4_mem ht)).2.2 h
  · refine hp ((at4 fs (firstOf M fs t)).2.2, (at4 fs t).2.2) (List.mem_flatMap.mpr ⟨t, List.mem_range.mpr ht, ?_⟩)
    unfold pushOne
    rw [if_neg h]
    exact List.mem_singleton.mpr rfl
theorem push_complete {fs : List Fact} {M : List Nat} {E : Nat → Nat → Prop} (Q : Equivalence E) (hlt : ∀ f ∈ fs, f.1 < 5 ∧ f.2.1 < 5 ∧ f.2.2 < 5) (hM : ∀ i j, i < 5 → j < 5 → Rel M i j → E i j) (hp : ∀ q ∈ pushes M fs, E q.1 q.2) :
    ∀ f ∈ fs, ∀ g ∈ fs, Rel M f.1 g.1 → Rel M f.2.1 g.2.1 → E f.2.2 g.2.2 := by
  intro f hf g hg h1 h2
  obtain ⟨s, hs, rfl⟩ := mem_at4 hf
  obtain ⟨t, ht, rfl⟩ := mem_at4 hg
  have e := firstOf_same M fs t s (like_iff.mpr ⟨h1, h2⟩)
  have a := push_first hlt hM hp hs
  have b := push_first hlt hM hp ht
  rw [e] at a
  exact Q.trans (Q.symm a) b
theorem pushOne_len (M : List Nat) (fs : List Fact) (t : Nat) : (pushOne M fs t).length ≤ 1 := by
  unfold pushOne; split <;> simp
theorem pushOne_zero (M : List Nat) (fs : List Fact) : pushOne M fs 0 = [] := by
  unfold pushOne
  have e : firstOf M fs 0 = 0 := Nat.le_zero.mp (firstOf_le M fs 0)
  rw [e, if_pos rfl]
theorem pushes_len {M : List Nat} {fs : List Fact} (h : fs.length = 4) : (pushes M fs).length ≤ 3 := by
  have e : pushes M fs = pushOne M fs 0 ++ pushOne M fs 1 ++ pushOne M fs 2 ++ pushOne M fs 3 := by
    unfold pushes; rw [h]; simp [List.range_succ]
  rw [e, pushOne_zero]
  have h1 := pushOne_len M fs 1
  have h2 := pushOne_len M fs 2
  have h3 := pushOne_len M fs 3
  simp only [List.length_append, List.length_nil]
  lia
structure Inv (fs : List Fact) (pr : Nat × Nat) (M : List Nat) (pend : List (Nat × Nat)) : Prop where
  part : M ∈ parts
  lt : ∀ q ∈ pend, q.1 < 5 ∧ q.2 < 5
  snd : ∀ E, Good fs pr E → (∀ i j, i < 5 → j < 5 → Rel M i j → E i j) ∧ ∀ q ∈ pend, E q.1 q.2
  cpl : ∀ E, Equivalence E → (∀ i j, i < 5 → j < 5 → Rel M i j → E i j) → (∀ q ∈ pend, E q.1 q.2) → E pr.1 pr.2 ∧ ∀ f ∈ fs, ∀ g ∈ fs, Rel M f.1 g.1 → Rel M f.2.1 g.2.1 → E f.2.2 g.2.2
noncomputable abbrev Small (fs : List Fact) : Prop := ∀ f ∈ fs, f.1 < 5 ∧ f.2.1 < 5 ∧ f.2.2 < 5
theorem start_inj : ∀ i j : Fin 5, mkk [1, 2, 4, 8, 16] i = mkk [1, 2, 4, 8, 16] j → i = j := by decide +kernel
theorem Inv.start {fs : List Fact} {pr : Nat × Nat} (hs : Small fs) (hp : pr.1 < 5 ∧ pr.2 < 5) : Inv fs pr [1, 2, 4, 8, 16] (pr :: pushes [1, 2, 4, 8, 16] fs) where
  part := parts_start
  lt := fun q hq => by
    rcases List.mem_cons.mp hq with rfl | hq
    · exact hp
    · exact push_lt (fun f hf => (hs f hf).2.2) _ q hq
  snd := fun E G => by
    have a : ∀ i j, i < 5 → j < 5 → Rel [1, 2, 4, 8, 16] i j → E i j := fun i j hi hj h => by
      have := start_inj ⟨i, hi⟩ ⟨j, hj⟩ h
      have : i = j := congrArg Fin.val this
      subst this
      exact G.eqv.refl _
    refine ⟨a, fun q hq => ?_⟩
    rcases List.mem_cons.mp hq with rfl | hq
    · exact G.pair
    · exact push_sound G hs a q hq
  cpl := fun E Q hM hq => ⟨hq pr (List.mem_cons_self ..), push_complete Q hs hM fun q h => hq q (List.mem_cons_of_mem _ h)⟩
theorem Inv.skip {fs : List Fact} {pr q : Nat × Nat} {M : List Nat} {pend : List (Nat × Nat)} (I : Inv fs pr M (q :: pend)) (h : Rel M q.1 q.2) : Inv fs pr M pend where
  part := I.part
  lt := fun x hx => I.lt x (List.mem_cons_of_mem _ hx)
  snd := fun E G => ⟨(I.snd E G).1, fun x hx => (I.snd E G).2 x (List.mem_cons_of_mem _ hx)⟩
  cpl := fun E Q hM hq => I.cpl E Q hM fun x hx => by
    rcases List.mem_cons.mp hx with rfl | hx
    · exact hM _ _ (I.lt _ (List.mem_cons_self ..)).1 (I.lt _ (List.mem_cons_self ..)).2 h
    · exact hq x hx
theorem join_rel {M : List Nat} (hp : M ∈ parts) {i j k l : Nat} (hi : i < 5) (hj : j < 5) (hk : k < 5) (hl : l < 5) (h : ¬ Rel M i j) :
    Rel (joinM M (mkk M i ||| mkk M j)) k l ↔ Rel M k l ∨ ((Rel M k i ∨ Rel M k j) ∧ (Rel M l i ∨ Rel M l j)) := by
  have a := (parts_join M hp ⟨i, hi⟩ ⟨j, hj⟩ h).2.2
  have b := parts_ne M hp ⟨i, hi⟩ ⟨j, hj⟩ h
  unfold Rel at h ⊢
  have a1 := a ⟨k, hk⟩
  have a2 := a ⟨l, hl⟩
  have b1 := b ⟨k, hk⟩
  have b2 := b ⟨l, hl⟩
  dsimp only at a1 a2 b1 b2
  rw [a1, a2]
  by_cases hk1 : mkk M k = mkk M i ∨ mkk M k = mkk M j
  · by_cases hl1 : mkk M l = mkk M i ∨ mkk M l = mkk M j
    · rw [if_pos hk1, if_pos hl1]
      exact ⟨fun _ => .inr ⟨hk1, hl1⟩, fun _ => rfl⟩
    · rw [if_pos hk1, if_neg hl1]
      constructor
      · intro e
        exact absurd e.symm (b2 (fun z => hl1 (.inl z)) (fun z => hl1 (.inr z)))
      · rintro (e | ⟨_, e⟩)
        · exact absurd (e ▸ hk1) hl1
        · exact absurd e hl1
  · rw [if_neg hk1]
    by_cases hl1 : mkk M l = mkk M i ∨ mkk M l = mkk M j
    · rw [if_pos hl1]
      constructor
      · intro e
        exact absurd e (b1 (fun z => hk1 (.inl z)) (fun z => hk1 (.inr z)))
      · rintro (e | ⟨e, _⟩)
        · exact absurd (e ▸ hl1) hk1
        · exact absurd e hk1
    · rw [if_neg hl1]
      constructor
      · exact .inl
      · rintro (e | ⟨e, _⟩)
        · exact e
        · exact absurd e hk1
theorem Inv.merge {fs : List Fact} {pr q : Nat × Nat} {M : List Nat} {pend : List (Nat × Nat)} (hs : Small fs) (I : Inv fs pr M (q :: pend)) (h : ¬ Rel M q.1 q.2) :
    Inv fs pr (joinM M (mkk M q.1 ||| mkk M q.2)) (pend ++ pushes (joinM M (mkk M q.1 ||| mkk M q.2)) fs) := by
  have hq := I.lt q (List.mem_cons_self ..)
  have R := fun {k l : Nat} (hk : k < 5) (hl : l < 5) => join_rel I.part hq.1 hq.2 hk hl h
  have P := parts_join M I.part ⟨q.1, hq.1⟩ ⟨q.2, hq.2⟩ h
  refine ⟨P.1, ?_, ?_, ?_⟩
  · intro x hx
    rcases List.mem_append.mp hx with hx | hx
    · exact I.lt x (List.mem_cons_of_mem _ hx)
    · exact push_lt (fun f hf => (hs f hf).2.2) _ x hx
  · intro E G
    obtain ⟨s1, s2⟩ := I.snd E G
    have hqE := s2 q (List.mem_cons_self ..)
    have a : ∀ i j, i < 5 → j < 5 → Rel (joinM M (mkk M q.1 ||| mkk M q.2)) i j → E i j := by
      intro i j hi hj hr
      have toq : ∀ k, k < 5 → (Rel M k q.1 ∨ Rel M k q.2) → E k q.1 := fun k hk hz => by
        rcases hz with z | z
        · exact s1 _ _ hk hq.1 z
        · exact G.eqv.trans (s1 _ _ hk hq.2 z) (G.eqv.symm hqE)
      rcases (R hi hj).mp hr with z | ⟨z1, z2⟩
      · exact s1 _ _ hi hj z
      · exact G.eqv.trans (toq i hi z1) (G.eqv.symm (toq j hj z2))
    refine ⟨a, fun x hx => ?_⟩
    rcases List.mem_append.mp hx with hx | hx
    · exact s2 x (List.mem_cons_of_mem _ hx)
    · exact push_sound G hs a x hx
  · intro E Q hM hx
    have old : ∀ i j, i < 5 → j < 5 → Rel M i j → E i j := fun i j hi hj z => hM i j hi hj ((R hi hj).mpr (.inl z))
    have hqE : E q.1 q.2 := hM _ _ hq.1 hq.2 ((R hq.1 hq.2).mpr (.inr ⟨.inl rfl, .inr rfl⟩))
    refine ⟨(I.cpl E Q old fun x hxx => ?_).1, push_complete Q hs hM fun x hxx => hx x (List.mem_append_right _ hxx)⟩
    rcases List.mem_cons.mp hxx with rfl | hxx
    · exact hqE
    · exact hx x (List.mem_append_left _ hxx)
noncomputable def sameOf (fs : List Fact) (pr : Nat × Nat) (l : List Nat) : List (Nat × Nat) :=
  pr :: fs.flatMap fun f => (fs.filter fun g => mkk l f.1 == mkk l g.1 && mkk l f.2.1 == mkk l g.2.1).map fun g => (f.2.2, g.2.2)
noncomputable def labStep (l : List Nat) (q : Nat × Nat) : List Nat := l.map fun x => if x = mkk l q.2 then mkk l q.1 else x
noncomputable def labRound (fs : List Fact) (pr : Nat × Nat) (l : List Nat) : List Nat := (sameOf fs pr l).foldl labStep l
noncomputable def labGo (fs : List Fact) (pr : Nat × Nat) : Nat → List Nat → List Nat
  | 0, l => l
  | n + 1, l => labGo fs pr n (labRound fs pr l)
noncomputable def labels (fs : List Fact) (pr : Nat × Nat) : List Nat := labGo fs pr 4 [0, 1, 2, 3, 4]
structure LabOk (l : List Nat) : Prop where
  len : l.length = 5
  lt : ∀ k, k < 5 → mkk l k < 5
  idem : ∀ k, k < 5 → mkk l (mkk l k) = mkk l k
noncomputable def nrep (l : List Nat) : Nat := ((List.range 5).filter fun k => mkk l k == k).length
theorem labs_start : LabOk [0, 1, 2, 3, 4] := by
  have a : ∀ k : Fin 5, mkk [0, 1, 2, 3, 4] k = k := by decide +kernel
  have a : ∀ k, k < 5 → mkk [0, 1, 2, 3, 4] k = k := fun k h => a ⟨k, h⟩
  exact ⟨rfl, fun k h => by rw [a k h]; exact h, fun k h => by rw [a k h, a k h]⟩
theorem labStep_at {l : List Nat} (h : LabOk l) {q : Nat × Nat} {k : Nat} (hk : k < 5) : mkk (labStep l q) k = if mkk l k = mkk l q.2 then mkk l q.1 else mkk l k := by
  have hk' : k < l.length := by rw [h.len]; exact hk
  have e : mkk l k = l[k] := by show l.getD k 0 = _; rw [List.getD_eq_getElem?_getD, List.getElem?_eq_getElem hk']; rfl
  rw [e]
  show (List.map _ l).getD k 0 = _
  rw [List.getD_eq_getElem?_getD, List.getElem?_map, List.getElem?_eq_getElem hk']
  rfl
theorem labStep_ok {l : List Nat} (h : LabOk l) {q : Nat × Nat} (h1 : q.1 < 5) (h2 : q.2 < 5) : LabOk (labStep l q) := by
  refine ⟨by unfold labStep; rw [List.length_map]; exact h.len, fun k hk => ?_, fun k hk => ?_⟩
  · rw [labStep_at h hk]; split
    · exact h.lt _ h1
    · exact h.lt _ hk
  · rw [labStep_at h hk]
    by_cases e : mkk l k = mkk l q.2
    · rw [if_pos e, labStep_at h (h.lt _ h1), h.idem _ h1]
      split <;> rfl
    · rw [if_neg e, labStep_at h (h.lt _ hk), h.idem _ hk, if_neg e]
theorem labStep_same {l : List Nat} {q : Nat × Nat} (e : mkk l q.1 = mkk l q.2) : labStep l q = l := by
  unfold labStep
  rw [e]
  have : (fun x => if x = mkk l q.2 then mkk l q.2 else x) = id := by
    funext x
    by_cases h : x = mkk l q.2
    · rw [if_pos h]; exact h.symm
    · rw [if_neg h]; rfl
  rw [this, List.map_id]
theorem labStep_less {l : List Nat} (h : LabOk l) {q : Nat × Nat} (h1 : q.1 < 5) (h2 : q.2 < 5) (e : mkk l q.1 ≠ mkk l q.2) : nrep (labStep l q) + 1 ≤ nrep l := by
  have a : (List.range 5).filter (fun k => mkk (labStep l q) k == k) = ((List.range 5).filter fun k => mkk l k == k).filter fun k => k != mkk l q.2 := by
    rw [List.filter_filter]
    refine List.filter_congr fun k hk => ?_
    have hk := List.mem_range.mp hk
    rw [Bool.eq_iff_iff, Bool.and_eq_true, beq_iff_eq, beq_iff_eq, bne_iff_ne, labStep_at h hk]
    by_cases z : mkk l k = mkk l q.2
    · rw [if_pos z]
      constructor
      · intro y
        exfalso
        have := h.idem _ h1
        rw [y] at this
        exact e (y.trans (this.symm.trans z))
      · rintro ⟨y1, y2⟩
        exact absurd (y2.symm.trans z) y1
    · rw [if_neg z]
      exact ⟨fun y => ⟨fun x => z (by rw [y]; exact x), y⟩, fun y => y.2⟩
  unfold nrep
  rw [a]
  refine List.length_filter_lt_length_iff_exists.mpr ⟨mkk l q.2, List.mem_filter.mpr ⟨List.mem_range.mpr (h.lt _ h2), ?_⟩, ?_⟩
  · rw [beq_iff_eq]; exact h.idem _ h2
  · simp
theorem one_all {l : List Nat} (h : LabOk l) (hn : nrep l ≤ 1) {i j : Nat} (hi : i < 5) (hj : j < 5) : mkk l i = mkk l j := by
  have mem : ∀ k, k < 5 → mkk l k ∈ (List.range 5).filter fun k => mkk l k == k := fun k hk => List.mem_filter.mpr ⟨List.mem_range.mpr (h.lt _ hk), by rw [beq_iff_eq]; exact h.idem _ hk⟩
  have a := mem i hi
  have b := mem j hj
  unfold nrep at hn
  revert a b hn
  generalize (List.range 5).filter _ = r
  match r with
  | [] => intro _ a; exact absurd a (List.not_mem_nil)
  | [x] => intro _ a b; exact (List.mem_singleton.mp a).trans (List.mem_singleton.mp b).symm
  | _ :: _ :: _ => intro hn; simp at hn
theorem labStep_rel {l : List Nat} (h : LabOk l) {q : Nat × Nat} {k m : Nat} (hk : k < 5) (hm : m < 5) :
    Rel (labStep l q) k m ↔ Rel l k m ∨ ((Rel l k q.1 ∨ Rel l k q.2) ∧ (Rel l m q.1 ∨ Rel l m q.2)) := by
  unfold Rel
  rw [labStep_at h hk, labStep_at h hm]
  generalize mkk l k = a
  generalize mkk l m = b
  generalize mkk l q.1 = c
  generalize mkk l q.2 = d
  by_cases h1 : a = d
  · subst h1
    rw [if_pos rfl]
    by_cases h2 : b = a
    · subst h2; rw [if_pos rfl]; exact ⟨fun _ => .inl rfl, fun _ => rfl⟩
    · rw [if_neg h2]
      constructor
      · intro e; exact .inr ⟨.inr rfl, .inl e.symm⟩
      · rintro (e | ⟨_, e | e⟩)
        · exact absurd e.symm h2
        · exact e.symm
        · exact absurd e h2
  · rw [if_neg h1]
    by_cases h2 : b = d
    · subst h2; rw [if_pos rfl]
      constructor
      · intro e; exact .inr ⟨.inl e, .inr rfl⟩
      · rintro (e | ⟨e | e, _⟩)
        · exact absurd e h1
        · exact e
        · exact absurd e h1
    · rw [if_neg h2]
      constructor
      · exact .inl
      · rintro (e | ⟨e1 | e1, e2 | e2⟩)
        · exact e
        · exact e1.trans e2.symm
        · exact absurd e2 h2
        · exact absurd e1 h1
        · exact absurd e1 h1
structure Fold (l l' : List Nat) (ps : List (Nat × Nat)) : Prop where
  mem : LabOk l'
  prs : ∀ q ∈ ps, Rel l' q.1 q.2
  sub : ∀ i j, i < 5 → j < 5 → Rel l i j → Rel l' i j
  snd : ∀ E : Nat → Nat → Prop, Equivalence E → (∀ i j, i < 5 → j < 5 → Rel l i j → E i j) → (∀ q ∈ ps, E q.1 q.2) → ∀ i j, i < 5 → j < 5 → Rel l' i j → E i j
  cnt : l' = l ∨ nrep l' + 1 ≤ nrep l
theorem fold_lab : ∀ (ps : List (Nat × Nat)) (l : List Nat), LabOk l → (∀ q ∈ ps, q.1 < 5 ∧ q.2 < 5) → Fold l (ps.foldl labStep l) ps
  | [], l, h, _ => ⟨h, (fun _ hq => nomatch hq), (fun _ _ _ _ e => e), (fun _ _ a _ => a), .inl rfl⟩
  | q :: ps, l, h, hq => by
    have q5 := hq q (List.mem_cons_self ..)
    have R := fun {k m : Nat} (hk : k < 5) (hm : m < 5) => labStep_rel (q := q) h hk hm
    have F := fold_lab ps (labStep l q) (labStep_ok h q5.1 q5.2) fun x hx => hq x (List.mem_cons_of_mem _ hx)
    refine ⟨F.mem, ?_, ?_, ?_, ?_⟩
    · intro x hx
      rcases List.mem_cons.mp hx with rfl | hx
      · exact F.sub _ _ q5.1 q5.2 ((R q5.1 q5.2).mpr (.inr ⟨.inl rfl, .inr rfl⟩))
      · exact F.prs x hx
    · intro i j hi hj e
      exact F.sub i j hi hj ((R hi hj).mpr (.inl e))
    · intro E Q hl hp
      refine F.snd E Q (fun i j hi hj e => ?_) fun x hx => hp x (List.mem_cons_of_mem _ hx)
      have hqE := hp q (List.mem_cons_self ..)
      have toq : ∀ k, k < 5 → (Rel l k q.1 ∨ Rel l k q.2) → E k q.1 := fun k hk hz => by
        rcases hz with z | z
        · exact hl _ _ hk q5.1 z
        · exact Q.trans (hl _ _ hk q5.2 z) (Q.symm hqE)
      rcases (R hi hj).mp e with z | ⟨z1, z2⟩
      · exact hl _ _ hi hj z
      · exact Q.trans (toq i hi z1) (Q.symm (toq j hj z2))
    · by_cases e : mkk l q.1 = mkk l q.2
      · have e2 : labStep l q = l := labStep_same e
        have := F.cnt
        rw [e2] at this
        rw [List.foldl_cons, e2]
        exact this
      · have e2 := labStep_less h q5.1 q5.2 e
        rcases F.cnt with z | z
        · right; rw [List.foldl_cons, z]; lia
        · right; rw [List.foldl_cons]; lia
theorem same_lt {fs : List Fact} {pr : Nat × Nat} (hs : Small fs) (hp : pr.1 < 5 ∧ pr.2 < 5) (l : List Nat) : ∀ q ∈ sameOf fs pr l, q.1 < 5 ∧ q.2 < 5 := by
  intro q hq
  unfold sameOf at hq
  rcases List.mem_cons.mp hq with rfl | hq
  · exact hp
  · obtain ⟨f, hf, hq⟩ := List.mem_flatMap.mp hq
    obtain ⟨g, hg, rfl⟩ := List.mem_map.mp hq
    exact ⟨(hs f hf).2.2, (hs g (List.mem_filter.mp hg).1).2.2⟩
theorem same_good {fs : List Fact} {pr : Nat × Nat} {E : Nat → Nat → Prop} (G : Good fs pr E) (hs : Small fs) {l : List Nat} (hl : ∀ i j, i < 5 → j < 5 → Rel l i j → E i j) : ∀ q ∈ sameOf fs pr l, E q.1 q.2 := by
  intro q hq
  unfold sameOf at hq
  rcases List.mem_cons.mp hq with rfl | hq
  · exact G.pair
  · obtain ⟨f, hf, hq⟩ := List.mem_flatMap.mp hq
    obtain ⟨g, hg, rfl⟩ := List.mem_map.mp hq
    obtain ⟨hg, hk⟩ := List.mem_filter.mp hg
    rw [Bool.and_eq_true, beq_iff_eq, beq_iff_eq] at hk
    exact G.clo f hf g hg (hl _ _ (hs f hf).1 (hs g hg).1 hk.1) (hl _ _ (hs f hf).2.1 (hs g hg).2.1 hk.2)
theorem fix_good {fs : List Fact} {pr : Nat × Nat} {l : List Nat} (h : ∀ q ∈ sameOf fs pr l, Rel l q.1 q.2) : Good fs pr (Rel l) where
  eqv := Rel.eqv l
  pair := h pr (List.mem_cons_self ..)
  clo := fun f hf g hg h1 h2 => h (f.2.2, g.2.2) (List.mem_cons_of_mem _ (List.mem_flatMap.mpr ⟨f, hf, List.mem_map.mpr ⟨g, List.mem_filter.mpr ⟨hg, by
    rw [Bool.and_eq_true, beq_iff_eq, beq_iff_eq]; exact ⟨h1, h2⟩⟩, rfl⟩⟩))
structure LabR (fs : List Fact) (pr : Nat × Nat) (n : Nat) (l r : List Nat) : Prop where
  mem : LabOk r
  snd : ∀ E, Good fs pr E → (∀ i j, i < 5 → j < 5 → Rel l i j → E i j) → ∀ i j, i < 5 → j < 5 → Rel r i j → E i j
  cnt : labRound fs pr r = r ∨ nrep r + n ≤ nrep l
theorem labGo_fix {fs : List Fact} {pr : Nat × Nat} {l : List Nat} (h : labRound fs pr l = l) : ∀ n, labGo fs pr n l = l
  | 0 => rfl
  | n + 1 => by rw [labGo, h]; exact labGo_fix h n
theorem lab_go {fs : List Fact} {pr : Nat × Nat} (hs : Small fs) (hp : pr.1 < 5 ∧ pr.2 < 5) : ∀ (n : Nat) (l : List Nat), LabOk l → LabR fs pr n l (labGo fs pr n l)
  | 0, l, h => ⟨h, (fun _ _ a => a), .inr (Nat.le_refl _)⟩
  | n + 1, l, h => by
    have F := fold_lab (sameOf fs pr l) l h (same_lt hs hp l)
    have R := lab_go hs hp n (labRound fs pr l) F.mem
    refine ⟨R.mem, fun E G hl => R.snd E G (F.snd E G.eqv hl (same_good G hs hl)), ?_⟩
    rcases F.cnt with z | z
    · have z : labRound fs pr l = l := z
      have e : labGo fs pr (n + 1) l = l := labGo_fix z (n + 1)
      left; rw [e]; exact z
    · rcases R.cnt with y | y
      · exact .inl y
      · right
        have z : nrep (labRound fs pr l) + 1 ≤ nrep l := z
        show nrep (labGo fs pr n (labRound fs pr l)) + (n + 1) ≤ nrep l
        lia
theorem rel_start : ∀ i j, i < 5 → j < 5 → Rel [0, 1, 2, 3, 4] i j → i = j := by
  have : ∀ i j : Fin 5, mkk [0, 1, 2, 3, 4] i = mkk [0, 1, 2, 3, 4] j → i = j := by decide +kernel
  intro i j hi hj h
  exact congrArg Fin.val (this ⟨i, hi⟩ ⟨j, hj⟩ h)
theorem labels_mem {fs : List Fact} {pr : Nat × Nat} (hs : Small fs) (hp : pr.1 < 5 ∧ pr.2 < 5) : LabOk (labels fs pr) := (lab_go hs hp 4 _ labs_start).mem
theorem labels_good {fs : List Fact} {pr : Nat × Nat} (hs : Small fs) (hp : pr.1 < 5 ∧ pr.2 < 5) : Good fs pr (Rel (labels fs pr)) := by
  have R := lab_go hs hp 4 _ labs_start
  rcases R.cnt with z | z
  · refine fix_good fun q hq => ?_
    have F := fold_lab (sameOf fs pr (labels fs pr)) _ R.mem (same_lt hs hp _)
    have := F.prs q hq
    have e : (sameOf fs pr (labels fs pr)).foldl labStep (labels fs pr) = labels fs pr := z
    exact e ▸ this
  · have s5 : nrep [0, 1, 2, 3, 4] = 5 := by decide +kernel
    refine fix_good fun q hq => ?_
    have q5 := same_lt hs hp _ q hq
    exact one_all R.mem (by lia) q5.1 q5.2
theorem final_rel {fs : List Fact} {pr : Nat × Nat} {M : List Nat} (hs : Small fs) (hp : pr.1 < 5 ∧ pr.2 < 5) (I : Inv fs pr M []) {i j : Nat} (hi : i < 5) (hj : j < 5) : Rel M i j ↔ Rel (labels fs pr) i j := by
  constructor
  · exact (I.snd _ (labels_good hs hp)).1 i j hi hj
  · have C := I.cpl (Rel M) (Rel.eqv M) (fun _ _ _ _ h => h) (fun _ h => nomatch h)
    refine (lab_go hs hp 4 _ labs_start).snd (Rel M) ⟨Rel.eqv M, C.1, C.2⟩ (fun i j hi hj h => ?_) i j hi hj
    rw [rel_start i j hi hj h]
    rfl
theorem ncl_rel {l l' : List Nat} (h : ∀ i j, i < 5 → j < 5 → (Rel l i j ↔ Rel l' i j)) : ncl l = ncl l' := by
  unfold ncl
  congr 1
  refine List.filter_congr fun k hk => ?_
  have hk := List.mem_range.mp hk
  rw [Bool.eq_iff_iff, List.all_eq_true, List.all_eq_true]
  refine forall_congr' fun j => forall_congr' fun hj => ?_
  have hj := Nat.lt_trans (List.mem_range.mp hj) hk
  have := h j k hj hk
  unfold Rel at this
  rw [bne_iff_ne, bne_iff_ne]
  exact not_congr this
noncomputable def groupOf (l : List Nat) (k : Nat) : List Nat := (List.range 5).filter fun j => mkk l j == mkk l k
theorem group_rel {l l' : List Nat} (h : ∀ i j, i < 5 → j < 5 → (Rel l i j ↔ Rel l' i j)) {k : Nat} (hk : k < 5) : groupOf l k = groupOf l' k := by
  unfold groupOf
  refine List.filter_congr fun j hj => ?_
  have hj := List.mem_range.mp hj
  rw [Bool.eq_iff_iff, beq_iff_eq, beq_iff_eq]
  exact h j k hj hk
theorem group_sum : ∀ M ∈ parts, ∀ k : Fin 5, ((groupOf M k).map (2 ^ ·)).sum = mkk M k := by decide +kernel
noncomputable def bitsOf (m : Nat) : List Nat := (List.range 5).filter fun j => m.testBit j
theorem group_bits : ∀ M ∈ parts, ∀ k : Fin 5, groupOf M k = bitsOf (mkk M k) := by decide +kernel
end Mine
end
section
namespace Mine
noncomputable def isWs (c : Nat) : Bool := c == 10 || c == 9 || c == 13 || c == 32
noncomputable def tokQ : List Nat → List Nat → List Nat × List Nat
  | acc, [] => (acc, [])
  | acc, c :: cs => if c = 34 then (acc, cs) else if c = 92 then (match cs with
    | [] => (acc, [])
    | d :: cs' => tokQ (acc ++ [d]) cs') else tokQ (acc ++ [c]) cs
noncomputable def tokP : List Nat → List Nat → List Nat × List Nat
  | acc, [] => (acc, [])
  | acc, c :: cs => if isWs c = true then (acc, cs) else if c = 92 then (match cs with
    | [] => (acc, [])
    | d :: cs' => tokP (acc ++ [d]) cs') else tokP (acc ++ [c]) cs
noncomputable def tokO : List Nat → List Nat × List Nat
  | [] => ([], [])
  | c :: cs => if isWs c = true then tokO cs else if c = 34 then tokQ [] cs else if c = 92 then (match cs with
    | [] => ([], [])
    | d :: cs' => tokP [d] cs') else tokP [c] cs
theorem tokQ_nil (acc : List Nat) : tokQ acc [] = (acc, []) := by unfold tokQ; rfl
theorem tokP_nil (acc : List Nat) : tokP acc [] = (acc, []) := by unfold tokP; rfl
theorem tokO_nil : tokO [] = ([], []) := by unfold tokO; rfl
theorem tokQ_cons (acc : List Nat) (c : Nat) (cs : List Nat) : tokQ acc (c :: cs) = if c = 34 then (acc, cs) else if c = 92 then (match cs with
    | [] => (acc, [])
    | d :: cs' => tokQ (acc ++ [d]) cs') else tokQ (acc ++ [c]) cs := by cases cs <;> conv => lhs; unfold tokQ
theorem tokP_cons (acc : List Nat) (c : Nat) (cs : List Nat) : tokP acc (c :: cs) = if isWs c = true then (acc, cs) else if c = 92 then (match cs with
    | [] => (acc, [])
    | d :: cs' => tokP (acc ++ [d]) cs') else tokP (acc ++ [c]) cs := by cases cs <;> conv => lhs; unfold tokP
theorem tokO_cons (c : Nat) (cs : List Nat) : tokO (c :: cs) = if isWs c = true then tokO cs else if c = 34 then tokQ [] cs else if c = 92 then (match cs with
    | [] => ([], [])
    | d :: cs' => tokP [d] cs') else tokP [c] cs := by cases cs <;> conv => lhs; unfold tokO
end Mine
end
section
open PySem PySem.W PyProof.Rows PySem.Calls PySem.Spec
namespace Mine
noncomputable abbrev Led := List (Addr × Obj)
noncomputable abbrev PP : Program := PySem.Challenge.rw_ti0052_01.prog
noncomputable abbrev Claim (w : World) (p : Program) (loose : List Str) (mean : ExcName → Option Value) (mg mb : Str → Option Value) (f : Addr) (pos : List Value) (kw : List (Str × Value)) (news : Led) (dN uN : Nat) (Post : Value → Led → Prop) : Prop :=
  ∀ (dp un : Nat) (gd : Option (List Code)) (cn : Str) (cs : Scope) (a : Addr) (ccd : Value) (cl : List (Str × Addr)) (outer : List Env) (A₀ : Around) (base h₀ : Heap) (L : Addr) (m : Str → Option Value) (s : Shared) (Q E : Value → Shared → Prop),
    Below A₀ base outer h₀ → Fr h₀ L s.heap m → Frag.In (Mine.pb.heap_1 w.params) h₀ → News h₀ L s.heap news → Top p loose mean mg mb h₀ → cs.kind = .function →
    dp + dN < recursionLimit → un + uN < cLine →
    (∀ (v : Value) (news' : Led) (h' : Heap) (tk' : Nat), Post v news' → Fr h₀ L h' m → News h₀ L h' news' → Q v { s with heap := h', toks := tk' }) →
    wpAny (model PySem.Challenge.rw_ti0052_01.prog w) (ktrTop dp un gd cn cs L a ccd cl outer) (call (.ref f) pos kw) Q E s
end Mine
end
section
open PySem PySem.W PyProof.Rows PySem.Calls PySem.Spec
set_option Elab.async false
set_option maxRecDepth 100000
namespace Mine
section
variable {prog : Program} {w : World} {A : Around} {E : Value → Shared → Prop} {s : Shared} {env : Env} {h₀ : Heap} {Q : Flow → Shared → Prop} {m : Str → Option Value} {news : Led}

inductive WhileI (h₀ : Heap) (L : Addr) (s : Shared) (J : Nat → (Str → Option Value) → Led → Prop) (n : Nat) (s' : Shared) : Prop
  | mk (m : Str → Option Value) (news : Led) (h : Heap) (tk : Nat) : J n m news → Fr h₀ L h m → News h₀ L h news → s' = { s with heap := h, toks := tk } → WhileI h₀ L s J n s'
theorem while_L {test : Expr} {body orelse : List Stmt} {pos : Pos}
    (F : Fr h₀ env.locals s.heap m) (N : News h₀ env.locals s.heap news)
    (J : Nat → (Str → Option Value) → Led → Prop) (n : Nat) (h0 : J n m news)
    (turn : ∀ (E' : Value → Shared → Prop) n m news h tk, J n m news → Fr h₀ env.locals h m → News h₀ env.locals h news →
      wpAny (model prog w) A (isTrue test env (eval test env)) (fun b s₂ => if b then wpAny (model prog w) A (execs body env) (fun f s₃ => match f with
          | .next | .cont => ∃ k, k < n ∧ WhileI h₀ env.locals s J k s₃
          | .brk => Q .next s₃
          | .ret v => Q (.ret v) s₃) E' s₂ else wpAny (model prog w) A (execs orelse env) (fun f s₃ => Q f s₃) E' s₂) E' { s with heap := h, toks := tk }) :
    wpAny (model prog w) A (exec (.While test body orelse pos) env) Q E s := by
  refine wpAny_While (codeAny_whileLoop (WhileI h₀ env.locals s J) ?_ n ⟨m, news, s.heap, s.toks, h0, F, N, rfl⟩)
  intro n s' hI
  generalize hG : wpAny _ _ _ _ _ _ = G
  obtain ⟨m, news, h, tk, hJ, F, N, rfl⟩ := hI
  subst hG
  refine wpAny_mono (turn _ n m news h tk hJ F N) (fun b s₂ hb => ?_) fun _ _ e => e
  cases b with
  | false => exact hb
  | true =>
    refine wpAny_mono hb (fun f s₃ hf => ?_) fun _ _ e => e
    cases f <;> exact hf

theorem off_of_cls {h₀ h : Heap} {L I : Addr} {it : Obj} {news : Led} (N : News h₀ L h ((I, it) :: news)) (c : ∀ p ∈ news, p.2.cls ≠ it.cls) : ∀ p ∈ news, p.1 ≠ I := fun p hp e => by
  have h1 := (N p (List.mem_cons_of_mem _ hp)).1
  have h2 := (N _ (List.mem_cons_self ..)).1
  rw [e] at h1
  exact c p hp (congrArg Obj.cls (Option.some.inj (h1.symm.trans h2)))

theorem news_at_I {h₀ h h' : Heap} {L I : Addr} {it it' : Obj} {news : Led} (N : News h₀ L h ((I, it) :: news)) (c : ∀ p ∈ news, p.1 ≠ I) (hs : Heap.SameBut I h h') (hit : h'.get? I = some it') : News h₀ L h' ((I, it') :: news) := fun p hp => by
  rcases List.mem_cons.mp hp with rfl | hp
  · exact ⟨hit, (N _ (List.mem_cons_self ..)).2⟩
  · have q := N p (List.mem_cons_of_mem _ hp)
    exact ⟨(hs.2 p.1 (c p hp)).trans q.1, q.2⟩

theorem fr_at_I {h h' : Heap} {L I : Addr} {it : Obj} {news : Led} (F : Fr h₀ L h m) (N : News h₀ L h ((I, it) :: news)) (hs : Heap.SameBut I h h') : Fr h₀ L h' m := by
  have q := N _ (List.mem_cons_self ..)
  refine ⟨F.ns.sameBut hs (Ne.symm q.2.1), fun b o e => ?_, F.above⟩
  have ne : b ≠ I := by rintro rfl; rw [q.2.2] at e; cases e
  exact (hs.2 b ne).trans (F.keep b o e)

theorem fr_ext_I {h h' : Heap} {L I : Addr} {it : Obj} {news : Led} (F : Fr h₀ L h m) (N : News h₀ L h ((I, it) :: news)) (hs : Heap.ExtBut I h h') : Fr h₀ L h' m := by
  have q := N _ (List.mem_cons_self ..)
  refine ⟨F.ns.extBut hs (Ne.symm q.2.1), fun b o e => ?_, F.above⟩
  have ne : b ≠ I := by rintro rfl; rw [q.2.2] at e; cases e
  exact hs b o ne (F.keep b o e)

theorem news_ext_I {h h' : Heap} {L I : Addr} {it : Obj} {news : Led} (N : News h₀ L h ((I, it) :: news)) (c : ∀ p ∈ news, p.1 ≠ I) (hs : Heap.ExtBut I h h') : News h₀ L h' news := fun p hp => by
  have q := N p (List.mem_cons_of_mem _ hp)
  exact ⟨hs p.1 p.2 (c p hp) q.1, q.2⟩

theorem news_more {h₀ h : Heap} {L : Addr} {news : Led} {q : Addr × Obj} (N : News h₀ L h news) (hq : q ∈ news) : News h₀ L h (q :: news) := fun p hp => by
  rcases List.mem_cons.mp hp with rfl | hp
  · exact N _ hq
  · exact N p hp

theorem news_sub {h₀ h : Heap} {L : Addr} {l1 l2 : Led} (N : News h₀ L h l1) (s : ∀ p ∈ l2, p ∈ l1) : News h₀ L h l2 := fun p hp => N p (s p hp)
theorem sub_cons {α : Type} {a : α} {l l1 : List α} (h : a ∈ l1) (s : ∀ p ∈ l, p ∈ l1) : ∀ p ∈ a :: l, p ∈ l1 := fun p hp => by
  rcases List.mem_cons.mp hp with rfl | hp
  · exact h
  · exact s p hp
theorem sub_tail {α : Type} {a : α} {r l : List α} (s : ∀ p ∈ r, p ∈ l) : ∀ p ∈ r, p ∈ a :: l := fun p hp => .tail _ (s p hp)
theorem mem_hd {α : Type} {a : α} {l : List α} : a ∈ a :: l := List.mem_cons_self ..
theorem mem_tl {α : Type} {a b : α} {l : List α} (h : a ∈ l) : a ∈ b :: l := List.mem_cons_of_mem _ h
theorem sub_appR {α : Type} {a r : List α} : ∀ p ∈ r, p ∈ a ++ r := fun _ h => List.mem_append_right _ h
theorem sub_refl {α : Type} {l : List α} : ∀ p ∈ l, p ∈ l := fun _ h => h
theorem sub_nil {α : Type} {l : List α} : ∀ p ∈ ([] : List α), p ∈ l := fun _ h => nomatch h
theorem sub_app {α : Type} {a r l : List α} (h : ∀ p ∈ a, p ∈ l) (s : ∀ p ∈ r, p ∈ l) : ∀ p ∈ a ++ r, p ∈ l := fun p hp => (List.mem_append.mp hp).elim (h p) (s p)
theorem sub_l {α : Type} {a r l : List α} (h : ∀ p ∈ r, p ∈ a) : ∀ p ∈ r, p ∈ a ++ l := fun p hp => List.mem_append_left _ (h p hp)
theorem sub_r {α : Type} {a r l : List α} (h : ∀ p ∈ r, p ∈ l) : ∀ p ∈ r, p ∈ a ++ l := fun p hp => List.mem_append_right _ (h p hp)
theorem mem_l {α : Type} {x : α} {a l : List α} (h : x ∈ a) : x ∈ a ++ l := List.mem_append_left _ h
theorem mem_r {α : Type} {x : α} {a l : List α} (h : x ∈ l) : x ∈ a ++ l := List.mem_append_right _ h
theorem sub_at {α : Type} {x : α} {l1 l2 : List α} (hp : x ∈ l2) (h : ∀ p ∈ l2, p ∈ l1) : x ∈ l1 := h x hp
theorem room0 {R d a : Nat} (h : d + a < R) : d < R := Nat.lt_of_le_of_lt (Nat.le_add_right ..) h
theorem room1 {R d a x : Nat} (h : d + a < R) (hx : x ≤ a) : d + x < R := Nat.lt_of_le_of_lt (Nat.add_le_add_left hx d) h
theorem room2 {R d a x y : Nat} (h : d + a < R) (hx : x + y ≤ a) : d + x + y < R := by rw [Nat.add_assoc]; exact room1 h hx
theorem room3 {R d a x y z : Nat} (h : d + a < R) (hx : x + y + z ≤ a) : d + x + y + z < R := by rw [Nat.add_assoc, Nat.add_assoc]; exact room1 h (by rw [← Nat.add_assoc]; exact hx)
theorem o3_hi {a c kl : Nat} (h : c + 1 < a) (h2 : a < kl) : @Ne Nat a c ∧ @Ne Nat a (c + 1) ∧ @LT.lt Nat _ a kl := ⟨Nat.ne_of_gt (Nat.lt_of_succ_lt h), Nat.ne_of_gt h, h2⟩
theorem o3_lo {a c kl : Nat} (h : a < c) (h2 : c + 1 < kl) : @Ne Nat a c ∧ @Ne Nat a (c + 1) ∧ @LT.lt Nat _ a kl := ⟨Nat.ne_of_lt h, Nat.ne_of_lt (Nat.lt_succ_of_lt h), Nat.lt_trans (Nat.lt_succ_of_lt h) h2⟩
theorem mem_same {α : Type} {a : α} {l : List α} (h : a ∈ l) : a ∈ l := h
theorem owned_none {M : Model} {Q : Unit → Shared → Prop} {target : Expr} {I : Addr} {it : Obj} {v : Value} {n : String} (hI : s.heap.get? I = some it) (hc : it.cls = .type n)
    (hn : ["enumerate", "zip", "dict_itemiterator", "dict_reverseitemiterator", "odict_iterator", "itertools.zip_longest", "itertools.pairwise"].contains n = false) (h : Q () s) : wpAny M A (letOwnedTupleGo target (.ref I) v) Q E s := by
  obtain ⟨c, di, da, sl⟩ := it
  obtain rfl : c = .type n := hc
  have body : wpAny M A (letOwnedTupleGo (.Tuple [] 0 default) (.ref I) v) Q E s := by
    cases v
    case ref a =>
      refine wpAny_bind (wpAny_load hI ?_)
      cases da
      case fields vs =>
        show wpAny M A (if (List.contains _ n && _) = true then _ else _) Q E s
        rw [hn]
        exact wpAny_pure h
      all_goals exact wpAny_pure h
    all_goals exact wpAny_pure h
  cases target
  case Tuple => exact body
  case List => exact body
  all_goals exact wpAny_pure h

theorem assign_tup {env : Env} {elts : List Expr} {x1 : Nat} {pos : Pos} {t : Addr} {items : Array Value} {Q : Unit → Shared → Prop} (F : Fr h₀ env.locals s.heap m) (N : News h₀ env.locals s.heap news) (ht : s.heap.IsTuple t items)
    (hn : (assignEach elts env).length = items.size) (hstar : (assignEach elts env).findIdx? (·.1) = none)
    (h : ∀ h', Fr h₀ env.locals h' m → News h₀ env.locals h' news → wpAny (model prog w) A (assignInOrder ((assignEach elts env).map (·.2)) items.toList) Q E { s with heap := h' })
    (hh : A.handled = none := by rfl) :
    wpAny (model prog w) A (assign (.Tuple elts x1 pos) env (.ref t)) Q E s := by
  refine wpAny_assign_Tuple hh ht hn hstar fun h' he => h h' ?_ ?_
  · refine ⟨F.ns.extBut he (Nat.ne_of_lt F.ns.lt), fun b o e => ?_, F.above⟩
    have := F.keep b o e
    exact he b o (Nat.ne_of_lt (Heap.lt_size this)) this
  · intro p hp
    have q := N p hp
    exact ⟨he p.1 p.2 (Nat.ne_of_lt (Heap.lt_size q.1)) q.1, q.2⟩
end
section
variable {prog : Program} {w : World} {A : Around} {E : Value → Shared → Prop} {s : Shared} {env : Env} {h₀ : Heap} {L : Addr} {m : Str → Option Value} {news src : Led} {x : Value} {n : Nat} {P : Nat → Value → Prop}

noncomputable abbrev notOwner (c : String) : Prop := ["enumerate", "zip", "dict_itemiterator", "dict_reverseitemiterator", "odict_iterator", "itertools.zip_longest", "itertools.pairwise"].contains c = false

noncomputable def SrcAt (prog : Program) (w : World) (A : Around) (s : Shared) (news src : Led) (x : Value) (n : Nat) (P : Nat → Value → Prop) : Prop :=
  (∀ p ∈ src, p ∈ news) ∧ ∀ (Q : Value → Shared → Prop) (E : Value → Shared → Prop), (∀ (o : Obj) (St : Nat → Heap → Prop) (c : String), notOwner c → Walks prog w A s.heap.objs.size (s.heap.objs.size :: src.map (·.1)) [s.heap.objs.size] n P St →
    (∀ i h, St i h → ∃ o, h.get? s.heap.objs.size = some o ∧ o.cls = .type c) → o.isFreed = false → St 0 (s.heap.push o) → Q (.ref s.heap.objs.size) { s with heap := s.heap.push o }) → wpAny (model prog w) A (pyIter x) Q E s

theorem src_list {l : Addr} {lo : Obj} {vs : List Value} {k : Nat} (N : News h₀ L s.heap news) (hl : (l, lo) ∈ news) (hc : lo.cls = .type "list") (hd : lo.data = .seq vs.toArray k) (hh : A.handled = none := by rfl) :
    SrcAt prog w A s news [(l, lo)] (.ref l) vs.length (fun i v => vs[i]? = some v) := by
  refine ⟨fun p hp => by rw [List.mem_singleton.mp hp]; exact hl, fun Q E h => ?_⟩
  have q := N _ hl
  have isl : s.heap.IsList l vs.toArray := ⟨lo, q.1, hc, k, hd⟩
  have hne : l ≠ s.heap.objs.size := Nat.ne_of_lt (Heap.lt_size q.1)
  refine wpAny_pyIter_list isl ?_
  have W := Walks.list (prog := prog) (w := w) hh s.heap.objs.size l hne vs.toArray
  rw [List.size_toArray] at W
  simp only [List.getElem?_toArray] at W
  refine h _ _ "list_iterator" (by decide) W (fun i h st => ?_) rfl ⟨⟨_, Heap.get?_push_size _ rfl, rfl, rfl⟩, isl.at fun o e => Heap.get?_push_of_some _ e⟩
  obtain ⟨o, g, c, _⟩ := st.1
  exact ⟨o, g, c⟩

theorem src_tup {l : Addr} {lo : Obj} {vs : List Value} {k : Nat} (N : News h₀ L s.heap news) (hl : (l, lo) ∈ news) (hc : lo.cls = .type "tuple") (hd : lo.data = .seq vs.toArray k) (hh : A.handled = none := by rfl) :
    SrcAt prog w A s news [(l, lo)] (.ref l) vs.length (fun i v => vs[i]? = some v) := by
  refine ⟨fun p hp => by rw [List.mem_singleton.mp hp]; exact hl, fun Q E h => ?_⟩
  have q := N _ hl
  have isl : s.heap.IsTuple l vs.toArray := ⟨lo, q.1, hc, k, hd⟩
  have hne : l ≠ s.heap.objs.size := Nat.ne_of_lt (Heap.lt_size q.1)
  refine wpAny_pyIter_tuple isl ?_
  have W := Walks.tuple (prog := prog) (w := w) hh s.heap.objs.size l hne vs.toArray
  rw [List.size_toArray] at W
  simp only [List.getElem?_toArray] at W
  refine h _ _ "tuple_iterator" (by decide) W (fun i h st => ?_) rfl ⟨⟨_, Heap.get?_push_size _ rfl, rfl, rfl⟩, ?_⟩
  · obtain ⟨o, g, c, _⟩ := st.1
    exact ⟨o, g, c⟩
  · obtain ⟨o, g, c, nn, d⟩ := isl
    exact ⟨o, Heap.get?_push_of_some _ g, c, nn, d⟩

theorem src_range {r : Addr} {a₀ b₀ : Int} {t₀ u₀ v₀ : Tok} (hr : IsRange s.heap r a₀ b₀ 1 t₀ u₀ v₀) (hsmall : Builtin.Range.small a₀ b₀ 1 = true) (hsz : Builtin.Range.rangeSize a₀ b₀ 1 = (n : Int)) (hh : A.handled = none := by rfl) :
    SrcAt prog w A s news [] (.ref r) n (fun i v => ∃ t, v = .int (a₀ + (i : Int)) t) := by
  refine ⟨fun p hp => (nomatch hp), fun Q E h => ?_⟩
  refine wpAny_pyIter_range hr hsmall ?_
  have W := Walks.range (prog := prog) (w := w) hh s.heap.objs.size a₀ 1 n
  simp only [Int.mul_one] at W
  refine h _ _ "range_iterator" (by decide) W (fun i h st => ⟨_, st, rfl⟩) rfl ?_
  show IsRangeIter _ _ _ _ _
  rw [hsz]
  have e1 : a₀ + ((0 : Nat) : Int) = a₀ := by simp
  have e2 : (n : Int) - ((0 : Nat) : Int) = (n : Int) := by simp
  rw [e1, e2]
  exact Heap.get?_push_size _ rfl

theorem src_str {y : Str} {t : Tok} (hh : A.handled = none := by rfl) :
    SrcAt prog w A s news [] (.str y t) y.cps.size (SignAt y) := by
  refine ⟨fun p hp => (nomatch hp), fun Q E h => ?_⟩
  cases ha : y.cps.all (· < 128)
  · exact wpAny_pyIter_wide ha (h _ _ "str_iterator" (by decide) (Walks.strWide hh _ y t) (fun i h st => by obtain ⟨o, g, c, _⟩ := st; exact ⟨o, g, c⟩) rfl ⟨_, Heap.get?_push_size _ rfl, rfl, rfl⟩)
  · exact wpAny_pyIter_ascii ha (h _ _ "str_ascii_iterator" (by decide) (Walks.strAscii hh _ y t) (fun i h st => by obtain ⟨o, g, c, _⟩ := st; exact ⟨o, g, c⟩) rfl ⟨_, Heap.get?_push_size _ rfl, rfl, rfl⟩)

theorem less_one {n i : Nat} (h : i ≤ n) : n + 1 - (i + 1) < n + 1 - i := Nat.sub_lt_sub_left (Nat.lt_succ_of_le h) (Nat.lt_succ_self i)
theorem news_put {h₀ h : Heap} {L a : Addr} {o : Obj} {led : Led} (g : h.get? a = some o) (r : a ≠ L ∧ h₀.get? a = none) (N : News h₀ L h led) : News h₀ L h ((a, o) :: led) := fun p hp => by
  rcases List.mem_cons.mp hp with rfl | hp
  · exact ⟨g, r⟩
  · exact N p hp
theorem perm3 {a b c : Addr × Obj} {l : Led} : ∀ p ∈ c :: a :: b :: l, p ∈ a :: b :: c :: l := sub_cons (mem_tl (mem_tl mem_hd)) (sub_cons mem_hd (sub_cons (mem_tl mem_hd) (sub_tail (sub_tail (sub_tail sub_refl)))))
theorem perm3' {a b c : Addr × Obj} {l : Led} : ∀ p ∈ a :: b :: c :: l, p ∈ c :: a :: b :: l := sub_cons (mem_tl mem_hd) (sub_cons (mem_tl (mem_tl mem_hd)) (sub_cons mem_hd (sub_tail (sub_tail (sub_tail sub_refl)))))
theorem perm2 {a b : Addr × Obj} {l : Led} : ∀ p ∈ b :: a :: l, p ∈ a :: b :: l := sub_cons (mem_tl mem_hd) (sub_cons mem_hd (sub_tail (sub_tail sub_refl)))
inductive TurnE (h₀ : Heap) (L : Addr) (s : Shared) (src : Led) (I : Addr) (it : Obj) (J : (Str → Option Value) → Led → Prop) (s₃ : Shared) : Prop
  | mk (m' : Str → Option Value) (news' : Led) (h' : Heap) (tk' : Nat) : J m' news' → (∀ p ∈ src, p ∈ news') → Fr h₀ L h' m' → News h₀ L h' ((I, it) :: news') → (∀ p ∈ news', p.1 ≠ I) → s₃ = { s with heap := h', toks := tk' } → TurnE h₀ L s src I it J s₃
inductive ForI (h₀ : Heap) (L : Addr) (s : Shared) (src : Led) (n : Nat) (St : Nat → Heap → Prop) (J : Nat → (Str → Option Value) → Led → Prop) (I : Addr) (k : Nat) (s' : Shared) : Prop
  | mk (it : Obj) (i : Nat) (m : Str → Option Value) (news : Led) (h : Heap) (tk : Nat) : k = n + 1 - i → i ≤ n → St i h → J i m news → (∀ p ∈ src, p ∈ news) → (∀ p ∈ news, p.1 ≠ I) → Fr h₀ L h m → News h₀ L h ((I, it) :: news) → s' = { s with heap := h, toks := tk } → ForI h₀ L s src n St J I k s'

theorem st_kept {h h' : Heap} {St : Nat → Heap → Prop} {i : Nat} {I : Addr} {it : Obj} {news' : Led} (W : Walks prog w A I (I :: src.map (·.1)) [I] n P St) (st : St i h) (hI : h.get? I = some it) (hs : ∀ p ∈ src, h.get? p.1 = some p.2) (N' : News h₀ L h' ((I, it) :: news')) (hsub : ∀ p ∈ src, p ∈ news') : St i h' := by
  refine W.frame i h h' st fun b hb o e => ?_
  rcases List.mem_cons.mp hb with rfl | hb
  · rw [hI] at e; cases e; exact (N' _ (List.mem_cons_self ..)).1
  · obtain ⟨p, hp, rfl⟩ := List.mem_map.mp hb
    rw [hs p hp] at e; cases e
    exact (N' _ (List.mem_cons_of_mem _ (hsub p hp))).1

theorem ext_of {I : Addr} {h h' : Heap} (k : ∀ b o, b ∉ [I] → h.get? b = some o → h'.get? b = some o) : Heap.ExtBut I h h' := fun b o hb e => k b o (by simpa using hb) e

theorem for_L {target : Expr} {body orelse : List Stmt} {Q : Flow → Shared → Prop} (S : SrcAt prog w A s news src x n P)
    (F : Fr h₀ env.locals s.heap m) (N : News h₀ env.locals s.heap news)
    (J : Nat → (Str → Option Value) → Led → Prop) (h0 : J 0 m news)
    (turn : ∀ (E' : Value → Shared → Prop) I it i v m news h tk, i < n → P i v → J i m news → (∀ p ∈ src, p ∈ news) → (∀ p ∈ news, p.1 ≠ I) → Fr h₀ env.locals h m → News h₀ env.locals h ((I, it) :: news) →
      wpAny (model prog w) A (assign target env v) (fun _ s₂ => wpAny (model prog w) A (execs body env) (fun f s₃ => match f with
          | .next | .cont => TurnE h₀ env.locals s src I it (fun m' n' => J (i + 1) m' n') s₃
          | .brk => Q .next s₃
          | .ret v => Q (.ret v) s₃) E' s₂) E' { s with heap := h, toks := tk })
    (done : ∀ (E' : Value → Shared → Prop) m news h tk, J n m news → (∀ p ∈ src, p ∈ news) → Fr h₀ env.locals h m → News h₀ env.locals h news → wpAny (model prog w) A (execs orelse env) (fun f s₃ => Q f s₃) E' { s with heap := h, toks := tk }) :
    wpAny (model prog w) A (pyIter x) (fun it s₂ => codeAny (model prog w) A (.forLoop target it body orelse env) (fun r s' => match r with | .ok f => Q f s' | .error e => cameBackBy (model prog w) A env E e s') s₂) E s := by
  obtain ⟨hsub, S⟩ := S
  refine S _ _ fun o St c hno W hcls hfr st0 => ?_
  refine codeAny_forLoop_any (ForI h₀ env.locals s src n St J s.heap.objs.size) ?_ (n + 1)
    ⟨o, 0, m, news, _, s.toks, rfl, Nat.zero_le _, st0, h0, hsub, fun p hp => Nat.ne_of_lt (Heap.lt_size (N p hp).1), F.push _, N.push F _ hfr, rfl⟩
  intro k s' hI
  generalize hG : wpAny _ _ _ _ _ _ = G
  obtain ⟨it, i, m, news, h, tk, rfl, hi, st, hJ, hsub, hoff, F, N, rfl⟩ := hI
  subst hG
  by_cases hlt : i < n
  · refine W.item i _ _ _ hlt st fun v h' tk' hP st' hk => ?_
    have he := ext_of hk
    obtain ⟨it', g', c'⟩ := hcls _ _ st'
    refine owned_none g' c' hno ?_
    have F' := fr_ext_I F N he
    have N' : News h₀ env.locals h' ((s.heap.objs.size, it') :: news) := news_put g' (N _ mem_hd).2 (news_ext_I N hoff he)
    refine wpAny_mono (turn _ _ it' i v m news h' tk' hlt hP hJ hsub hoff F' N') (fun _ s₂ h₂ => ?_) fun _ _ e => e
    refine wpAny_mono h₂ (fun f s₃ h₃ => ?_) fun _ _ e => e
    have fin : TurnE h₀ env.locals s src s.heap.objs.size it' (fun m' n' => J (i + 1) m' n') s₃ → ∃ mm, mm < n + 1 - i ∧ ForI h₀ env.locals s src n St J s.heap.objs.size mm s₃ := by
      rintro ⟨m', news', h'', tk'', hJ', hsub', F'', N'', hoff', e⟩
      exact ⟨n + 1 - (i + 1), less_one hi, it', i + 1, m', news', h'', tk'', rfl, hlt, st_kept W st' g' (fun p hp => (N' _ (List.mem_cons_of_mem _ (hsub p hp))).1) N'' hsub', hJ', hsub', hoff', F'', N'', e⟩
    cases f with
    | next => exact fin h₃
    | cont => exact fin h₃
    | brk => exact h₃
    | ret v => exact h₃
  · obtain rfl : i = n := Nat.le_antisymm hi (Nat.le_of_not_lt hlt)
    refine W.done _ _ _ st fun h' tk' hk => ?_
    have he := ext_of hk
    exact done _ m news h' tk' hJ hsub (fr_ext_I F N he) (news_ext_I N hoff he)

noncomputable def NsO (o : Obj) (mc : Str → Option Value) : Prop := ∃ es ep, o.data = .dict es ep ∧ StrKeys es ∧ ∀ name, nsFind es name = mc name
theorem NsO.ns {h : Heap} {a : Addr} {o : Obj} {mc : Str → Option Value} (n : NsO o mc) (g : h.get? a = some o) : h.Ns a mc := by
  obtain ⟨es, ep, d, k, f⟩ := n
  exact ⟨o, es, ep, g, d, k, f⟩
theorem nsO_of {h : Heap} {a : Addr} {mc : Str → Option Value} (n : h.Ns a mc) : ∃ o, h.get? a = some o ∧ NsO o mc := by
  obtain ⟨o, es, ep, g, d, k, f⟩ := n
  exact ⟨o, g, es, ep, d, k, f⟩

noncomputable def CompAt (prog : Program) (w : World) (A : Around) (E : Value → Shared → Prop) (env : Env) (e : Expr) (scope : Scope) (cl : List (Str × Addr)) (use : Option (Value → Sem Unit)) (Q : Value → Shared → Prop) (it : Value) (s₂ : Shared) : Prop :=
  wpAny (model prog w) A (newList []) (fun acc s₃ => wpAny (model prog w) A (newFunctionEnv scope env.globals cl [] env.qual none .none (some env)) (fun cenv s₄ =>
    codeAny (model prog w) A (.compStart e 0 it acc { cenv with scope := relabel scope env }) (compPost (model prog w) A E use Q acc cenv.locals) s₄) E s₃) E s₂

theorem comp_open {elt target iter : Expr} {ifs : List Expr} {scope : Scope} {cl : List (Str × Addr)} {pos : Pos} {Q : Value → Shared → Prop}
    (hclos : closureFor scope env = pure cl) (h : wpAny (model prog w) A (eval iter env) (fun x s₁ => wpAny (model prog w) A (pyIter x) (fun it s₂ => CompAt prog w A E env (.ListComp elt [⟨target, iter, ifs, 0⟩] scope pos) scope cl none Q it s₂) E s₁) E s)
    (hkind : scope.kind = .function := by rfl) (hnames : ∀ y ∈ scope.names, y.2 = .local → scope.names.lookup y.1 = some .local := by decide +kernel)
    (hs : ∀ x, foldedSetIterable iter env x = pure x := by intro _; rfl) :
    wpAny (model prog w) A (eval (.ListComp elt [⟨target, iter, ifs, 0⟩] scope pos) env) Q E s := by
  rw [eval_ListComp]
  exact wpAny_comprehension_free (use := none) rfl hs hclos hkind hnames h

theorem comp_assign {elt target iter : Expr} {ifs : List Expr} {scope : Scope} {cl : List (Str × Addr)} {pos spos py : Pos} {y : Str} {Q : Flow → Shared → Prop}
    (hsw : swapsWith (.ListComp elt [⟨target, iter, ifs, 0⟩] scope pos) (some (.Name y py)) spos.line env = pure true)
    (hclos : closureFor scope env = pure cl) (h : wpAny (model prog w) A (eval iter env) (fun x s₁ => wpAny (model prog w) A (pyIter x) (fun it s₂ => CompAt prog w A E env (.ListComp elt [⟨target, iter, ifs, 0⟩] scope pos) scope cl (some (assign (.Name y py) env)) (fun _ s' => Q .next s') it s₂) E s₁) E s)
    (hkind : scope.kind = .function := by rfl) (hnames : ∀ y ∈ scope.names, y.2 = .local → scope.names.lookup y.1 = some .local := by decide +kernel)
    (hs : ∀ x, foldedSetIterable iter env x = pure x := by intro _; rfl) :
    wpAny (model prog w) A (exec (.Assign [.Name y py] (.ListComp elt [⟨target, iter, ifs, 0⟩] scope pos) spos) env) Q E s := by
  rw [exec_Assign_Name_used _ _ _ _ hsw]
  refine wpAny_bind (wpAny_standAt (wpAny_bind ?_))
  show wpAny _ A (do let _ ← comprehension (.ListComp elt [⟨target, iter, ifs, 0⟩] scope pos) scope env _ (newList []) false (eval iter env) (some (assign (.Name y py) env))) _ _ s
  exact wpAny_bind (wpAny_mono (wpAny_comprehension_free (use := some (assign (.Name y py) env)) (Q := fun _ s' => Q .next s') rfl hs hclos hkind hnames h) (fun _ s' hq => wpAny_pure (wpAny_pure hq)) fun _ _ e => e)

theorem codeAny_compLoop_any {R : Result → Shared → Prop} {elt target iter : Expr} {ifs : List Expr} {scope : Scope} {pos : Pos} {it acc : Value} {env : Env} (I : Nat → Shared → Prop)
    (turn : ∀ n s, I n s → wpAny (model prog w) A (pyNext it) (fun r s₁ => match r with
      | none => R (.ok .next) s₁
      | some v => wpAny (model prog w) A (letOwnedTupleGo target it v) (fun _ s₁' => wpAny (model prog w) A (assign target env v) (fun _ s₂ =>
          wpAny (model prog w) A (forIn ifs true fun c r => if r = true then do let ok ← isTrue c env (eval c env); pure (ForInStep.yield ok) else pure (ForInStep.yield r)) (fun ok s₃ =>
            if ok = true then wpAny (model prog w) A (eval elt env) (fun x s₄ =>
              wpAny (model prog w) A (call (.builtin "list.append") [acc, x]) (fun _ s₅ => ∃ m, m < n ∧ I m s₅) (notedBy (model prog w) A env fun e s' => R (.error e) s') s₄) (notedBy (model prog w) A env fun e s' => R (.error e) s') s₃
            else ∃ m, m < n ∧ I m s₃) (notedBy (model prog w) A env fun e s' => R (.error e) s') s₂) (notedBy (model prog w) A env fun e s' => R (.error e) s') s₁') (notedBy (model prog w) A env fun e s' => R (.error e) s') s₁) (notedBy (model prog w) A env fun e s' => R (.error e) s') s)
    (n : Nat) (h : I n s) :
    codeAny (model prog w) A (.compLoop (.ListComp elt [⟨target, iter, ifs, 0⟩] scope pos) 0 it acc env) R s := by
  refine codeAny_loop rfl I (fun n s hI => ?_) n h
  show wpAny _ A ((compTurn (.ListComp elt [⟨target, iter, ifs, 0⟩] scope pos) 0 it acc env).onRaise (fun x => do noteFrame x env; theTreesLotGoes x)) _ _ s
  refine wpAny_noted ?_
  rw [compTurn_list]
  refine wpAny_bind (wpAny_standAt (wpAny_bind (wpAny_mono (turn n s hI) (fun r s₁ h₁ => ?_) fun _ _ h' => h')))
  cases r with
  | none => exact wpAny_pure h₁
  | some v =>
    refine wpAny_bind (wpAny_mono h₁ (fun _ s₁' h₁' => ?_) fun _ _ h' => h')
    refine wpAny_bind (wpAny_mono h₁' (fun _ s₂ h₂ => wpAny_bind (wpAny_mono h₂ (fun ok s₃ h₃ => ?_) fun _ _ h' => h')) fun _ _ h' => h')
    cases ok with
    | false => exact wpAny_pure ⟨rfl, h₃⟩
    | true =>
      exact wpAny_bind (wpAny_bind (wpAny_mono h₃ (fun x s₄ h₄ => wpAny_bind (wpAny_mono h₄ (fun _ s₅ h₅ => wpAny_pure (wpAny_pure ⟨rfl, h₅⟩)) fun _ _ h' => h')) fun _ _ h' => h'))

inductive TurnC (h₀ : Heap) (L : Addr) (m : Str → Option Value) (s : Shared) (src : Led) (I C D : Addr) (it : Obj) (ys : List Value) (yk : Nat) (J : Led → Prop) (s₃ : Shared) : Prop
  | mk (oC : Obj) (mc : Str → Option Value) (news' : Led) (h' : Heap) (tk' : Nat) : J news' → (∀ p ∈ src, p ∈ news') → NsO oC mc → Fr h₀ L h' m → News h₀ L h' ((C, oC) :: (D, listOf ys.toArray yk) :: (I, it) :: news') → (∀ p ∈ news', p.1 ≠ I ∧ p.1 ≠ C ∧ p.1 ≠ D) → s₃ = { s with heap := h', toks := tk' } → TurnC h₀ L m s src I C D it ys yk J s₃
inductive CompI (h₀ : Heap) (L : Addr) (m : Str → Option Value) (s : Shared) (src : Led) (I C D : Addr) (n : Nat) (St : Nat → Heap → Prop) (J : Nat → List Value → Led → Prop) (k : Nat) (s' : Shared) : Prop
  | mk (it oC : Obj) (mc : Str → Option Value) (i : Nat) (ys : List Value) (yk : Nat) (news : Led) (h : Heap) (tk : Nat) : k = n + 1 - i → i ≤ n → St i h → J i ys news → ys.length ≤ i → (∀ p ∈ src, p ∈ news) → (∀ p ∈ news, p.1 ≠ I ∧ p.1 ≠ C ∧ p.1 ≠ D) → NsO oC mc → Fr h₀ L h m → News h₀ L h ((C, oC) :: (D, listOf ys.toArray yk) :: (I, it) :: news) → s' = { s with heap := h, toks := tk } → CompI h₀ L m s src I C D n St J k s'
theorem CompI.out {h₀ : Heap} {L : Addr} {m : Str → Option Value} {s : Shared} {src : Led} {I C D : Addr} {n : Nat} {St : Nat → Heap → Prop} {J : Nat → List Value → Led → Prop} {G : Nat → Shared → Prop}
    (H : ∀ (it oC : Obj) (mc : Str → Option Value) (i : Nat) (ys : List Value) (yk : Nat) (news : Led) (h : Heap) (tk : Nat), i ≤ n → St i h → J i ys news → ys.length ≤ i → (∀ p ∈ src, p ∈ news) → (∀ p ∈ news, p.1 ≠ I ∧ p.1 ≠ C ∧ p.1 ≠ D) → NsO oC mc → Fr h₀ L h m → News h₀ L h ((C, oC) :: (D, listOf ys.toArray yk) :: (I, it) :: news) → G (n + 1 - i) { s with heap := h, toks := tk }) :
    ∀ (k : Nat) (s' : Shared), CompI h₀ L m s src I C D n St J k s' → G k s' := by
  rintro k s' ⟨it, oC, mc, i, ys, yk, news, h, tk, rfl, hi, st, hJ, hyl, hsub, hoff, nC, F, N, rfl⟩
  exact H it oC mc i ys yk news h tk hi st hJ hyl hsub hoff nC F N
theorem TurnC.out {h₀ : Heap} {L : Addr} {m : Str → Option Value} {s : Shared} {src : Led} {I C D : Addr} {it : Obj} {ys : List Value} {yk : Nat} {J : Value → Led → Prop} {G : Value → Shared → Prop}
    (H : ∀ (y : Value) (oC : Obj) (mc : Str → Option Value) (news' : Led) (h' : Heap) (tk' : Nat), J y news' → (∀ p ∈ src, p ∈ news') → NsO oC mc → Fr h₀ L h' m → News h₀ L h' ((C, oC) :: (D, listOf ys.toArray yk) :: (I, it) :: news') → (∀ p ∈ news', p.1 ≠ I ∧ p.1 ≠ C ∧ p.1 ≠ D) → G y { s with heap := h', toks := tk' }) :
    ∀ (y : Value) (s₃ : Shared), TurnC h₀ L m s src I C D it ys yk (J y) s₃ → G y s₃ := by
  rintro y s₃ ⟨oC, mc, news', h', tk', hJ, hsub, nC, F, N, hoff, rfl⟩
  exact H y oC mc news' h' tk' hJ hsub nC F N hoff
theorem comp_fin {i : Nat} {I C D : Addr} {it' : Obj} {ys' : List Value} {yk' : Nat} {h' : Heap} {St : Nat → Heap → Prop} {J : Nat → List Value → Led → Prop} {s₅ : Shared}
    (W : Walks prog w A I (I :: src.map (·.1)) [I] n P St) (hlt : i < n) (st' : St (i + 1) h') (g' : h'.get? I = some it') (hs : ∀ p ∈ src, h'.get? p.1 = some p.2)
    (hl : ys'.length ≤ i + 1) (T : TurnC h₀ L m s src I C D it' ys' yk' (fun n' => J (i + 1) ys' n') s₅) : ∃ mm, mm < n + 1 - i ∧ CompI h₀ L m s src I C D n St J mm s₅ := by
  obtain ⟨oC', mc', news', h'', tk'', hJ', hsub', nC', F'', N'', hoff', e⟩ := T
  exact ⟨n + 1 - (i + 1), less_one (Nat.le_of_lt hlt), it', oC', mc', i + 1, ys', yk', news', h'', tk'', rfl, hlt, st_kept (news' := (C, oC') :: (D, listOf ys'.toArray yk') :: news') W st' g' hs (news_sub N'' perm3) (fun p hp => .tail _ (.tail _ (hsub' p hp))), hJ', hl, hsub', hoff', nC', F'', N'', e⟩

theorem comp_loop {news₁ : Led} {elt target iter : Expr} {ifs : List Expr} {scope : Scope} {cl : List (Str × Addr)} {pos : Pos} {use : Option (Value → Sem Unit)} {Q : Value → Shared → Prop} {I C D : Addr} {o oC : Obj} {mc : Str → Option Value} {c : String} {St : Nat → Heap → Prop} {h₁ : Heap} {tk₁ : Tok}
    (hno : notOwner c) (W : Walks prog w A I (I :: src.map (·.1)) [I] n P St) (hcls : ∀ i h, St i h → ∃ o, h.get? I = some o ∧ o.cls = .type c) (st1 : St 0 h₁) (hID : @LT.lt Nat _ I D) (hDC : @LT.lt Nat _ D C) (hn : n ≤ sizeLine)
    (nC : NsO oC mc) (F4 : Fr h₀ L h₁ m) (N4 : News h₀ L h₁ ((C, oC) :: (D, listOf ([] : List Value).toArray 0) :: (I, o) :: news₁)) (hsub : ∀ p ∈ src, p ∈ news₁) (hoff0 : ∀ p ∈ news₁, p.1 ≠ I ∧ p.1 ≠ C ∧ p.1 ≠ D)
    (J : Nat → List Value → Led → Prop) (h0 : J 0 [] news₁)
    (turn : ∀ (E' : Value → Shared → Prop) it oC mc i v ys yk news h tk, i < n → P i v → J i ys news → ys.length ≤ i → (∀ p ∈ src, p ∈ news) → (∀ p ∈ news, p.1 ≠ I ∧ p.1 ≠ C ∧ p.1 ≠ D) → NsO oC mc → Fr h₀ L h m →
      News h₀ L h ((C, oC) :: (D, listOf ys.toArray yk) :: (I, it) :: news) →
      wpAny (model prog w) A (assign target (compEnvC scope cl C env) v) (fun _ s₂ =>
        wpAny (model prog w) A (forIn ifs true fun c r => if r = true then do let ok ← isTrue c (compEnvC scope cl C env) (eval c (compEnvC scope cl C env)); pure (ForInStep.yield ok) else pure (ForInStep.yield r)) (fun ok s₃ =>
          if ok = true then wpAny (model prog w) A (eval elt (compEnvC scope cl C env)) (fun y s₄ => TurnC h₀ L m s src I C D it ys yk (fun n' => J (i + 1) (ys ++ [y]) n') s₄) E' s₃
          else TurnC h₀ L m s src I C D it ys yk (fun n' => J (i + 1) ys n') s₃) E' s₂) E' { s with heap := h, toks := tk })
    (done : ∀ oC mc ys yk news h tk, J n ys news → ys.length ≤ n → (∀ p ∈ src, p ∈ news) → (∀ p ∈ news, p.1 ≠ C ∧ p.1 ≠ D) → NsO oC mc → Fr h₀ L h m → News h₀ L h ((C, oC) :: (D, listOf ys.toArray yk) :: news) →
      compPost (model prog w) A E use Q (.ref D) C (.ok .next) { s with heap := h, toks := tk }) :
    codeAny (model prog w) A (.compStart (.ListComp elt [⟨target, iter, ifs, 0⟩] scope pos) 0 (.ref I) (.ref D) (compEnvC scope cl C env)) (compPost (model prog w) A E use Q (.ref D) C) { s with heap := h₁, toks := tk₁ } := by
  have hIC : @LT.lt Nat _ I C := Nat.lt_trans hID hDC
  have loop : ∀ s₃ : Shared, s₃ = { s with heap := h₁, toks := tk₁ } →
      codeAny (model prog w) A (.compLoop (.ListComp elt [⟨target, iter, ifs, 0⟩] scope pos) 0 (.ref I) (.ref D) (compEnvC scope cl C env)) (compPost (model prog w) A E use Q (.ref D) C) s₃ := by
    rintro s₃ rfl
    refine codeAny_compLoop_any (CompI h₀ L m s src I C D n St J) ?_ (n + 1)
      ⟨o, oC, _, 0, [], 0, news₁, _, _, rfl, Nat.zero_le _, st1, h0, Nat.le_refl _, hsub, hoff0, nC, F4, N4, rfl⟩
    refine CompI.out ?_
    intro it oC mc i ys yk news h tk hi st hJ hyl hsub hoff nC F N
    have nI : ∀ p ∈ (C, oC) :: (D, listOf ys.toArray yk) :: news, p.1 ≠ I := List.forall_mem_cons.mpr ⟨Nat.ne_of_gt hIC, List.forall_mem_cons.mpr ⟨Nat.ne_of_gt hID, fun p hp => (hoff p hp).1⟩⟩
    have NI : News h₀ L h ((I, it) :: (C, oC) :: (D, listOf ys.toArray yk) :: news) := news_sub N perm3
    by_cases hlt : i < n
    · refine W.item i _ _ _ hlt st fun v h' tk' hP st' hk => ?_
      have he := ext_of hk
      obtain ⟨it', g', c'⟩ := hcls _ _ st'
      refine owned_none g' c' hno ?_
      have F' := fr_ext_I F NI he
      have N1 := news_put g' (NI _ mem_hd).2 (news_ext_I NI nI he)
      have N' : News h₀ L h' ((C, oC) :: (D, listOf ys.toArray yk) :: (I, it') :: news) := news_sub N1 perm3'
      have hs : ∀ p ∈ src, h'.get? p.1 = some p.2 := fun p hp => (N1 _ (.tail _ (.tail _ (.tail _ (hsub p hp))))).1
      clear NI nI N1 he
      refine wpAny_mono (turn _ it' oC mc i v ys yk news h' tk' hlt hP hJ hyl hsub hoff nC F' N') (fun _ s₂ h₂ => ?_) fun _ _ e => e
      refine wpAny_mono h₂ (fun ok s₃ h₃ => ?_) fun _ _ e => e
      cases ok with
      | false => exact comp_fin W hlt st' g' hs (Nat.le_succ_of_le hyl) h₃
      | true =>
        refine wpAny_mono h₃ (TurnC.out (J := fun y n' => J (i + 1) (ys ++ [y]) n') ?_) fun _ _ e => e
        intro y oC' mc' news' h'' tk'' hJ' hsub' nC' F'' N'' hoff'
        have gD := N'' (D, listOf ys.toArray yk) (mem_tl mem_hd)
        refine append_at (hsz := by rw [List.size_toArray]; exact Nat.le_trans (Nat.le_trans hyl (Nat.le_of_lt hlt)) hn) gD.1 fun h5 hs5 gD5 => ?_
        rw [List.push_toArray] at gD5
        refine comp_fin W hlt st' g' hs (ys' := ys ++ [y]) (yk' := yk + 1) (by rw [List.length_append]; exact Nat.succ_le_succ hyl) ⟨oC', mc', news', h5, tk'', hJ', hsub', nC', F''.change hs5 gD.2.1 gD.2.2, ?_, hoff', rfl⟩
        exact news_sub (news_at_I (news_sub N'' perm2) (List.forall_mem_cons.mpr ⟨Nat.ne_of_gt hDC, List.forall_mem_cons.mpr ⟨Nat.ne_of_lt hID, fun p hp => (hoff' p hp).2.2⟩⟩) hs5 gD5) perm2
    · obtain rfl : i = n := Nat.le_antisymm hi (Nat.le_of_not_lt hlt)
      refine W.done _ _ _ st fun h' tk' hk => ?_
      have he := ext_of hk
      exact done oC mc ys yk news h' tk' hJ hyl hsub (fun p hp => (hoff p hp).2) nC (fr_ext_I F NI he) (news_ext_I NI nI he)
  exact codeAny_compStart_list (loop _ rfl) (W.self 0 _ _ _ st1 (loop _ rfl))

theorem comp_at {news₀ : Led} {elt target iter : Expr} {ifs : List Expr} {scope : Scope} {cl : List (Str × Addr)} {pos : Pos} {use : Option (Value → Sem Unit)} {Q : Value → Shared → Prop}
    (S : SrcAt prog w A s news₀ src x n P) (F : Fr h₀ L s.heap m) (N : News h₀ L s.heap news₀) (hn : n ≤ sizeLine)
    (J : Nat → List Value → Led → Prop) (h0 : J 0 [] news₀)
    (turn : ∀ (E' : Value → Shared → Prop) I C D it oC mc i v ys yk news h tk, i < n → P i v → J i ys news → ys.length ≤ i → @LT.lt Nat _ I D → @LT.lt Nat _ D C → (∀ p ∈ news₀, @LT.lt Nat _ p.1 I) → (∀ p ∈ src, p ∈ news) → (∀ p ∈ news, p.1 ≠ I ∧ p.1 ≠ C ∧ p.1 ≠ D) → NsO oC mc → Fr h₀ L h m →
      News h₀ L h ((C, oC) :: (D, listOf ys.toArray yk) :: (I, it) :: news) →
      wpAny (model prog w) A (assign target (compEnvC scope cl C env) v) (fun _ s₂ =>
        wpAny (model prog w) A (forIn ifs true fun c r => if r = true then do let ok ← isTrue c (compEnvC scope cl C env) (eval c (compEnvC scope cl C env)); pure (ForInStep.yield ok) else pure (ForInStep.yield r)) (fun ok s₃ =>
          if ok = true then wpAny (model prog w) A (eval elt (compEnvC scope cl C env)) (fun y s₄ => TurnC h₀ L m s src I C D it ys yk (fun n' => J (i + 1) (ys ++ [y]) n') s₄) E' s₃
          else TurnC h₀ L m s src I C D it ys yk (fun n' => J (i + 1) ys n') s₃) E' s₂) E' { s with heap := h, toks := tk })
    (done : ∀ C D oC mc ys yk news h tk, J n ys news → ys.length ≤ n → (∀ p ∈ src, p ∈ news) → (∀ p ∈ news, p.1 ≠ C ∧ p.1 ≠ D) → D ≠ C → (∀ p ∈ news₀, p.1 < D) → NsO oC mc → Fr h₀ L h m → News h₀ L h ((C, oC) :: (D, listOf ys.toArray yk) :: news) →
      compPost (model prog w) A E use Q (.ref D) C (.ok .next) { s with heap := h, toks := tk })
    (hcell : ∀ x ∈ scope.names, x.2 ≠ .cell := by decide +kernel) (hkind : scope.kind = .function := by rfl) :
    wpAny (model prog w) A (pyIter x) (fun it s₂ => CompAt prog w A E env (.ListComp elt [⟨target, iter, ifs, 0⟩] scope pos) scope cl use Q it s₂) E s := by
  obtain ⟨hsub, S⟩ := S
  have N₀ := N
  refine S _ _ fun o St c hno W hcls hfr st0 => ?_
  unfold CompAt
  have F2 := F.push o
  have N2 := N.push F o hfr
  refine newList_N F2 N2 (fun h' F3 N3 => ?_) (Nat.zero_le _)
  dsimp only at N3 ⊢
  generalize hD : (s.heap.push o).objs.size = D at N3 ⊢
  refine wpAny_newFunctionEnv hcell (by intro y hy; simp at hy) (fun h₁ hns hsb => ?_) hkind
  dsimp only at hns hsb ⊢
  generalize hC : h'.objs.size = C at hns hsb ⊢
  have hlt : ∀ p ∈ (D, ({ cls := .type "list", data := .seq ([] : List Value).toArray } : Obj)) :: (s.heap.objs.size, o) :: news₀, p.1 < C := fun p hp => hC ▸ Heap.lt_size (N3 p hp).1
  obtain ⟨oC, gC, nC⟩ := nsO_of hns
  have kept : ∀ b o', h'.get? b = some o' → h₁.get? b = some o' := fun b o' e => (hsb.2 b (Nat.ne_of_lt (hC ▸ Heap.lt_size e))).trans (Heap.get?_push_of_some _ e)
  have hLC : L < C := hC ▸ F3.ns.lt
  have F4 : Fr h₀ L h₁ m := ⟨F3.ns.at' fun o' e => kept _ o' e, fun b o' e => kept b o' (F3.keep b o' e), F3.above⟩
  have N4 : News h₀ L h₁ ((C, oC) :: (D, listOf ([] : List Value).toArray 0) :: (s.heap.objs.size, o) :: news₀) := fun p hp => by
    rcases List.mem_cons.mp hp with rfl | hp
    · refine ⟨gC, Nat.ne_of_gt hLC, ?_⟩
      cases e : h₀.get? C with
      | none => rfl
      | some o' => exact absurd (Heap.lt_size (F3.keep _ _ e)) (by rw [hC]; exact Nat.lt_irrefl _)
    · have q := N3 p hp
      exact ⟨kept _ _ q.1, q.2⟩
  have hID : s.heap.objs.size < D := by rw [← hD, Heap.size_push]; exact Nat.lt_succ_self _
  have hIC : s.heap.objs.size < C := hlt (s.heap.objs.size, o) (List.mem_cons_of_mem _ (List.mem_cons_self ..))
  have hDC : D < C := hlt (D, _) (List.mem_cons_self ..)
  have st1 : St 0 h₁ := W.frame _ _ _ st0 fun b hb o' e => by
    rcases List.mem_cons.mp hb with rfl | hb
    · have : o = o' := Option.some.inj ((Heap.get?_push_size _ hfr).symm.trans e)
      subst this
      exact (N4 _ (List.mem_cons_of_mem _ (List.mem_cons_of_mem _ (List.mem_cons_self ..)))).1
    · obtain ⟨p, hp, rfl⟩ := List.mem_map.mp hb
      have q := (N _ (hsub p hp)).1
      have : p.2 = o' := Option.some.inj ((Heap.get?_push_of_some _ q).symm.trans e)
      subst this
      exact (N4 p (List.mem_cons_of_mem _ (List.mem_cons_of_mem _ (List.mem_cons_of_mem _ (hsub p hp))))).1
  have hoff0 : ∀ p ∈ news₀, p.1 ≠ s.heap.objs.size ∧ p.1 ≠ C ∧ p.1 ≠ D := fun p hp => by
    have q := Heap.lt_size (N p hp).1
    exact ⟨Nat.ne_of_lt q, Nat.ne_of_lt (Nat.lt_trans q hIC), Nat.ne_of_lt (Nat.lt_trans q hID)⟩
  exact comp_loop hno W hcls st1 hID hDC hn nC F4 N4 hsub hoff0 J h0 (fun E' it oC mc i v ys yk nn h tk hi hv hJ hyl hsub hoff nC F N => turn E' _ C D it oC mc i v ys yk nn h tk hi hv hJ hyl hID hDC (fun p hp => Heap.lt_size (N₀ p hp).1) hsub hoff nC F N)
    fun oC mc ys yk nn h tk hJ hyl hsub hoff nC F N => done C D oC mc ys yk nn h tk hJ hyl hsub hoff (Nat.ne_of_lt hDC) (fun p hp => Nat.lt_trans (Heap.lt_size (N₀ p hp).1) hID) nC F N

noncomputable def NextK (h₀ : Heap) (L : Addr) (s : Shared) (src : Led) (I : Addr) (it : Obj) (K : Flow → Shared → Prop) (J : (Str → Option Value) → Led → Prop) : Prop :=
  ∀ m' news' h' tk', J m' news' → (∀ p ∈ src, p ∈ news') → Fr h₀ L h' m' → News h₀ L h' ((I, it) :: news') → (∀ p ∈ news', p.1 ≠ I) → K .next { s with heap := h', toks := tk' }
noncomputable def YieldK (h₀ : Heap) (L : Addr) (m : Str → Option Value) (s : Shared) (C : Addr) (R add : Led) (Ky : Value → Shared → Prop) (J : List Value → Led → Prop) (ys : List Value) : Prop :=
  ∀ y oC' mc' new h' tk', J (ys ++ [y]) (new ++ add) → NsO oC' mc' → Fr h₀ L h' m → News h₀ L h' (new ++ (C, oC') :: R) → (∀ p ∈ new, @LT.lt Nat _ C p.1) → Ky y { s with heap := h', toks := tk' }
noncomputable def SkipK (h₀ : Heap) (L : Addr) (m : Str → Option Value) (s : Shared) (C : Addr) (R add : Led) (Kn : Shared → Prop) (J : List Value → Led → Prop) (ys : List Value) : Prop :=
  ∀ oC' mc' new h' tk', J ys (new ++ add) → NsO oC' mc' → Fr h₀ L h' m → News h₀ L h' (new ++ (C, oC') :: R) → (∀ p ∈ new, @LT.lt Nat _ C p.1) → Kn { s with heap := h', toks := tk' }
noncomputable def Yield0 (h₀ : Heap) (L : Addr) (m : Str → Option Value) (s : Shared) (C : Addr) (R : Led) (Ky : Value → Shared → Prop) (J : List Value → Prop) (ys : List Value) : Prop :=
  ∀ y oC' mc' h' tk', J (ys ++ [y]) → NsO oC' mc' → Fr h₀ L h' m → News h₀ L h' ((C, oC') :: R) → Ky y { s with heap := h', toks := tk' }
noncomputable def Skip0 (h₀ : Heap) (L : Addr) (m : Str → Option Value) (s : Shared) (C : Addr) (R : Led) (Kn : Shared → Prop) (J : List Value → Prop) (ys : List Value) : Prop :=
  ∀ oC' mc' h' tk', J ys → NsO oC' mc' → Fr h₀ L h' m → News h₀ L h' ((C, oC') :: R) → Kn { s with heap := h', toks := tk' }
noncomputable def YieldG (h₀ : Heap) (L : Addr) (m : Str → Option Value) (s : Shared) (src : Led) (I C D : Addr) (it : Obj) (yk : Nat) (Ky : Value → Shared → Prop) (J : List Value → Led → Prop) (ys : List Value) : Prop :=
  ∀ y oC' mc' news' h' tk', J (ys ++ [y]) news' → (∀ p ∈ src, p ∈ news') → NsO oC' mc' → Fr h₀ L h' m → News h₀ L h' ((C, oC') :: (D, listOf ys.toArray yk) :: (I, it) :: news') → (∀ p ∈ news', p.1 ≠ I ∧ p.1 ≠ C ∧ p.1 ≠ D) → Ky y { s with heap := h', toks := tk' }
noncomputable def SkipG (h₀ : Heap) (L : Addr) (m : Str → Option Value) (s : Shared) (src : Led) (I C D : Addr) (it : Obj) (yk : Nat) (Kn : Shared → Prop) (J : List Value → Led → Prop) (ys : List Value) : Prop :=
  ∀ oC' mc' news' h' tk', J ys news' → (∀ p ∈ src, p ∈ news') → NsO oC' mc' → Fr h₀ L h' m → News h₀ L h' ((C, oC') :: (D, listOf ys.toArray yk) :: (I, it) :: news') → (∀ p ∈ news', p.1 ≠ I ∧ p.1 ≠ C ∧ p.1 ≠ D) → Kn { s with heap := h', toks := tk' }
theorem for_K {hp : Heap} {tk0 : Tok} {target : Expr} {body orelse : List Stmt} {Q : Flow → Shared → Prop} (S : SrcAt prog w A { s with heap := hp, toks := tk0 } news src x n P)
    (F : Fr h₀ env.locals hp m) (N : News h₀ env.locals hp news)
    (J : Nat → (Str → Option Value) → Led → Prop) (h0 : J 0 m news)
    (turn : ∀ (E' : Value → Shared → Prop) (K : Flow → Shared → Prop) I it i v m news h tk, i < n → P i v → (∀ p ∈ src, p ∈ news) → (∀ p ∈ news, p.1 ≠ I) → Fr h₀ env.locals h m → News h₀ env.locals h ((I, it) :: news) →
      NextK h₀ env.locals s src I it K (J (i + 1)) → J i m news →
      wpAny (model prog w) A (assign target env v) (fun _ s₂ => wpAny (model prog w) A (execs body env) K E' s₂) E' { s with heap := h, toks := tk })
    (done : ∀ (E' : Value → Shared → Prop) m news h tk, J n m news → (∀ p ∈ src, p ∈ news) → Fr h₀ env.locals h m → News h₀ env.locals h news → wpAny (model prog w) A (execs orelse env) (fun f s₃ => Q f s₃) E' { s with heap := h, toks := tk }) :
    wpAny (model prog w) A (pyIter x) (fun it s₂ => codeAny (model prog w) A (.forLoop target it body orelse env) (fun r s' => match r with | .ok f => Q f s' | .error e => cameBackBy (model prog w) A env E e s') s₂) E { s with heap := hp, toks := tk0 } :=
  for_L S F N J h0 (fun E' I it i v m news h tk hi hv hJ hsub hoff F N => turn E' _ I it i v m news h tk hi hv hsub hoff F N (fun m' news' h' tk' hJ' hs' F' N' ho' => ⟨m', news', h', tk', hJ', hs', F', N', ho', rfl⟩) hJ) done

theorem for_KX {hp : Heap} {tk0 : Tok} {target : Expr} {body orelse : List Stmt} {Q : Flow → Shared → Prop} (S : SrcAt prog w A { s with heap := hp, toks := tk0 } news src x n P)
    (F : Fr h₀ env.locals hp m) (N : News h₀ env.locals hp news)
    (J : Nat → (Str → Option Value) → Led → Prop) (h0 : J 0 m news)
    (turn : ∀ (E' : Value → Shared → Prop) (K : Flow → Shared → Prop) I it i v m news h tk, i < n → P i v → (∀ p ∈ src, p ∈ news) → (∀ p ∈ news, p.1 ≠ I) → Fr h₀ env.locals h m → News h₀ env.locals h ((I, it) :: news) →
      NextK h₀ env.locals s src I it K (J (i + 1)) →
      (∀ s, K .next s → K .cont s) → (∀ s, Q .next s → K .brk s) → (∀ v s, Q (.ret v) s → K (.ret v) s) → J i m news →
      wpAny (model prog w) A (assign target env v) (fun _ s₂ => wpAny (model prog w) A (execs body env) K E' s₂) E' { s with heap := h, toks := tk })
    (done : ∀ (E' : Value → Shared → Prop) m news h tk, J n m news → (∀ p ∈ src, p ∈ news) → Fr h₀ env.locals h m → News h₀ env.locals h news → wpAny (model prog w) A (execs orelse env) (fun f s₃ => Q f s₃) E' { s with heap := h, toks := tk }) :
    wpAny (model prog w) A (pyIter x) (fun it s₂ => codeAny (model prog w) A (.forLoop target it body orelse env) (fun r s' => match r with | .ok f => Q f s' | .error e => cameBackBy (model prog w) A env E e s') s₂) E { s with heap := hp, toks := tk0 } :=
  for_L S F N J h0 (fun E' I it i v m news h tk hi hv hJ hsub hoff F N => turn E' _ I it i v m news h tk hi hv hsub hoff F N (fun m' news' h' tk' hJ' hs' F' N' ho' => ⟨m', news', h', tk', hJ', hs', F', N', ho', rfl⟩)
    (fun _ h => h) (fun _ h => h) (fun _ _ h => h) hJ) done

theorem for_KR {hp : Heap} {tk0 : Tok} {target : Expr} {body orelse : List Stmt} {Q : Flow → Shared → Prop} (S : SrcAt prog w A { s with heap := hp, toks := tk0 } news src x n P)
    (F : Fr h₀ env.locals hp m) (N : News h₀ env.locals hp news)
    (J : Nat → (Str → Option Value) → Led → Prop) (h0 : J 0 m news)
    (turn : ∀ (E' : Value → Shared → Prop) (K : Flow → Shared → Prop) I it i v m news h tk, i < n → P i v → (∀ p ∈ src, p ∈ news) → (∀ p ∈ news, p.1 ≠ I) → Fr h₀ env.locals h m → News h₀ env.locals h ((I, it) :: news) →
      NextK h₀ env.locals s src I it K (J (i + 1)) →
      (∀ v s, Q (.ret v) s → K (.ret v) s) → J i m news →
      wpAny (model prog w) A (assign target env v) (fun _ s₂ => wpAny (model prog w) A (execs body env) K E' s₂) E' { s with heap := h, toks := tk })
    (done : ∀ (E' : Value → Shared → Prop) m news h tk, J n m news → (∀ p ∈ src, p ∈ news) → Fr h₀ env.locals h m → News h₀ env.locals h news → wpAny (model prog w) A (execs orelse env) (fun f s₃ => Q f s₃) E' { s with heap := h, toks := tk }) :
    wpAny (model prog w) A (pyIter x) (fun it s₂ => codeAny (model prog w) A (.forLoop target it body orelse env) (fun r s' => match r with | .ok f => Q f s' | .error e => cameBackBy (model prog w) A env E e s') s₂) E { s with heap := hp, toks := tk0 } :=
  for_L S F N J h0 (fun E' I it i v m news h tk hi hv hJ hsub hoff F N => turn E' _ I it i v m news h tk hi hv hsub hoff F N (fun m' news' h' tk' hJ' hs' F' N' ho' => ⟨m', news', h', tk', hJ', hs', F', N', ho', rfl⟩) (fun _ _ h => h) hJ) done

theorem for_KB {hp : Heap} {tk0 : Tok} {target : Expr} {body orelse : List Stmt} {Q : Flow → Shared → Prop} (S : SrcAt prog w A { s with heap := hp, toks := tk0 } news src x n P)
    (F : Fr h₀ env.locals hp m) (N : News h₀ env.locals hp news)
    (J : Nat → (Str → Option Value) → Led → Prop) (h0 : J 0 m news)
    (turn : ∀ (E' : Value → Shared → Prop) (K : Flow → Shared → Prop) I it i v m news h tk, i < n → P i v → (∀ p ∈ src, p ∈ news) → (∀ p ∈ news, p.1 ≠ I) → Fr h₀ env.locals h m → News h₀ env.locals h ((I, it) :: news) →
      NextK h₀ env.locals s src I it K (J (i + 1)) →
      (∀ s, Q .next s → K .brk s) → J i m news →
      wpAny (model prog w) A (assign target env v) (fun _ s₂ => wpAny (model prog w) A (execs body env) K E' s₂) E' { s with heap := h, toks := tk })
    (done : ∀ (E' : Value → Shared → Prop) m news h tk, J n m news → (∀ p ∈ src, p ∈ news) → Fr h₀ env.locals h m → News h₀ env.locals h news → wpAny (model prog w) A (execs orelse env) (fun f s₃ => Q f s₃) E' { s with heap := h, toks := tk }) :
    wpAny (model prog w) A (pyIter x) (fun it s₂ => codeAny (model prog w) A (.forLoop target it body orelse env) (fun r s' => match r with | .ok f => Q f s' | .error e => cameBackBy (model prog w) A env E e s') s₂) E { s with heap := hp, toks := tk0 } :=
  for_L S F N J h0 (fun E' I it i v m news h tk hi hv hJ hsub hoff F N => turn E' _ I it i v m news h tk hi hv hsub hoff F N (fun m' news' h' tk' hJ' hs' F' N' ho' => ⟨m', news', h', tk', hJ', hs', F', N', ho', rfl⟩) (fun _ h => h) hJ) done

theorem news_past {C D : Addr} {oC oD : Obj} {h h' : Heap} {led : Led} (N : News h₀ L h ((C, oC) :: (D, oD) :: led)) (hs : Heap.SameBut C h h') (hDC : D ≠ C) (ho : ∀ p ∈ led, p.1 ≠ C) : News h₀ L h' ((D, oD) :: led) := fun p hp => by
  have q := N p (List.mem_cons_of_mem _ hp)
  refine ⟨(hs.2 p.1 ?_).trans q.1, q.2⟩
  rcases List.mem_cons.mp hp with rfl | hp
  · exact hDC
  · exact ho p hp
theorem newEnv_cell {M : Model} {scope : Scope} {cl : List (Str × Addr)} {g : Addr} {q : Str} {y : Str} {Q : Env → Shared → Prop} (hc : ∀ k acc, cellsFrom k scope.names acc = (y, k) :: acc) (hp : ∀ h, pushCells h scope.names = h.push { cls := .type "cell", data := .cell none })
    (h : Q (newEnv scope s.heap.objs.size g ((y, s.heap.objs.size + 1) :: cl) q none .none (some env) builtinsNs) { s with heap := (s.heap.push { cls := .type "dict", data := .dict #[] }).push { cls := .type "cell", data := .cell none } }) :
    wpAny M A (newFunctionEnv scope g cl [] q none .none (some env)) Q E s := by
  simp only [newFunctionEnv, Option.isSome_some, if_true]
  refine wpAny_bind (wpAny_alloc ?_)
  refine wpAny_bind (wpAny_layCells _ (fun name kind cells => by cases hkc : kind == NameKind.cell <;> simp [hkc]) _ _ _ _ ?_)
  rw [hc, hp, show ({ s with heap := s.heap.push { cls := .type "dict", data := .dict #[] } } : Shared).heap.objs.size = s.heap.objs.size + 1 from Heap.size_push ..]
  exact wpAny_pure h
theorem comp_atC {news₀ : Led} {elt target iter : Expr} {ifs : List Expr} {scope : Scope} {cl : List (Str × Addr)} {pos : Pos} {Q : Value → Shared → Prop} {y : Str}
    (S : SrcAt prog w A s news₀ src x n P) (F : Fr h₀ L s.heap m) (N : News h₀ L s.heap news₀) (hn : n ≤ sizeLine)
    (J : Addr → Nat → List Value → Led → Prop) (h0 : ∀ C, (∀ p ∈ news₀, @LT.lt Nat _ p.1 C) → J C 0 [] ((C + 1, { cls := .type "cell", data := .cell none }) :: news₀))
    (turn : ∀ (E' : Value → Shared → Prop) I C D it oC mc i v ys yk news h tk, i < n → P i v → J C i ys news → ys.length ≤ i → @LT.lt Nat _ I D → @LT.lt Nat _ D C → (∀ p ∈ news₀, @LT.lt Nat _ p.1 I) → (∀ p ∈ src, p ∈ news) → (∀ p ∈ news, p.1 ≠ I ∧ p.1 ≠ C ∧ p.1 ≠ D) → NsO oC mc → Fr h₀ L h m →
      News h₀ L h ((C, oC) :: (D, listOf ys.toArray yk) :: (I, it) :: news) →
      wpAny (model prog w) A (assign target (compEnvC scope ((y, C + 1) :: cl) C env) v) (fun _ s₂ =>
        wpAny (model prog w) A (forIn ifs true fun c r => if r = true then do let ok ← isTrue c (compEnvC scope ((y, C + 1) :: cl) C env) (eval c (compEnvC scope ((y, C + 1) :: cl) C env)); pure (ForInStep.yield ok) else pure (ForInStep.yield r)) (fun ok s₃ =>
          if ok = true then wpAny (model prog w) A (eval elt (compEnvC scope ((y, C + 1) :: cl) C env)) (fun z s₄ => TurnC h₀ L m s src I C D it ys yk (fun n' => J C (i + 1) (ys ++ [z]) n') s₄) E' s₃
          else TurnC h₀ L m s src I C D it ys yk (fun n' => J C (i + 1) ys n') s₃) E' s₂) E' { s with heap := h, toks := tk })
    (done : ∀ C D ys yk news h tk, J C n ys news → ys.length ≤ n → (∀ p ∈ src, p ∈ news) → (∀ p ∈ news, p.1 ≠ D) → (∀ p ∈ news₀, p.1 < D) → Fr h₀ L h m → News h₀ L h ((D, listOf ys.toArray yk) :: news) → Q (.ref D) { s with heap := h, toks := tk })
    (hc : ∀ k acc, cellsFrom k scope.names acc = (y, k) :: acc) (hp : ∀ h, pushCells h scope.names = h.push { cls := .type "cell", data := .cell none }) :
    wpAny (model prog w) A (pyIter x) (fun it s₂ => CompAt prog w A E env (.ListComp elt [⟨target, iter, ifs, 0⟩] scope pos) scope cl none Q it s₂) E s := by
  obtain ⟨hsub, S⟩ := S
  have N₀ := N
  refine S _ _ fun o St c hno W hcls hfr st0 => ?_
  unfold CompAt
  have F2 := F.push o
  have N2 := N.push F o hfr
  refine newList_N F2 N2 (fun h' F3 N3 => ?_) (Nat.zero_le _)
  dsimp only at N3 ⊢
  generalize hD : (s.heap.push o).objs.size = D at N3 ⊢
  refine newEnv_cell hc hp ?_
  dsimp only
  generalize hC : h'.objs.size = C
  have hlt : ∀ p ∈ (D, ({ cls := .type "list", data := .seq ([] : List Value).toArray } : Obj)) :: (s.heap.objs.size, o) :: news₀, p.1 < C := fun p hp => hC ▸ Heap.lt_size (N3 p hp).1
  have F4 := (F3.push { cls := .type "dict", data := .dict #[] }).push { cls := .type "cell", data := .cell none }
  have hns := (Heap.Ns.new h' (.type "dict")).keeps fun b o e => Heap.get?_push_of_some { cls := .type "cell", data := .cell none } e
  rw [hC] at hns
  obtain ⟨oC, gC, nC⟩ := nsO_of hns
  have hcs : (h'.push { cls := .type "dict", data := .dict #[] }).objs.size = C + 1 := by rw [Heap.size_push, hC]
  have N5 := N3.push F3 { cls := .type "dict", data := .dict #[] } rfl
  have N6 := N5.push (F3.push _) { cls := .type "cell", data := .cell none } rfl
  rw [hcs, hC] at N6
  have hID : s.heap.objs.size < D := by rw [← hD, Heap.size_push]; exact Nat.lt_succ_self _
  have hDC : D < C := hlt (D, _) (List.mem_cons_self ..)
  have hIC := Nat.lt_trans hID hDC
  have gC2 := N6 (C, { cls := .type "dict", data := .dict #[] }) (List.mem_cons_of_mem _ (List.mem_cons_self ..))
  have N4 : News h₀ L _ ((C, oC) :: (D, listOf ([] : List Value).toArray 0) :: (s.heap.objs.size, o) :: (C + 1, { cls := .type "cell", data := .cell none }) :: news₀) := fun p hp => by
    simp only [List.mem_cons] at hp
    rcases hp with h | h | h | h | h
    · subst h; exact ⟨gC, gC2.2⟩
    · exact N6 p (by simp only [List.mem_cons, h, true_or, or_true])
    · exact N6 p (by simp only [List.mem_cons, h, true_or, or_true])
    · exact N6 p (by simp only [List.mem_cons, h, true_or, or_true])
    · exact N6 p (by simp only [List.mem_cons, h, true_or, or_true])
  have st1 := W.frame _ _ _ st0 fun b hb o' e => by
    rcases List.mem_cons.mp hb with rfl | hb
    · have : o = o' := Option.some.inj ((Heap.get?_push_size _ hfr).symm.trans e)
      subst this
      exact (N4 _ (List.mem_cons_of_mem _ (List.mem_cons_of_mem _ (List.mem_cons_self ..)))).1
    · obtain ⟨p, hp, rfl⟩ := List.mem_map.mp hb
      have q := (N _ (hsub p hp)).1
      have : p.2 = o' := Option.some.inj ((Heap.get?_push_of_some _ q).symm.trans e)
      subst this
      exact (N4 p (List.mem_cons_of_mem _ (List.mem_cons_of_mem _ (List.mem_cons_of_mem _ (List.mem_cons_of_mem _ (hsub p hp)))))).1
  have h0' := h0 C fun p hp => hlt p (List.mem_cons_of_mem _ (List.mem_cons_of_mem _ hp))
  refine comp_loop hno W hcls st1 hID hDC hn nC F4 N4 (fun p hp => List.mem_cons_of_mem _ (hsub p hp)) (fun p hp => ?_) (J C) h0' (fun E' it oC mc i v ys yk nn h tk hi hv hJ hyl hsub hoff nC F N => turn E' _ C D it oC mc i v ys yk nn h tk hi hv hJ hyl hID hDC (fun p hp => Heap.lt_size (N₀ p hp).1) hsub hoff nC F N)
    fun oC mc ys yk nn h tk hJ hyl hsub hoff nC F N => ⟨mc, nC.ns (N _ (List.mem_cons_self ..)).1, fun h' hs => done C D ys yk nn h' tk hJ hyl hsub (fun p hp => (hoff p hp).2) (fun p hp => Nat.lt_trans (Heap.lt_size (N₀ p hp).1) hID) (F.change hs (N _ (List.mem_cons_self ..)).2.1 (N _ (List.mem_cons_self ..)).2.2) (news_past N hs (Nat.ne_of_lt hDC) fun p hp => (hoff p hp).1)⟩
  rcases List.mem_cons.mp hp with rfl | hp
  · exact ⟨Nat.ne_of_gt (Nat.lt_succ_of_lt hIC), Nat.ne_of_gt (Nat.lt_succ_self C), Nat.ne_of_gt (Nat.lt_succ_of_lt hDC)⟩
  · have q := Heap.lt_size (N₀ p hp).1
    exact ⟨Nat.ne_of_lt q, Nat.ne_of_lt (Nat.lt_trans q hIC), Nat.ne_of_lt (Nat.lt_trans q hID)⟩

theorem comp_atK {hp : Heap} {tk0 : Tok} {news₀ : Led} {elt target iter : Expr} {ifs : List Expr} {scope : Scope} {cl : List (Str × Addr)} {pos : Pos} {use : Option (Value → Sem Unit)} {Q : Value → Shared → Prop}
    (S : SrcAt prog w A { s with heap := hp, toks := tk0 } news₀ src x n P) (F : Fr h₀ L hp m) (N : News h₀ L hp news₀) (hn : n ≤ sizeLine)
    (J : Nat → List Value → Led → Prop) (h0 : J 0 [] [])
    (turn : ∀ (E' : Value → Shared → Prop) (Ky : Value → Shared → Prop) (Kn : Shared → Prop) C R oC mc i v ys add h tk, i < n → P i v → ys.length ≤ i → (∀ p ∈ news₀, @LT.lt Nat _ p.1 C) → (∀ p ∈ news₀, p ∈ R) → (∀ p ∈ add, p ∈ R) → (∀ p ∈ R, p.1 ≠ C) → NsO oC mc → Fr h₀ L h m →
      News h₀ L h ((C, oC) :: R) →
      YieldK h₀ L m s C R add Ky (J (i + 1)) ys →
      SkipK h₀ L m s C R add Kn (J (i + 1)) ys → J i ys add →
      wpAny (model prog w) A (assign target (compEnvC scope cl C env) v) (fun _ s₂ =>
        wpAny (model prog w) A (forIn ifs true fun c r => if r = true then do let ok ← isTrue c (compEnvC scope cl C env) (eval c (compEnvC scope cl C env)); pure (ForInStep.yield ok) else pure (ForInStep.yield r)) (fun ok s₃ =>
          if ok = true then wpAny (model prog w) A (eval elt (compEnvC scope cl C env)) Ky E' s₃ else Kn s₃) E' s₂) E' { s with heap := h, toks := tk })
    (done : ∀ C D oC mc ys yk add h tk, J n ys add → ys.length ≤ n → (∀ p ∈ add ++ news₀, p.1 ≠ C ∧ p.1 ≠ D) → D ≠ C → (∀ p ∈ add, ∀ q ∈ news₀, @LT.lt Nat _ q.1 p.1) → (∀ p ∈ news₀, @LT.lt Nat _ p.1 D) → NsO oC mc → Fr h₀ L h m → News h₀ L h ((C, oC) :: (D, listOf ys.toArray yk) :: (add ++ news₀)) →
      compPost (model prog w) A E use Q (.ref D) C (.ok .next) { s with heap := h, toks := tk })
    (hcell : ∀ x ∈ scope.names, x.2 ≠ .cell := by decide +kernel) (hkind : scope.kind = .function := by rfl) :
    wpAny (model prog w) A (pyIter x) (fun it s₂ => CompAt prog w A E env (.ListComp elt [⟨target, iter, ifs, 0⟩] scope pos) scope cl use Q it s₂) E { s with heap := hp, toks := tk0 } := by
  have key : ∀ {I C D : Addr} {it oC : Obj} {ys : List Value} {yk : Nat} {add new : Led}, ∀ p ∈ ((C, oC) :: (D, listOf ys.toArray yk) :: (I, it) :: ((new ++ add) ++ news₀) : Led), p ∈ (new ++ (C, oC) :: (D, listOf ys.toArray yk) :: (I, it) :: (add ++ news₀) : Led) := by
    intro I C D it oC ys yk add new p hp
    simp only [List.mem_append, List.mem_cons] at hp ⊢
    rcases hp with h | h | h | (h | h) | h <;> simp only [h, true_or, or_true]
  have off : ∀ {I C D : Addr} {add new : Led}, @LT.lt Nat _ I D → @LT.lt Nat _ D C → (∀ p ∈ new, @LT.lt Nat _ C p.1) → (∀ p ∈ add ++ news₀, p.1 ≠ I ∧ p.1 ≠ C ∧ p.1 ≠ D) → ∀ p ∈ (new ++ add) ++ news₀, p.1 ≠ I ∧ p.1 ≠ C ∧ p.1 ≠ D := by
    intro I C D add new h1 h2 hf ho p hp
    rw [List.append_assoc] at hp
    rcases List.mem_append.mp hp with hp | hp
    · have := hf p hp
      exact ⟨Nat.ne_of_gt (Nat.lt_trans h1 (Nat.lt_trans h2 this)), Nat.ne_of_gt this, Nat.ne_of_gt (Nat.lt_trans h2 this)⟩
    · exact ho p hp
  have fre : ∀ {C : Addr} {add new : Led}, (∀ p ∈ news₀, @LT.lt Nat _ p.1 C) → (∀ p ∈ new, @LT.lt Nat _ C p.1) → (∀ p ∈ add, ∀ q ∈ news₀, @LT.lt Nat _ q.1 p.1) → ∀ p ∈ new ++ add, ∀ q ∈ news₀, @LT.lt Nat _ q.1 p.1 := by
    intro C add new h1 h2 h3 p hp q hq
    rcases List.mem_append.mp hp with hp | hp
    · exact Nat.lt_trans (h1 q hq) (h2 p hp)
    · exact h3 p hp q hq
  refine comp_at (Q := Q) (use := use) S F N hn (fun i ys nn => ∃ add, nn = add ++ news₀ ∧ (∀ p ∈ add, ∀ q ∈ news₀, @LT.lt Nat _ q.1 p.1) ∧ J i ys add) ⟨[], rfl, fun p hp => (nomatch hp), h0⟩ ?_ ?_ hcell hkind
  · intro E' I C D it oC mc i v ys yk nn h tk hi hv hI hyl hID hDC hlt hsub hoff nC F1 N1
    generalize hG : wpAny _ _ _ _ _ _ = G
    obtain ⟨add, rfl, hfr, hJ⟩ := hI
    subst hG
    have hlC : ∀ p ∈ news₀, @LT.lt Nat _ p.1 C := fun p hp => Nat.lt_trans (hlt p hp) (Nat.lt_trans hID hDC)
    refine turn E' _ _ C ((D, listOf ys.toArray yk) :: (I, it) :: (add ++ news₀)) oC mc i v ys add h tk hi hv hyl hlC (fun p hp => .tail _ (.tail _ (List.mem_append_right _ hp))) (fun p hp => .tail _ (.tail _ (List.mem_append_left _ hp))) ?_ nC F1 N1 ?_ ?_ hJ
    · intro p hp
      rcases List.mem_cons.mp hp with rfl | hp
      · exact Nat.ne_of_lt hDC
      · rcases List.mem_cons.mp hp with rfl | hp
        · exact Nat.ne_of_lt (Nat.lt_trans hID hDC)
        · exact (hoff p hp).2.1
    · intro y oC' mc' new h' tk' hJ' nC' F' N' hf
      exact ⟨oC', mc', _, h', tk', ⟨new ++ add, rfl, fre hlC hf hfr, hJ'⟩, fun p hp => List.mem_append_right _ (S.1 p hp), nC', F', fun p hp => N' p (key p hp), off hID hDC hf hoff, rfl⟩
    · intro oC' mc' new h' tk' hJ' nC' F' N' hf
      exact ⟨oC', mc', _, h', tk', ⟨new ++ add, rfl, fre hlC hf hfr, hJ'⟩, fun p hp => List.mem_append_right _ (S.1 p hp), nC', F', fun p hp => N' p (key p hp), off hID hDC hf hoff, rfl⟩
  · intro C D oC mc ys yk nn h tk hI hyl hsub hoff hDC hlt nC F1 N1
    generalize hG : compPost _ _ _ _ _ _ _ _ _ = G
    obtain ⟨add, rfl, hfr, hJ⟩ := hI
    subst hG
    exact done C D oC mc ys yk add h tk hJ hyl hoff hDC hfr hlt nC F1 N1

theorem comp_K {hp : Heap} {tk0 : Tok} {news₀ : Led} {elt target iter : Expr} {ifs : List Expr} {scope : Scope} {cl : List (Str × Addr)} {pos : Pos} {Q : Value → Shared → Prop}
    (S : SrcAt prog w A { s with heap := hp, toks := tk0 } news₀ src x n P) (F : Fr h₀ L hp m) (N : News h₀ L hp news₀) (hn : n ≤ sizeLine)
    (J : Nat → List Value → Led → Prop) (h0 : J 0 [] [])
    (turn : ∀ (E' : Value → Shared → Prop) (Ky : Value → Shared → Prop) (Kn : Shared → Prop) C R oC mc i v ys add h tk, i < n → P i v → ys.length ≤ i → (∀ p ∈ news₀, @LT.lt Nat _ p.1 C) → (∀ p ∈ news₀, p ∈ R) → (∀ p ∈ add, p ∈ R) → (∀ p ∈ R, p.1 ≠ C) → NsO oC mc → Fr h₀ L h m →
      News h₀ L h ((C, oC) :: R) →
      YieldK h₀ L m s C R add Ky (J (i + 1)) ys →
      SkipK h₀ L m s C R add Kn (J (i + 1)) ys → J i ys add →
      wpAny (model prog w) A (assign target (compEnvC scope cl C env) v) (fun _ s₂ =>
        wpAny (model prog w) A (forIn ifs true fun c r => if r = true then do let ok ← isTrue c (compEnvC scope cl C env) (eval c (compEnvC scope cl C env)); pure (ForInStep.yield ok) else pure (ForInStep.yield r)) (fun ok s₃ =>
          if ok = true then wpAny (model prog w) A (eval elt (compEnvC scope cl C env)) Ky E' s₃ else Kn s₃) E' s₂) E' { s with heap := h, toks := tk })
    (done : ∀ D ys yk add h tk, J n ys add → ys.length ≤ n → (∀ p ∈ add, p.1 ≠ D) → (∀ p ∈ add, ∀ q ∈ news₀, @LT.lt Nat _ q.1 p.1) → (∀ p ∈ news₀, @LT.lt Nat _ p.1 D) → Fr h₀ L h m → News h₀ L h ((D, listOf ys.toArray yk) :: (add ++ news₀)) → Q (.ref D) { s with heap := h, toks := tk })
    (hcell : ∀ x ∈ scope.names, x.2 ≠ .cell := by decide +kernel) (hkind : scope.kind = .function := by rfl) :
    wpAny (model prog w) A (pyIter x) (fun it s₂ => CompAt prog w A E env (.ListComp elt [⟨target, iter, ifs, 0⟩] scope pos) scope cl none Q it s₂) E { s with heap := hp, toks := tk0 } := by
  refine comp_atK (use := none) S F N hn J h0 turn (fun C D oC mc ys yk add h tk hJ hl hoff hDC hfr hlt nC F N => ?_) hcell hkind
  have gC := N _ (List.mem_cons_self ..)
  refine ⟨mc, nC.ns gC.1, fun h' hs => ?_⟩
  exact done D ys yk add h' tk hJ hl (fun p hp => (hoff p (List.mem_append_left _ hp)).2) hfr hlt (F.change hs gC.2.1 gC.2.2) (news_past N hs hDC fun p hp => (hoff p hp).1)

theorem comp_KL {hp : Heap} {tk0 : Tok} {news₀ : Led} {elt target iter : Expr} {ifs : List Expr} {scope : Scope} {cl : List (Str × Addr)} {pos py : Pos} {y : Str} {Q : Shared → Prop}
    (S : SrcAt prog w A { s with heap := hp, toks := tk0 } news₀ src x n P) (F : Fr h₀ env.locals hp m) (N : News h₀ env.locals hp news₀) (hn : n ≤ sizeLine)
    (J : Nat → List Value → Led → Prop) (h0 : J 0 [] [])
    (turn : ∀ (E' : Value → Shared → Prop) (Ky : Value → Shared → Prop) (Kn : Shared → Prop) C R oC mc i v ys add h tk, i < n → P i v → ys.length ≤ i → (∀ p ∈ news₀, @LT.lt Nat _ p.1 C) → (∀ p ∈ news₀, p ∈ R) → (∀ p ∈ add, p ∈ R) → (∀ p ∈ R, p.1 ≠ C) → NsO oC mc → Fr h₀ env.locals h m →
      News h₀ env.locals h ((C, oC) :: R) →
      YieldK h₀ env.locals m s C R add Ky (J (i + 1)) ys →
      SkipK h₀ env.locals m s C R add Kn (J (i + 1)) ys → J i ys add →
      wpAny (model prog w) A (assign target (compEnvC scope cl C env) v) (fun _ s₂ =>
        wpAny (model prog w) A (forIn ifs true fun c r => if r = true then do let ok ← isTrue c (compEnvC scope cl C env) (eval c (compEnvC scope cl C env)); pure (ForInStep.yield ok) else pure (ForInStep.yield r)) (fun ok s₃ =>
          if ok = true then wpAny (model prog w) A (eval elt (compEnvC scope cl C env)) Ky E' s₃ else Kn s₃) E' s₂) E' { s with heap := h, toks := tk })
    (done : ∀ D ys yk add h tk, J n ys add → ys.length ≤ n → (∀ p ∈ add, p.1 ≠ D) → (∀ p ∈ add, ∀ q ∈ news₀, @LT.lt Nat _ q.1 p.1) → (∀ p ∈ news₀, @LT.lt Nat _ p.1 D) → Fr h₀ env.locals h (fun z => if z = y then some (.ref D) else m z) → News h₀ env.locals h ((D, listOf ys.toArray yk) :: (add ++ news₀)) → Q { s with heap := h, toks := tk })
    (hy : env.kindOf y = some .local := by rfl) (hp' : (env.scope.kind == .class || (env.scope.kind == .module && env.locals != env.globals)) = false := by rfl)
    (hcell : ∀ x ∈ scope.names, x.2 ≠ .cell := by decide +kernel) (hkind : scope.kind = .function := by rfl) :
    wpAny (model prog w) A (pyIter x) (fun it s₂ => CompAt prog w A E env (.ListComp elt [⟨target, iter, ifs, 0⟩] scope pos) scope cl (some (assign (.Name y py) env)) (fun _ s' => Q s') it s₂) E { s with heap := hp, toks := tk0 } := by
  refine comp_atK (use := some (assign (.Name y py) env)) S F N hn J h0 turn (fun C D oC mc ys yk add h tk hJ hl hoff hDC hfr hlt nC F N => ?_) hcell hkind
  unfold compPost
  dsimp only
  refine wpAny_assign_Name (wpAny_storeName_local hy F.ns (fun h₂ hn₂ hs₂ => ?_) hp')
  have F' : Fr h₀ env.locals h₂ (fun z => if z = y then some (.ref D) else m z) := F.set hn₂ hs₂
  have N' := N.set hs₂
  have gC := N' _ (List.mem_cons_self ..)
  refine ⟨mc, nC.ns gC.1, fun h3 hs => ?_⟩
  exact done D ys yk add h3 _ hJ hl (fun p hp => (hoff p (List.mem_append_left _ hp)).2) hfr hlt (F'.change hs gC.2.1 gC.2.2) (news_past N' hs hDC fun p hp => (hoff p hp).1)

theorem comp_K0 {hp : Heap} {tk0 : Tok} {news₀ : Led} {elt target iter : Expr} {ifs : List Expr} {scope : Scope} {cl : List (Str × Addr)} {pos : Pos} {Q : Value → Shared → Prop}
    (S : SrcAt prog w A { s with heap := hp, toks := tk0 } news₀ src x n P) (F : Fr h₀ L hp m) (N : News h₀ L hp news₀) (hn : n ≤ sizeLine)
    (J : Nat → List Value → Prop) (h0 : J 0 [])
    (turn : ∀ (E' : Value → Shared → Prop) (Ky : Value → Shared → Prop) (Kn : Shared → Prop) C R oC mc i v ys h tk, i < n → P i v → ys.length ≤ i → (∀ p ∈ news₀, p ∈ R) → (∀ p ∈ R, p.1 ≠ C) → NsO oC mc → Fr h₀ L h m →
      News h₀ L h ((C, oC) :: R) →
      Yield0 h₀ L m s C R Ky (J (i + 1)) ys →
      Skip0 h₀ L m s C R Kn (J (i + 1)) ys → J i ys →
      wpAny (model prog w) A (assign target (compEnvC scope cl C env) v) (fun _ s₂ =>
        wpAny (model prog w) A (forIn ifs true fun c r => if r = true then do let ok ← isTrue c (compEnvC scope cl C env) (eval c (compEnvC scope cl C env)); pure (ForInStep.yield ok) else pure (ForInStep.yield r)) (fun ok s₃ =>
          if ok = true then wpAny (model prog w) A (eval elt (compEnvC scope cl C env)) Ky E' s₃ else Kn s₃) E' s₂) E' { s with heap := h, toks := tk })
    (done : ∀ D ys yk h tk, J n ys → ys.length ≤ n → (∀ p ∈ news₀, @LT.lt Nat _ p.1 D) → Fr h₀ L h m → News h₀ L h ((D, listOf ys.toArray yk) :: news₀) → Q (.ref D) { s with heap := h, toks := tk })
    (hcell : ∀ x ∈ scope.names, x.2 ≠ .cell := by decide +kernel) (hkind : scope.kind = .function := by rfl) :
    wpAny (model prog w) A (pyIter x) (fun it s₂ => CompAt prog w A E env (.ListComp elt [⟨target, iter, ifs, 0⟩] scope pos) scope cl none Q it s₂) E { s with heap := hp, toks := tk0 } :=
  comp_K S F N hn (fun i ys add => add = [] ∧ J i ys) ⟨rfl, h0⟩ (fun E' Ky Kn C R oC mc i v ys add h tk hi hv hyl hlt hR hA ho nC F N hy hx hJ => turn E' Ky Kn C R oC mc i v ys h tk hi hv hyl hR ho nC F N
    (fun y oC' mc' h' tk' hJ' nC' F' N' => hy y oC' mc' [] h' tk' ⟨by rw [hJ.1]; rfl, hJ'⟩ nC' F' N' (fun _ hp => nomatch hp)) (fun oC' mc' h' tk' hJ' nC' F' N' => hx oC' mc' [] h' tk' ⟨by rw [hJ.1]; rfl, hJ'⟩ nC' F' N' (fun _ hp => nomatch hp)) hJ.2)
    (fun D ys yk add h tk hJ hl hD hf hlt F N => done D ys yk h tk hJ.2 hl hlt F (by rw [hJ.1] at N; exact N)) hcell hkind

theorem comp_KL0 {hp : Heap} {tk0 : Tok} {news₀ : Led} {elt target iter : Expr} {ifs : List Expr} {scope : Scope} {cl : List (Str × Addr)} {pos py : Pos} {y : Str} {Q : Shared → Prop}
    (S : SrcAt prog w A { s with heap := hp, toks := tk0 } news₀ src x n P) (F : Fr h₀ env.locals hp m) (N : News h₀ env.locals hp news₀) (hn : n ≤ sizeLine)
    (J : Nat → List Value → Prop) (h0 : J 0 [])
    (turn : ∀ (E' : Value → Shared → Prop) (Ky : Value → Shared → Prop) (Kn : Shared → Prop) C R oC mc i v ys h tk, i < n → P i v → ys.length ≤ i → (∀ p ∈ news₀, p ∈ R) → (∀ p ∈ R, p.1 ≠ C) → NsO oC mc → Fr h₀ env.locals h m →
      News h₀ env.locals h ((C, oC) :: R) →
      Yield0 h₀ env.locals m s C R Ky (J (i + 1)) ys →
      Skip0 h₀ env.locals m s C R Kn (J (i + 1)) ys → J i ys →
      wpAny (model prog w) A (assign target (compEnvC scope cl C env) v) (fun _ s₂ =>
        wpAny (model prog w) A (forIn ifs true fun c r => if r = true then do let ok ← isTrue c (compEnvC scope cl C env) (eval c (compEnvC scope cl C env)); pure (ForInStep.yield ok) else pure (ForInStep.yield r)) (fun ok s₃ =>
          if ok = true then wpAny (model prog w) A (eval elt (compEnvC scope cl C env)) Ky E' s₃ else Kn s₃) E' s₂) E' { s with heap := h, toks := tk })
    (done : ∀ D ys yk h tk, J n ys → ys.length ≤ n → (∀ p ∈ news₀, @LT.lt Nat _ p.1 D) → Fr h₀ env.locals h (fun z => if z = y then some (.ref D) else m z) → News h₀ env.locals h ((D, listOf ys.toArray yk) :: news₀) → Q { s with heap := h, toks := tk })
    (hy : env.kindOf y = some .local := by rfl) (hp' : (env.scope.kind == .class || (env.scope.kind == .module && env.locals != env.globals)) = false := by rfl)
    (hcell : ∀ x ∈ scope.names, x.2 ≠ .cell := by decide +kernel) (hkind : scope.kind = .function := by rfl) :
    wpAny (model prog w) A (pyIter x) (fun it s₂ => CompAt prog w A E env (.ListComp elt [⟨target, iter, ifs, 0⟩] scope pos) scope cl (some (assign (.Name y py) env)) (fun _ s' => Q s') it s₂) E { s with heap := hp, toks := tk0 } :=
  comp_KL S F N hn (fun i ys add => add = [] ∧ J i ys) ⟨rfl, h0⟩ (fun E' Ky Kn C R oC mc i v ys add h tk hi hv hyl hlt hR hA ho nC F N hy hx hJ => turn E' Ky Kn C R oC mc i v ys h tk hi hv hyl hR ho nC F N
    (fun y oC' mc' h' tk' hJ' nC' F' N' => hy y oC' mc' [] h' tk' ⟨by rw [hJ.1]; rfl, hJ'⟩ nC' F' N' (fun _ hp => nomatch hp)) (fun oC' mc' h' tk' hJ' nC' F' N' => hx oC' mc' [] h' tk' ⟨by rw [hJ.1]; rfl, hJ'⟩ nC' F' N' (fun _ hp => nomatch hp)) hJ.2)
    (fun D ys yk add h tk hJ hl hD hf hlt F N => done D ys yk h tk hJ.2 hl hlt F (by rw [hJ.1] at N; exact N)) hy hp' hcell hkind

theorem comp_G {hp : Heap} {tk0 : Tok} {news₀ : Led} {elt target iter : Expr} {ifs : List Expr} {scope : Scope} {cl : List (Str × Addr)} {pos : Pos} {Q : Value → Shared → Prop}
    (S : SrcAt prog w A { s with heap := hp, toks := tk0 } news₀ src x n P) (F : Fr h₀ L hp m) (N : News h₀ L hp news₀) (hn : n ≤ sizeLine)
    (J : Nat → List Value → Led → Prop) (h0 : J 0 [] news₀)
    (turn : ∀ (E' : Value → Shared → Prop) (Ky : Value → Shared → Prop) (Kn : Shared → Prop) I C D it oC mc i v ys yk news h tk, i < n → P i v → ys.length ≤ i → @LT.lt Nat _ I D → @LT.lt Nat _ D C → (∀ p ∈ news₀, @LT.lt Nat _ p.1 I) → (∀ p ∈ src, p ∈ news) → (∀ p ∈ news, p.1 ≠ I ∧ p.1 ≠ C ∧ p.1 ≠ D) → NsO oC mc → Fr h₀ L h m →
      News h₀ L h ((C, oC) :: (D, listOf ys.toArray yk) :: (I, it) :: news) →
      YieldG h₀ L m s src I C D it yk Ky (J (i + 1)) ys →
      SkipG h₀ L m s src I C D it yk Kn (J (i + 1)) ys → J i ys news →
      wpAny (model prog w) A (assign target (compEnvC scope cl C env) v) (fun _ s₂ =>
        wpAny (model prog w) A (forIn ifs true fun c r => if r = true then do let ok ← isTrue c (compEnvC scope cl C env) (eval c (compEnvC scope cl C env)); pure (ForInStep.yield ok) else pure (ForInStep.yield r)) (fun ok s₃ =>
          if ok = true then wpAny (model prog w) A (eval elt (compEnvC scope cl C env)) Ky E' s₃ else Kn s₃) E' s₂) E' { s with heap := h, toks := tk })
    (done : ∀ D ys yk news h tk, J n ys news → ys.length ≤ n → (∀ p ∈ src, p ∈ news) → (∀ p ∈ news, p.1 ≠ D) → (∀ p ∈ news₀, p.1 < D) → Fr h₀ L h m → News h₀ L h ((D, listOf ys.toArray yk) :: news) → Q (.ref D) { s with heap := h, toks := tk })
    (hcell : ∀ x ∈ scope.names, x.2 ≠ .cell := by decide +kernel) (hkind : scope.kind = .function := by rfl) :
    wpAny (model prog w) A (pyIter x) (fun it s₂ => CompAt prog w A E env (.ListComp elt [⟨target, iter, ifs, 0⟩] scope pos) scope cl none Q it s₂) E { s with heap := hp, toks := tk0 } :=
  comp_at (use := none) (Q := Q) S F N hn J h0 (fun E' I C D it oC mc i v ys yk nn h tk hi hv hJ hyl hID hDC hlt hsub hoff nC F1 N1 => turn E' _ _ I C D it oC mc i v ys yk nn h tk hi hv hyl hID hDC hlt hsub hoff nC F1 N1
    (fun y oC' mc' news' h' tk' hJ' hs nC' F' N' ho => ⟨oC', mc', news', h', tk', hJ', hs, nC', F', N', ho, rfl⟩) (fun oC' mc' news' h' tk' hJ' hs nC' F' N' ho => ⟨oC', mc', news', h', tk', hJ', hs, nC', F', N', ho, rfl⟩) hJ) (fun C D oC mc ys yk news h tk hJ hl hsub hoff hDC hlt nC F N => ⟨mc, nC.ns (N _ (List.mem_cons_self ..)).1, fun h' hs => done D ys yk news h' tk hJ hl hsub (fun p hp => (hoff p hp).2) hlt (F.change hs (N _ (List.mem_cons_self ..)).2.1 (N _ (List.mem_cons_self ..)).2.2) (news_past N hs hDC fun p hp => (hoff p hp).1)⟩) hcell hkind

theorem while_K {hp : Heap} {tk0 : Tok} {test : Expr} {body orelse : List Stmt} {pos : Pos} {Q : Flow → Shared → Prop}
    (F : Fr h₀ env.locals hp m) (N : News h₀ env.locals hp news)
    (J : Nat → (Str → Option Value) → Led → Prop) (n : Nat) (h0 : J n m news)
    (turn : ∀ (E' : Value → Shared → Prop) (K : Flow → Shared → Prop) (X : Shared → Prop) n m news h tk, Fr h₀ env.locals h m → News h₀ env.locals h news →
      (∀ k m' news' h' tk', k < n → J k m' news' → Fr h₀ env.locals h' m' → News h₀ env.locals h' news' → K .next { s with heap := h', toks := tk' }) →
      (∀ s, wpAny (model prog w) A (execs orelse env) (fun f s₃ => Q f s₃) E' s → X s) → (∀ v s, Q (.ret v) s → K (.ret v) s) → J n m news →
      wpAny (model prog w) A (isTrue test env (eval test env)) (fun b s₂ => if b then wpAny (model prog w) A (execs body env) K E' s₂ else X s₂) E' { s with heap := h, toks := tk }) :
    wpAny (model prog w) A (exec (.While test body orelse pos) env) Q E { s with heap := hp, toks := tk0 } :=
  while_L F N J n h0 fun E' n m news h tk hJ F N => turn E' _ _ n m news h tk F N (fun k m' news' h' tk' hk hJ' F' N' => ⟨k, hk, m', news', h', tk', hJ', F', N', rfl⟩) (fun _ h => h) (fun _ _ h => h) hJ

theorem name_own {M : Model} {y : Str} {pos : Pos} {v : Value} {o : Obj} {mc : Str → Option Value} {env : Env} {Q : Value → Shared → Prop} (hk : env.scope.kind = .function) (hl : env.kindOf y = some .local) (hd : (y == ("__debug__" : Str)) = false)
    (N : News h₀ L s.heap news) (hm : (env.locals, o) ∈ news) (nC : NsO o mc) (hv : mc y = some v) (h : Q v s) : wpAny M A (eval (.Name y pos) env) Q E s :=
  wpAny_Name (wpAny_loadName_local hk hl (nC.ns (N _ hm).1) hv h) hd
theorem name_cell {M : Model} {y : Str} {pos : Pos} {v : Value} {c : Addr} {o : Obj} {env : Env} {Q : Value → Shared → Prop} (hk : env.scope.kind = .function) (hx : env.kindOf y = some .cell) (hb : (y == ("__debug__" : Str)) = false)
    (hc : env.cells.lookup y = some c) (N : News h₀ L s.heap news) (hm : (c, o) ∈ news) (hd : o.data = .cell (some v)) (h : Q v s) : wpAny M A (eval (.Name y pos) env) Q E s :=
  wpAny_Name (wpAny_loadName_cell hk hx hc ⟨o, N.get hm, hd⟩ h) hb

theorem own_name {M : Model} {y : Str} {pos : Pos} {v : Value} {o : Obj} {mc : Str → Option Value} {env : Env} {led : Led} {Q : Unit → Shared → Prop} (F : Fr h₀ L s.heap m) (N : News h₀ L s.heap ((env.locals, o) :: led)) (nC : NsO o mc) (hoff : ∀ p ∈ led, p.1 ≠ env.locals)
    (h : ∀ o' h' tk', NsO o' (fun z => if z = y then some v else mc z) → Fr h₀ L h' m → News h₀ L h' ((env.locals, o') :: led) → Q () { s with heap := h', toks := tk' })
    (hl : env.kindOf y = some .local := by rfl) (hp : (env.scope.kind == .class || (env.scope.kind == .module && env.locals != env.globals)) = false := by rfl) : wpAny M A (assign (.Name y pos) env v) Q E s := by
  have g := N _ (List.mem_cons_self ..)
  refine wpAny_assign_Name (wpAny_storeName_local hl (nC.ns g.1) (fun h₂ hn₂ hs₂ => ?_) hp)
  obtain ⟨o', g', n'⟩ := nsO_of hn₂
  refine h o' h₂ _ n' (F.change hs₂ g.2.1 g.2.2) fun p hp => ?_
  rcases List.mem_cons.mp hp with rfl | hp
  · exact ⟨g', g.2⟩
  · have q := N p (List.mem_cons_of_mem _ hp)
    exact ⟨(hs₂.2 p.1 (hoff p hp)).trans q.1, q.2⟩
end
section
variable {M : Model} {A : Around} {E : Value → Shared → Prop} {s : Shared}
theorem tk_gen {α : Type} {c : Sem α} {Q : α → Shared → Prop} {h : Heap} {g : Array GenState} {d : Drawn} {t : Nat} {o : OsState} (h9 : ∀ tk, wpAny M A c Q E (Shared.mk h g d tk o)) : wpAny M A c Q E (Shared.mk h g d (t + 1 + 1) o) := h9 _
theorem focus {α : Type} {c : Sem α} {Q : α → Shared → Prop} (h : ∀ K : α → Shared → Prop, (∀ v s', Q v s' → K v s') → wpAny M A c K E s) : wpAny M A c Q E s := h Q fun _ _ h => h
end
theorem name_loc {M : Model} {A : Around} {E : Value → Shared → Prop} {s : Shared} {h₀ : Heap} {m : Str → Option Value} {y : Str} {pos : Pos} {v : Value} {env : Env} {Q : Value → Shared → Prop} (hk : env.scope.kind = .function) (hl : env.kindOf y = some .local) (hd : (y == ("__debug__" : Str)) = false)
    (F : Fr h₀ env.locals s.heap m) (hv : m y = some v) (h : Q v s) : wpAny M A (eval (.Name y pos) env) Q E s :=
  wpAny_Name (wpAny_loadName_local hk hl F.ns hv h) hd
theorem load_loc {M : Model} {A : Around} {E : Value → Shared → Prop} {s : Shared} {h₀ : Heap} {m : Str → Option Value} {y : Str} {v : Value} {env : Env} {Q : Value → Shared → Prop} (hk : env.scope.kind = .function) (hl : env.kindOf y = some .local)
    (F : Fr h₀ env.locals s.heap m) (hv : m y = some v) (h : Q v s) : wpAny M A (loadName env y) Q E s :=
  wpAny_loadName_local hk hl F.ns hv h
theorem item_L {prog : Program} {w : World} {A : Around} {E : Value → Shared → Prop} {s : Shared} {h₀ : Heap} {L : Addr} {news : Led} {l : Addr} {vs : List Value} {k i : Nat} {t : Tok} {v : Value} {Q : Value → Shared → Prop} (N : News h₀ L s.heap news) (hm : (l, listOf vs.toArray k) ∈ news) (hv : vs[i]? = some v) (hi : i < 4096) (h : Q v s) :
    wpAny (model prog w) A (getItem (.ref l) (.int (i : Int) t)) Q E s := by
  have q := N _ hm
  exact wpAny_getItem_list (k := (i : Int)) ⟨_, q.1, rfl, _, rfl⟩ (Int.natCast_nonneg i) (Int.lt_of_lt_of_le (Int.ofNat_lt.mpr hi) (by decide)) (by rw [Int.toNat_natCast]; simpa using hv) h
theorem itemT_L {prog : Program} {w : World} {A : Around} {E : Value → Shared → Prop} {s : Shared} {h₀ : Heap} {L : Addr} {news : Led} {value slice : PySem.Expr} {l : Addr} {vs : List Value} {k i : Nat} {t : Tok} {v : Value} {Q : Value → Shared → Prop}
    (hs : subscripted slice false (.ref l) (.int (i : Int) t) = operate [.ref l, .int (i : Int) t] (getItem (.ref l) (.int (i : Int) t)))
    (N : News h₀ L s.heap news) (hm : (l, listOf vs.toArray k) ∈ news) (hv : vs[i]? = some v) (hi : i < 4096) (h : Q v s) :
    wpAny (model prog w) A (subscriptTail value slice (.ref l) (.int (i : Int) t)) Q E s :=
  tail_any ⟨_, (N _ hm).1, rfl⟩ slot_list_getitem.lookup (item_L N hm hv hi h) hs
theorem itemZ_L {prog : Program} {w : World} {A : Around} {E : Value → Shared → Prop} {s : Shared} {h₀ : Heap} {L : Addr} {news : Led} {value slice : PySem.Expr} {l : Addr} {vs : List Value} {k : Nat} {z : Int} {t : Tok} {v : Value} {Q : Value → Shared → Prop}
    (hs : subscripted slice false (.ref l) (.int z t) = operate [.ref l, .int z t] (getItem (.ref l) (.int z t)))
    (N : News h₀ L s.heap news) (hm : (l, listOf vs.toArray k) ∈ news) (hv : vs[z.toNat]? = some v) (hi : 0 ≤ z ∧ z < 4096) (h : Q v s) :
    wpAny (model prog w) A (subscriptTail value slice (.ref l) (.int z t)) Q E s :=
  tail_any ⟨_, (N _ hm).1, rfl⟩ slot_list_getitem.lookup (wpAny_getItem_list (k := z) ⟨_, (N _ hm).1, rfl, _, rfl⟩ hi.1 (Int.lt_of_lt_of_le hi.2 (by decide)) (by simpa using hv) h) hs
theorem let_av {M : Model} {A : Around} {E : Value → Shared → Prop} {s : Shared} {env : Env} {b : List Stmt} {Q : Flow → Shared → Prop} (h : let V := env; let A' := A; wpAny M A' (execs b V) Q E s) : wpAny M A (execs b env) Q E s := h
theorem let_led {h₀ h : Heap} {L : Addr} {led : Led} {G : Prop} (N : News h₀ L h led) (k : let LD := led; News h₀ L h LD → G) : G := k N
theorem let_fr {h₀ h : Heap} {L : Addr} {m : Str → Option Value} {G : Prop} (F : Fr h₀ L h m) (k : let mm := m; Fr h₀ L h mm → G) : G := k F
theorem ite_no {c : Prop} [Decidable c] {a b : Prop} (h : ¬ c) (k : b) : ite c a b := by rw [if_neg h]; exact k
theorem wif_neg {M : Model} {A : Around} {E : Value → Shared → Prop} {s : Shared} {α : Type} {c : Prop} [Decidable c] {x y : Sem α} {Q : α → Shared → Prop} (hc : ¬ c) (h : wpAny M A y Q E s) : wpAny M A (if c then x else y) Q E s := by rw [if_neg hc]; exact h
theorem wif_pos {M : Model} {A : Around} {E : Value → Shared → Prop} {s : Shared} {α : Type} {c : Prop} [Decidable c] {x y : Sem α} {Q : α → Shared → Prop} (hc : c) (h : wpAny M A x Q E s) : wpAny M A (if c then x else y) Q E s := by rw [if_pos hc]; exact h
theorem focus_let {M : Model} {A : Around} {E : Value → Shared → Prop} {s : Shared} {α : Type} {c : Sem α} {Q : α → Shared → Prop} (h : let K := Q; wpAny M A c K E s) : wpAny M A c Q E s := h
theorem store_let {M : Model} {A : Around} {E : Value → Shared → Prop} {h₀ hp : Heap} {g : Array GenState} {d : Drawn} {t : Nat} {o : OsState} {m : Str → Option Value} {y : Str} {v : Value} {env : Env} {news : Led} {Q : Unit → Shared → Prop}
    (hk : env.scope.kind = .function) (hl : env.kindOf y = some .local) (F : Fr h₀ env.locals hp m) (N : News h₀ env.locals hp news)
    (h : ∀ h' tk', let mm := fun z => if z = y then some v else m z; Fr h₀ env.locals h' mm → News h₀ env.locals h' news → Q () (Shared.mk h' g d tk' o)) : wpAny M A (storeName env y v) Q E (Shared.mk hp g d t o) :=
  wpAny_storeName_local hl F.ns (fun h' hn hs => h h' _ (F.set hn hs) (N.set hs)) (by rw [hk]; rfl)
inductive Stop : {α : Type} → Sem α → Prop
  | a {p k} : Stop (call (.builtin "dict.get") p k)
  | b {e g c o env} : Stop (eval (.ListComp e g c o) env)
  | c {y o e g c o1 o2 env} : Stop (exec (.Assign [.Name y o] (.ListComp e g c o1) o2) env)
  | d {x i b e o env} : Stop (exec (.For x i b e o) env)
  | e {x b e o env} : Stop (exec (.While x b e o) env)
  | f {v} : Stop (pyIter v)
  | g {r p k} : Stop (call (.ref r) p k)
  | h {l k o env v} : Stop (assign (.Tuple l k o) env v)
  | i {p k} : Stop (call (.builtin "list.pop") p k)
  | j {p k} : Stop (call (.builtin "list.reverse") p k)
  | k {p q} : Stop (call (.builtin "list.extend") p q)
  | l {p k} : Stop (call (.builtin "iter") p k)
  | m {p k} : Stop (call (.builtin "next") p k)
  | n {p k} : Stop (call (.builtin "str.join") p k)
  | o {p k} : Stop (call (.builtin "hasattr") p k)
  | p {x y} : Stop (compareOp .In x (.ref y))
  | q {x y} : Stop (compareOp .NotIn x (.ref y))
  | r {x y} : Stop (binaryOp .Add (.ref x) (.ref y))
  | s {x y} : Stop (inplaceOp .Add (.ref x) (.ref y))
inductive StopX : {α : Type} → Sem α → Prop
  | a {x b e o env} : StopX (eval (.IfExp x b e o) env)
  | b {v l u s o x i} : StopX (subscriptTail v (.Slice l u s o) x i)
  | c {o x y} : StopX (compareOp o (.ref x) (.ref y))
inductive Foc : {α : Type} → Sem α → Prop
  | a {f p k o env} : Foc (eval (.Call f p k o) env)
  | b {l o env} : Foc (eval (.List l o) env)
  | c {l k o env} : Foc (eval (.Tuple l k o) env)
  | d {v l u s o o2 env} : Foc (eval (.Subscript v (.Slice l u s o) o2) env)
  | e {x env} : Foc (exec x env)
section
variable {M : Model} {A : Around} {α : Type} {c : Sem α} {Q : α → Shared → Prop} {E : Value → Shared → Prop} {s : Shared}
theorem stop (_ : Stop c) (h : wpAny M A c Q E s) : wpAny M A c Q E s := h
theorem stopX (_ : StopX c) (h : wpAny M A c Q E s) : wpAny M A c Q E s := h
theorem foc (_ : Foc c) (h : wpAny M A c Q E s) : wpAny M A c Q E s := h
theorem isK (K : α → Shared → Prop) (h : wpAny M A c K E s) : wpAny M A c K E s := h
theorem gST {v e : PySem.Expr} {l : Addr} {z : Int} {t : Tok} {Q : Value → Shared → Prop} (h : wpAny M A (subscriptTail v e (.ref l) (.int z t)) Q E s) : wpAny M A (subscriptTail v e (.ref l) (.int z t)) Q E s := h
theorem gSl {v : PySem.Expr} {l u p : Option PySem.Expr} {o : Pos} {x y : Value} {Q : Value → Shared → Prop} (h : wpAny M A (subscriptTail v (.Slice l u p o) x y) Q E s) : wpAny M A (subscriptTail v (.Slice l u p o) x y) Q E s := h
end
theorem lt2 {n : Nat} : n < n + 1 + 1 := Nat.lt_succ_of_lt (Nat.lt_succ_self _)
theorem lt3 {n : Nat} : n < n + 1 + 1 + 1 := Nat.lt_succ_of_lt lt2
theorem lt4 {n : Nat} : n < n + 1 + 1 + 1 + 1 := Nat.lt_succ_of_lt lt3
theorem lt5 {n : Nat} : n < n + 1 + 1 + 1 + 1 + 1 := Nat.lt_succ_of_lt lt4
theorem lt6 {n : Nat} : n < n + 1 + 1 + 1 + 1 + 1 + 1 := Nat.lt_succ_of_lt lt5
theorem out1 {f : Tok → Value} {R : Led} {P : Value → Led → Heap → Nat → Prop} (h : ∀ t h' tk', P (f t) R h' tk') : ∀ (v : Value) (n : Led) (h' : Heap) (tk' : Nat), ((∃ t, v = f t) ∧ n = R) → P v n h' tk' := by
  rintro _ _ h' tk' ⟨⟨t, rfl⟩, rfl⟩
  exact h t h' tk'
theorem out0 {x : Value} {R : Led} {P : Value → Led → Heap → Nat → Prop} (h : ∀ h' tk', P x R h' tk') : ∀ (v : Value) (n : Led) (h' : Heap) (tk' : Nat), (v = x ∧ n = R) → P v n h' tk' := by
  rintro _ _ h' tk' ⟨rfl, rfl⟩
  exact h h' tk'
theorem fit2 {a b A B n : Nat} (ha : a ≤ A) (hb : b ≤ B) (h : A + B ≤ n) : a + b ≤ n := Nat.le_trans (Nat.add_le_add ha hb) h
theorem one_le {a : Nat} : (Str.mk #[a]).length ≤ 1 := Nat.le_refl _
theorem str_le {l : List Nat} {n : Nat} (h : l.length ≤ n) : (Str.mk l.toArray).length ≤ n := h
theorem app_le {a b : Str} {A B : Nat} (ha : a.length ≤ A) (hb : b.length ≤ B) : (a ++ b).length ≤ A + B := by rw [strLen_append]; exact Nat.add_le_add ha hb
theorem le_lt {a b c : Nat} (h : a < b) (k : b ≤ c) : a ≤ c := Nat.le_trans (Nat.le_of_lt h) k
end Mine
end
section
open PySem PySem.W PyProof.Rows PySem.Calls PySem.Spec
set_option Elab.async false
set_option maxRecDepth 100000
namespace Mine
open PySem.Sre in
noncomputable def nameCode : Array Nat := #[14, 10, 4, 1, 1, 22, 0, 31, 16, 127, 0, 13, 7, 22, 0, 31, 16, 127, 0, 1]
noncomputable def valCode : Array Nat := #[14, 14, 4, 1, 1, 9, 4294966783, 0, 0, 2147483648, 0, 0, 0, 0, 0, 13, 11, 9, 4294966783, 0, 0, 2147483648, 0, 0, 0, 0, 0, 1]
noncomputable def okC (c : Nat) : Bool := decide (32 ≤ c) && !(c == 127)

theorem inSet_name (c : Nat) (h : okC c = true) (seen : Sre.Seen) : ∃ seen', Sre.inSet nameCode c 20 5 true seen = .ok (false, seen') := by
  simp only [okC, Bool.and_eq_true, decide_eq_true_eq, Bool.not_eq_true', beq_eq_false_iff_ne] at h
  refine ⟨((seen.add 22).add 16).add 0, ?_⟩
  have e1 : (decide (0 ≤ c) && decide (c ≤ 31)) = false := by simp; lia
  have e2 : (c == 127) = false := by simp; lia
  show (if (decide (0 ≤ c) && decide (c ≤ 31)) = true then _ else (if (c == 127) = true then _ else _)) = _
  rw [e1, e2]
  rfl

theorem val_all : (List.range 256).all (fun c => !(okC c) || !((nameCode.getD 0 0 == 14) && (valCode.getD (5 + (1 + c / 32)) 0).testBit (c % 32))) = true := by decide +kernel
theorem val_bits : ∀ c : Fin 256, okC c.1 = true → ((nameCode.getD 0 0 == 14) && (valCode.getD (5 + (1 + c.1 / 32)) 0).testBit (c.1 % 32)) = false := fun c h => by
  have q : (!(okC c.1) || !((nameCode.getD 0 0 == 14) && (valCode.getD (5 + (1 + c.1 / 32)) 0).testBit (c.1 % 32))) = true := List.all_eq_true.mp val_all c.1 (List.mem_range.mpr c.2)
  rw [h, Bool.not_true, Bool.false_or] at q
  exact (Bool.not_eq_true' _).mp q

theorem inSet_val (c : Nat) (h : okC c = true) (seen : Sre.Seen) : ∃ seen', Sre.inSet valCode c 28 5 true seen = .ok (false, seen') := by
  refine ⟨(seen.add 9).add 0, ?_⟩
  have e1 : (decide (c < 256) && (valCode.getD (5 + (1 + c / 32)) 0).testBit (c % 32)) = false := by
    by_cases hc : c < 256
    · have := val_bits ⟨c, hc⟩ h
      rw [show (nameCode.getD 0 0 == 14) = true from rfl, Bool.true_and] at this
      rw [this, Bool.and_false]
    · simp [hc]
  show (if (decide (c < 256) && (valCode.getD (5 + (1 + c / 32)) 0).testBit (c % 32)) = true then _ else _) = _
  rw [e1]
  rfl

theorem admitted_none (m : Sre.M) (text : Array Nat) (ht : m.text = text) (hl : m.lim ≤ text.size) (hs : ∀ c, okC c = true → ∀ seen, ∃ seen', Sre.inSet m.code c m.code.size 5 true seen = .ok (false, seen')) (hok : ∀ i, i < text.size → okC (text.getD i 0) = true) :
    ∀ fuel s seen, ∃ seen', Sre.M.admitted m fuel s seen = .ok (none, seen') := by
  intro fuel
  induction fuel with
  | zero => intro s seen; exact ⟨seen, rfl⟩
  | succ n ih =>
    intro s seen
    by_cases hlt : s ≥ m.lim
    · exact ⟨seen, by unfold Sre.M.admitted; rw [if_pos hlt]⟩
    · obtain ⟨seen', e⟩ := hs (text.getD s 0) (hok s (by lia)) seen
      obtain ⟨seen'', e'⟩ := ih (s + 1) seen'
      refine ⟨seen'', ?_⟩
      unfold Sre.M.admitted
      rw [if_neg hlt, ht, e]
      exact e'

theorem admitted_is {code text : Array Nat} (hs : ∀ c, okC c = true → ∀ seen, ∃ seen', Sre.inSet code c code.size 5 true seen = .ok (false, seen')) (hok : ∀ i, i < text.size → okC (text.getD i 0) = true)
    {m : Sre.M} {fuel s : Nat} {seen : Sre.Seen} {r} (e : Sre.M.admitted m fuel s seen = r) (hc : m.code = code) (ht : m.text = text) (hl : m.lim = text.size) : ∃ seen', r = .ok (none, seen') := by
  obtain ⟨seen', e'⟩ := admitted_none m text ht (Nat.le_of_eq hl) (by rw [hc]; exact hs) hok fuel s seen
  exact ⟨seen', e.symm.trans e'⟩

theorem search_fails (code : Array Nat) (text : Array Nat) (hh : Sre.header code = (1, 11) ∨ Sre.header code = (1, 15)) (h2 : code.getD 2 0 = 4) (h0 : Sre.ops[code.getD 0 0]? = some .INFO)
    (hs : ∀ c, okC c = true → ∀ seen, ∃ seen', Sre.inSet code c code.size 5 true seen = .ok (false, seen')) (hok : ∀ i, i < text.size → okC (text.getD i 0) = true) :
    ∃ m : Sre.M, Sre.forSearch code text 0 0 text.size false = m ∧ m.outcome = none ∧ m.answer = some false ∧ m.frames = [] := by
  refine ⟨_, rfl, ?_⟩
  unfold Sre.forSearch
  dsimp only
  split
  · exact ⟨rfl, rfl, rfl⟩
  · unfold Sre.M.attemptFrom
    have hf : ∀ (m : Sre.M), m.code = code → m.hasFirstSet = true := by
      intro m hm
      unfold Sre.M.hasFirstSet
      rw [hm, h0, h2]; rfl
    rw [hf _ rfl]
    simp only [Bool.not_true, Bool.false_eq_true, if_false]
    split
    · rename_i s seen' e
      obtain ⟨_, q⟩ := admitted_is hs hok e rfl rfl rfl
      cases q
    · exact ⟨rfl, rfl, rfl⟩
    · rename_i why e
      obtain ⟨_, q⟩ := admitted_is hs hok e rfl rfl rfl
      cases q
theorem slot_search : Slot "re.Pattern" "search" "re.Pattern.search" :=
  .of (owner := "re.Pattern") (n := "search") (by rw [typeLookup_type, builtinLookup_eq_fast]; kernel_rfl) (by decide +kernel) (by decide +kernel) (by decide +kernel)
    (.inr (by decide +kernel)) (by rw [isSubtype_type]; kernel_rfl)
theorem type_search : typeOf (.builtin "re.Pattern.search") = pure (.type "method_descriptor") := by show builtinType _ = _; rw [builtinType_eq_fast]; kernel_rfl
theorem entry_search : entryFor table "re.Pattern.search" = some Builtin.«re.Pattern.search» := entryFor_of_tree (by kernel_rfl)
theorem args_search (a b : Value) : argsOk "re.Pattern.search" ⟨[a, b], []⟩ := by unfold argsOk; kernel_rfl
theorem plain_pattern : PlainAttrs "re.Pattern" :=
  ⟨⟨"object.__getattribute__", by rw [typeLookup_type, builtinLookup_eq_fast]; kernel_rfl, by decide +kernel⟩, by rw [typeLookup_type, builtinLookup_eq_fast]; kernel_rfl⟩
theorem named_search (v : Value) : Builtin.Re.reNamed "re.Pattern.search" "search" ["string", "pos", "endpos"] 1 [v] [] = pure [some v, none, none] := by kernel_rfl

theorem wp_no {α : Type} {M : Model} {A : Around} {E : Value → Shared → Prop} {s : Shared} {Q : α → Shared → Prop} {c : Prop} [Decidable c] {a b : Sem α} (h : wpAny M A b Q E s) (hc : c → False) : wpAny M A (if c then a else b) Q E s := by rw [if_neg hc]; exact h
theorem wp_yes {α : Type} {M : Model} {A : Around} {E : Value → Shared → Prop} {s : Shared} {Q : α → Shared → Prop} {c : Prop} [Decidable c] {a b : Sem α} (h : wpAny M A a Q E s) (hc : c) : wpAny M A (if c then a else b) Q E s := by rw [if_pos hc]; exact h

theorem rules_wp {M : Model} {A : Around} {E : Value → Shared → Prop} {s : Shared} {b : Nat → Bool} {f : Nat → String} {Q : Unit → Shared → Prop} (h : Q () s) : ∀ l : List Nat,
    wpAny M A (forIn l PUnit.unit (fun i _ => if b i = true then (do rule (f i); pure (ForInStep.yield PUnit.unit)) else pure (ForInStep.yield PUnit.unit))) Q E s := by
  intro l
  induction l with
  | nil => exact wpAny_pure h
  | cons i l ih =>
    rw [List.forIn_cons]
    cases hb : b i with
    | true => simp only [if_true]; exact wpAny_bind (wpAny_bind (wpAny_rule (wpAny_pure ih)))
    | false => simp only [Bool.false_eq_true, if_false]; exact wpAny_bind (wpAny_pure ih)

theorem run_fails {M : Model} {A : Around} {E : Value → Shared → Prop} {s : Shared} {m : Sre.M} (h1 : m.outcome = none) (h2 : m.answer = some false) (h3 : m.frames = []) {Q : Option Sre.M → Shared → Prop} (h : Q none s) :
    wpAny M A (Builtin.Re.reRunToEnd m) Q E s := by
  unfold Builtin.Re.reRunToEnd
  have e : m.runFor Builtin.Re.reTurnSteps = { m with outcome := some .failed } := by
    show Sre.M.runFor 4 m = _
    unfold Sre.M.runFor
    rw [h1]
    have st : m.step = { m with outcome := some .failed } := by unfold Sre.M.step; rw [h1, h2, h3]; rfl
    simp only [Option.isSome_none, Bool.false_eq_true, if_false, st]
    unfold Sre.M.runFor
    rfl
  have d : ∀ n, Builtin.Re.reDrive (n + 1) m = pure { m with outcome := some .failed } := by
    intro n
    unfold Builtin.Re.reDrive
    rw [e]; rfl
  refine wpAny_bind (wpAny_of_eq (d (2 ^ 64 - 1)) ?_)
  refine wpAny_bind (rules_wp ?_ _)
  exact wpAny_pure h

theorem call_search {prog : Program} {w : World} {A : Around} {E : Value → Shared → Prop} {s : Shared} {P T : Addr} {a0 a1 : Value} {items : Array Value} {n : Nat} {x : Str} {tk : Tok} {code : Array Nat}
    (hP : s.heap.get? P = some { cls := .type "re.Pattern", dict := none, data := .fields #[a0, a1, .int 0 0, .none, .none, .ref T, .int 0 0], slots := #[] })
    (hT : s.heap.get? T = some { cls := .type "tuple", dict := none, data := .seq items n, slots := #[] }) (hc : (items.map Builtin.Re.reRawOf).map (·.toNat) = code)
    (hh : Sre.header code = (1, 11) ∨ Sre.header code = (1, 15)) (h2 : code.getD 2 0 = 4) (h0 : Sre.ops[code.getD 0 0]? = some .INFO)
    (hs : ∀ c, okC c = true → ∀ seen, ∃ seen', Sre.inSet code c code.size 5 true seen = .ok (false, seen')) (hok : ∀ i, i < x.cps.size → okC (x.cps.getD i 0) = true) (hx : x.cps.size < 2 ^ 60)
    {Q : Value → Shared → Prop} (h : Q .none s) : wpAny (model prog w) A (call (.builtin "re.Pattern.search") [.ref P, .str x tk]) Q E s := by
  refine wpAny_call_entry slot_search ⟨_, hP, rfl⟩ entry_search ?_ (args_search _ _)
  unfold Builtin.«re.Pattern.search» Builtin.Re.reTarget
  dsimp only
  refine wpAny_bind (wpAny_bind (wpAny_of_eq (named_search _) ?_))
  dsimp only
  refine wpAny_bind (wpAny_pure (wpAny_bind (wpAny_pure ?_)))
  refine wpAny_bind (wpAny_fieldsOf hP rfl ?_)
  refine wpAny_bind (wpAny_of_eq (a := (x.cps, 0)) (by rfl) ?_)
  refine wp_no ?_ (fun h => Bool.noConfusion (show false = true from h))
  refine wp_no ?_ (fun h => Bool.noConfusion (show false = true from h))
  refine wpAny_bind (wpAny_of_eq (a := ()) (by rfl) ?_)
  refine wpAny_bind (wpAny_bind (wpAny_seqItems hT rfl (wpAny_pure ?_)))
  refine wpAny_pure ?_
  dsimp only
  have e1 : min (Int.toNat 0) x.cps.size = 0 := by simp
  have e2 : min (2 ^ 63 - 1 : Int).toNat x.cps.size = x.cps.size := by
    have q : (2 ^ 63 - 1 : Int).toNat = 2 ^ 63 - 1 := by decide
    rw [q]
    exact Nat.min_eq_right (by lia)
  have e3 : (Option.getD (some items) #[]).map Builtin.Re.reRawOf = items.map Builtin.Re.reRawOf := rfl
  rw [e1, e2, e3, hc]
  obtain ⟨m, em, m1, m2, m3⟩ := search_fails code x.cps hh h2 h0 hs hok
  unfold Builtin.Re.reAnswer
  dsimp only
  have e4 : Builtin.Re.reRawNat (#[a0, a1, Value.int 0 0, Value.none, Value.none, Value.ref T, Value.int 0 0].getD 2 Value.none) = 0 := rfl
  rw [e4, em]
  refine wpAny_bind (run_fails m1 m2 m3 ?_)
  exact wpAny_pure ⟨_, rfl, h⟩
end Mine
end
section
open PySem PySem.W PyProof.Rows PySem.Calls PySem.Spec
set_option Elab.async false
set_option maxRecDepth 100000
set_option maxHeartbeats 0
namespace Mine
section
variable {prog : Program} {w : World} {A : Around} {E : Value → Shared → Prop} {s : Shared} {h₀ : Heap} {L : Addr} {m : Str → Option Value}

noncomputable def okStr (x : Str) : Prop := ∀ i, i < x.cps.size → okC (x.cps.getD i 0) = true

theorem pat_n {h : Heap} (X : Frag.In (Mine.pb.heap_1 w.params) h) : ∃ a0 a1 items n, h.get? 43 = some { cls := .type "re.Pattern", dict := none, data := .fields #[a0, a1, .int 0 0, .none, .none, .ref 42, .int 0 0], slots := #[] } ∧
    h.get? 42 = some { cls := .type "tuple", dict := none, data := .seq items n, slots := #[] } ∧ (items.map Builtin.Re.reRawOf).map (·.toNat) = nameCode :=
  ⟨.str ⟨#[91, 92, 120, 48, 48, 45, 92, 120, 49, 70, 92, 120, 55, 70, 93]⟩ 292, .int 32 315, nameCode.map (fun (c : Nat) => Value.int c 0), 0, X 43 _ (by kernel_rfl!), X 42 _ (by kernel_rfl!), by kernel_rfl!⟩
theorem pat_v {h : Heap} (X : Frag.In (Mine.pb.heap_1 w.params) h) : ∃ a0 a1 items n, h.get? 48 = some { cls := .type "re.Pattern", dict := none, data := .fields #[a0, a1, .int 0 0, .none, .none, .ref 47, .int 0 0], slots := #[] } ∧
    h.get? 47 = some { cls := .type "tuple", dict := none, data := .seq items n, slots := #[] } ∧ (items.map Builtin.Re.reRawOf).map (·.toNat) = valCode :=
  ⟨.str ⟨#[91, 92, 120, 48, 48, 45, 92, 120, 48, 56, 92, 120, 48, 65, 45, 92, 120, 49, 70, 92, 120, 55, 70, 93]⟩ 318, .int 32 349, valCode.map (fun (c : Nat) => Value.int c 0), 0, X 48 _ (by kernel_rfl!), X 47 _ (by kernel_rfl!), by kernel_rfl!⟩
theorem getM_n {pl : Sem Bool} {Q : Value × List Value → Shared → Prop} (X : Frag.In (Mine.pb.heap_1 w.params) s.heap) (h : Q (.builtin "re.Pattern.search", [.ref 43]) s) : wpAny (model prog w) A (getMethod (.ref 43) "search" pl) Q E s := by
  obtain ⟨_, _, _, _, h1, _, _⟩ := pat_n X
  exact getMethod_builtin ⟨_, h1, rfl⟩ plain_pattern slot_search type_search (fun a e => by cases e; exact ⟨_, h1, rfl⟩) h
theorem getM_v {pl : Sem Bool} {Q : Value × List Value → Shared → Prop} (X : Frag.In (Mine.pb.heap_1 w.params) s.heap) (h : Q (.builtin "re.Pattern.search", [.ref 48]) s) : wpAny (model prog w) A (getMethod (.ref 48) "search" pl) Q E s := by
  obtain ⟨_, _, _, _, h1, _, _⟩ := pat_v X
  exact getMethod_builtin ⟨_, h1, rfl⟩ plain_pattern slot_search type_search (fun a e => by cases e; exact ⟨_, h1, rfl⟩) h
theorem search_n {x : Str} {tk : Tok} {Q : Value → Shared → Prop} (X : Frag.In (Mine.pb.heap_1 w.params) s.heap) (ok : okStr x) (hx : x.length < 2 ^ 60) (h : Q .none s) : wpAny (model prog w) A (call (.builtin "re.Pattern.search") [.ref 43, .str x tk]) Q E s := by
  obtain ⟨_, _, _, _, h1, h2, h3⟩ := pat_n X
  exact call_search h1 h2 h3 (.inl rfl) rfl rfl inSet_name ok hx h
theorem search_v {x : Str} {tk : Tok} {Q : Value → Shared → Prop} (X : Frag.In (Mine.pb.heap_1 w.params) s.heap) (ok : okStr x) (hx : x.length < 2 ^ 60) (h : Q .none s) : wpAny (model prog w) A (call (.builtin "re.Pattern.search") [.ref 48, .str x tk]) Q E s := by
  obtain ⟨_, _, _, _, h1, h2, h3⟩ := pat_v X
  exact call_search h1 h2 h3 (.inr rfl) rfl rfl inSet_val ok hx h
end
local macro_rules | `(tactic| walk_at "getMethod ref") => `(tactic| ((with_unfolding_all first | apply getM_n | apply getM_v); k_in))
local macro_rules | `(tactic| walk_at "call builtin:re.Pattern.search") => `(tactic| ((with_unfolding_all first | apply search_n | apply search_v); k_in; assumption; lia))
section
variable {w : World} {p : Program} {loose : List Str} {mean : ExcName → Option Value} {mg mb : Str → Option Value} {news : Led}
theorem c_conv {b : Addr} {x : Str} {t1 : Tok} {nm : Bool} (ok : okStr x) (hx : x.length < 2 ^ 60) : Claim w p loose mean mg mb 70 [.ref b, .str x t1] [(Str.ofString "name", .bool nm)] news 1 12 (fun v n' => v = .str x t1 ∧ n' = news) := by
  wtm_at "mIN"
  wtm_at "mQ"
  all_goals exact hret _ _ _ _ ⟨rfl, rfl⟩ (by k_asm) (by k_asm)
end
end Mine
end
section
local macro_rules | `(tactic| wtm_at "mm") => `(tactic| first | exact List.Mem.head _ | ktr_member | (apply List.mem_append_right; wtm_at "mm") | (apply List.mem_cons_of_mem; wtm_at "mm") | assumption)
local macro_rules | `(tactic| wtm_at "mq") => `(tactic| with_reducible first | exact Mine.mem_hd | assumption | (apply Mine.mem_tl; wtm_at "mq") | (apply Mine.mem_r; wtm_at "mq"))
local macro_rules | `(tactic| k_mem) => `(tactic| (apply Mine.mem_same; first | wtm_at "mq" | wtm_at "mm"))
local macro_rules | `(tactic| wtm_at "mR4") => `(tactic| first | (apply Mine.room0; assumption) | (apply Mine.room1; assumption; decide) | (apply Mine.room2; assumption; decide) | (apply Mine.room3; assumption; decide))
local macro_rules | `(tactic| k_room) => `(tactic| first | wtm_at "mR4" | ktr_room)
local macro_rules | `(tactic| k_ne) => `(tactic| first | (with_reducible first | assumption | exact Nat.ne_of_gt ‹_› | exact Nat.ne_of_lt ‹_› | exact Ne.symm ‹_›) | (refine neN ?_; (try dsimp only); first | (apply Nat.ne_of_lt; wtm_at "mlt") | (apply Nat.ne_of_gt; wtm_at "mlt") | exact Nat.ne_of_gt (And.left (by iterate 9 (try first | with_reducible assumption | apply And.right))) | wtm_at "om"))
local macro_rules | `(tactic| wtm_at "msu") => `(tactic| first | (with_reducible assumption) | exact Nat.lt_succ_self _ | exact Mine.lt2 | exact Mine.lt3 | exact Mine.lt4 | exact Mine.lt5 | exact Mine.lt6)
local macro_rules | `(tactic| wtm_at "mlf") => `(tactic| first | wtm_at "msu" | (refine Nat.lt_trans (by with_reducible assumption) ?_; wtm_at "mlf"))
local macro_rules | `(tactic| wtm_at "mlb") => `(tactic| first | wtm_at "msu" | (refine Nat.lt_trans ?_ (by with_reducible assumption); wtm_at "mlb"))
local macro_rules | `(tactic| wtm_at "mlt") => `(tactic| first | wtm_at "mlf" | wtm_at "mlb")
local macro_rules | `(tactic| wtm_at "om") => `(tactic| first | (with_reducible assumption) | (apply Nat.lt_trans; with_reducible assumption; decide) | (apply Mine.le_lt; with_reducible assumption; decide) | omega)
local macro_rules | `(tactic| size_fits) => `(tactic| first | exact Nat.zero_le _ | (apply Mine.le_lt; with_reducible assumption; decide) | (apply Nat.le_trans; with_reducible assumption; decide) | (apply Mine.fit2; wtm_at "ml"; wtm_at "ml"; decide))
local macro_rules | `(tactic| wtm_at "ml") => `(tactic| with_reducible first | assumption | exact Mine.one_le)
local macro_rules | `(tactic| wtm_at "ar") => `(tactic| first | (with_reducible assumption) | eq_refl | assumption)
local macro_rules | `(tactic| k_all) => `(tactic| assumption)
local macro_rules | `(tactic| wtm_at "mITEM") => `(tactic| (k_here; k_dflt (apply Mine.itemT_L; (with_unfolding_all rfl); k_asm; k_mem; assumption; wtm_at "om"; k_whole)))
local macro_rules | `(tactic| walk_at "subscriptTail") => `(tactic| ((fail_if_success (fail_if_success (with_reducible refine Mine.gST ?_))); wtm_at "mITEM"))
local macro_rules | `(tactic| walk_at "subscriptTail Name Name ref int") => `(tactic| wtm_at "mITEM")
local macro_rules | `(tactic| walk_at "subscriptTail Name Subscript ref int") => `(tactic| wtm_at "mITEM")
local macro_rules | `(tactic| walk_at "subscriptTail Name Constant ref int") => `(tactic| first | (k_here; k_dflt (apply Mine.itemZ_L; (with_unfolding_all rfl); k_asm; k_mem; assumption; decide; k_whole)) | wtm_at "mITEM")
local macro_rules | `(tactic| walk_at "eval Name") => `(tactic| (k_here; k_dflt (first | (apply Mine.name_cell; eq_refl; eq_refl; decide; exact rfl; k_asm; k_mem; k_asm; k_whole) | (apply Mine.name_loc; eq_refl; eq_refl; decide; k_asm; wtm_at "ar"; k_whole) | (apply Mine.name_own; eq_refl; eq_refl; decide; k_asm; k_mem; k_asm; wtm_at "ar"; k_whole))))
local macro_rules | `(tactic| walk_at "loadName") => `(tactic| (k_here; k_dflt (apply Mine.load_loc; eq_refl; eq_refl; k_asm; assumption; k_whole)))
local macro_rules | `(tactic| walk_at "getItem ref int") => `(tactic| (k_here; k_dflt (apply Mine.item_L; k_asm; k_mem; assumption; wtm_at "om"; k_whole)))
local macro_rules | `(tactic| walk_at "storeName") => `(tactic| (k_here; k_dflt (apply Mine.store_let; eq_refl; eq_refl; k_asm; k_asm; k_whole; intro h' t' mm' F' N'; (try k_sweep))))
local macro_rules | `(tactic| wtm_at "per") => `(tactic| with_reducible first | exact Mine.mem_hd | exact Mine.sub_refl | exact Mine.sub_nil | ((first | refine Mine.sub_cons ?_ ?_ | refine Mine.sub_app ?_ ?_ | refine Mine.sub_tail ?_ | apply Mine.mem_tl) <;> wtm_at "per") | ((first | refine Mine.sub_l ?_ | apply Mine.mem_l); wtm_at "per") | ((first | refine Mine.sub_r ?_ | apply Mine.mem_r); wtm_at "per"))
section
open PySem PySem.W PyProof.Rows PySem.Calls PySem.Spec
set_option Elab.async false
set_option maxRecDepth 100000
set_option maxHeartbeats 0
namespace Mine
noncomputable def tupO (k : Str) (tk : Tok) (v : Str) (tv : Tok) (n : Nat) : Obj := { cls := .type "tuple", data := .seq #[.str k tk, .str v tv] n }
structure PairsIn (rest : Led) (vs : List Value) (kvs : List (Str × Str)) : Prop where
  len : vs.length = kvs.length
  at_ : ∀ (i : Nat) (k v : Str), kvs[i]? = some (k, v) → ∃ (t : Addr) (tk tv : Tok) (n : Nat), vs[i]? = some (Value.ref t) ∧ (t, tupO k tk v tv n) ∈ rest
theorem PairsIn.mono {r r' : Led} {vs : List Value} {kvs : List (Str × Str)} (h : PairsIn r vs kvs) (s : ∀ p ∈ r, p ∈ r') : PairsIn r' vs kvs :=
  ⟨h.len, fun i k v e => by obtain ⟨t, tk, tv, n, a, b⟩ := h.at_ i k v e; exact ⟨t, tk, tv, n, a, s _ b⟩⟩
noncomputable def IsBook (R : Led) (b l : Addr) : Prop := ∃ (dx : Addr) (hs : Int) (t : Tok) (n : Nat), (b, instObj 171 dx) ∈ R ∧ (dx, dictOf [⟨hs, .str (Str.ofString "_headers") t, .ref l⟩] n) ∈ R
theorem IsBook.mono {r r' : Led} {b l : Addr} (h : IsBook r b l) (s : ∀ p ∈ r, p ∈ r') : IsBook r' b l := by
  obtain ⟨dx, hs, t, n, h1, h2⟩ := h
  exact ⟨dx, hs, t, n, s _ h1, s _ h2⟩
theorem tl3 {α : Type} {a b c : α} {R : List α} : ∀ p ∈ R, p ∈ a :: b :: c :: R := fun _ h => .tail _ (.tail _ (.tail _ h))
noncomputable abbrev bookL (b dx l : Addr) (hs : Int) (t : Tok) (n : Nat) (vs : List Value) (k : Nat) : Led := [(b, instObj 171 dx), (dx, dictOf [⟨hs, .str (Str.ofString "_headers") t, .ref l⟩] n), (l, listOf vs.toArray k)]
noncomputable def hget (kvs : List (Str × Str)) (y : Str) : Option Str := (kvs.find? fun kv => Txt.lower kv.1 == y).map (·.2)
noncomputable def VStr (v : Value) : Option Str → Prop
  | some y => ∃ t, v = .str y t
  | none => v = .none
theorem hget_at {kvs : List (Str × Str)} {y k v : Str} {i : Nat} (h : ∀ j kv, j < i → kvs[j]? = some kv → (Txt.lower kv.1 == y) = false) (hi : kvs[i]? = some (k, v)) (e : (Txt.lower k == y) = true) : hget kvs y = some v := by
  unfold hget
  induction kvs generalizing i with
  | nil => simp at hi
  | cons a r ih =>
    cases i with
    | zero =>
      simp at hi; subst hi
      rw [List.find?_cons_of_pos (by exact e)]; rfl
    | succ i =>
      have h0 := h 0 a (by lia) rfl
      rw [List.find?_cons_of_neg (by rw [h0]; exact Bool.false_ne_true)]
      exact ih (i := i) (fun j kv hj hk => h (j + 1) kv (by lia) (by simpa using hk)) (by simpa using hi)
theorem hget_none {kvs : List (Str × Str)} {y : Str} (h : ∀ j kv, j < kvs.length → kvs[j]? = some kv → (Txt.lower kv.1 == y) = false) : hget kvs y = none := by
  unfold hget
  rw [List.find?_eq_none.mpr]
  · rfl
  · intro kv hkv
    obtain ⟨j, hj, e⟩ := List.getElem_of_mem hkv
    have := h j kv hj (by rw [List.getElem?_eq_getElem hj, e])
    rw [this]; exact Bool.false_ne_true
theorem news_drop {h₀ h : Heap} {L : Addr} {news : Led} {q : Addr × Obj} (N : News h₀ L h (q :: news)) : News h₀ L h news := fun p hp => N p (List.mem_cons_of_mem _ hp)
end Mine
namespace Mine
section
variable {w : World} {p : Program} {loose : List Str} {mean : ExcName → Option Value} {mg mb : Str → Option Value} {news : Led}
theorem c_get {b l : Addr} {vs : List Value} {k : Nat} {R : Led} {kvs : List (Str × Str)} {x : Str} {t1 : Tok} (B : IsBook R b l) (ml : (l, listOf vs.toArray k) ∈ R) (P : PairsIn R vs kvs) (ok : okStr (Txt.lower x)) (hx : (Txt.lower x).length < 2 ^ 20) (hx' : x.length < 2 ^ 20)
    (hl : ∀ kv ∈ kvs, (Txt.lower kv.1).length < 2 ^ 20 ∧ kv.1.length < 2 ^ 20) :
    Mine.Claim w p loose mean mg mb 118 [.ref b, .str x t1] [] R 3 20 (fun v n' => VStr v (hget kvs (Txt.lower x)) ∧ n' = R) := by
  obtain ⟨dx, hs, t, n, mb1, md1⟩ := B
  wtm_at "mIN"
  rename News _ _ _ _ => N1
  have N1 := news_more (news_more (news_more N1 ml) (.tail _ md1)) (.tail _ (.tail _ mb1))
  ((repeat' ((fail_if_success (with_reducible show wpAny _ _ (callWith _ _ _ _ (backToKw _ _)) ..)); wtm_at "mNOLOOP"; wtm_at "mSTEQ")); refine callWith_KW (by k_asm) (by k_is) (by exact rfl) ?_; k_whole; wtm_at "mQ")
  ((k_here; k_dflt (refine' Mine.c_conv ?okz3 ?hxz3 _ _ _ _ _ _ _ _ _ _ _ _ _ _ _ _ _ ?k1z3 ?k2z3 ?k3z3 ?k4z3 ?k5z3 ?kKz3 ?kdz3 ?kuz3 ?kRz3; (case k1z3 => k_asm); (case k2z3 => k_asm); (case k3z3 => k_asm); (case k4z3 => k_asm); (case k5z3 => k_asm); (case kKz3 => first | exact rfl | assumption); (case kdz3 => wtm_at "mRM"); (case kuz3 => wtm_at "mRU"))); (case okz3 => assumption); (case hxz3 => first | assumption | omega); refine Mine.out0 ?_; intro h9 tk9 F9 N9; (try dsimp only); (try k_fold))
  wtm_at "mQ"
  refine wpAny_For ?_
  wtm_at "mQ"
  rename Fr _ _ _ _ => F1
  rename News _ _ _ _ => N2
  refine for_KR (src_list N2 (by k_mem) rfl rfl) F1 N2 (fun i mm nn => nn = _ ∧ mm (Str.ofString "name") = some (.str (Txt.lower x) _) ∧ mm (Str.ofString "default") = some .none ∧ ∀ j kv, j < i → kvs[j]? = some kv → (Txt.lower kv.1 == Txt.lower x) = false) ⟨rfl, rfl, rfl, fun j kv hj => absurd hj (Nat.not_lt_zero j)⟩ ?_ ?_
  · intro E' K I it i v m' news' h' tk' hi0 hv hmem hoff F3 N3 hn hr hJ
    obtain ⟨⟨kk, vv⟩, hkv⟩ : ∃ kv, kvs[i]? = some kv := ⟨_, List.getElem?_eq_getElem (P.len ▸ hi0)⟩
    (first | (with_reducible show wpAny _ _ _ _ _ _; generalize hGoal1 : wpAny _ _ _ _ _ _ = Goal1) | (dsimp only; with_reducible show wpAny _ _ _ _ _ _; generalize hGoal1 : wpAny _ _ _ _ _ _ = Goal1) | (generalize hGoal1 : True = Goal1))
    obtain ⟨rfl, hm1, hm2, hno⟩ := hJ
    obtain ⟨tt, tk1, tv1, n1, hv', hmt⟩ := P.at_ i kk vv hkv
    obtain rfl : Value.ref tt = v := Option.some.inj (hv'.symm.trans hv)
    subst hGoal1
    have hlk := hl _ (List.mem_of_getElem? hkv)
    have N4 := news_more N3 (q := (tt, tupO kk tk1 vv tv1 n1)) (List.mem_cons_of_mem _ (List.mem_cons_of_mem _ (List.mem_cons_of_mem _ (List.mem_cons_of_mem _ hmt))))
    refine assign_tup F3 N4 ⟨_, (N4 _ (List.mem_cons_self ..)).1, rfl, _, rfl⟩ rfl rfl (fun h5 F5 N5 => ?_)
    clear N4 F3
    wtm_at "mQ"
    · refine hr _ _ ?_
      dsimp only
      wtm_at "mQ"
      refine' hret _ _ _ _ ⟨?q1, rfl⟩ ?rF ?rN
      case rN => exact news_sub (by k_asm) (fun p hp => .tail _ (.tail _ (tl3 p hp)))
      case rF => k_asm
      case q1 => rw [hget_at hno hkv (by assumption)]; exact ⟨_, rfl⟩
    · rename Fr _ _ _ _ => F7
      rename News _ _ _ _ => N7
      show K .next _
      refine hn _ _ _ _ ?_ hmem F7 (news_drop N7) hoff
      refine ⟨rfl, hm1, hm2, fun j kv hj hk => ?_⟩
      rcases Nat.lt_succ_iff_lt_or_eq.mp hj with hj | rfl
      · exact hno j kv hj hk
      · rw [hkv] at hk; cases hk; assumption
  · intro E' m' news' h' tk' hJ hmem F3 N3
    (first | (with_reducible show wpAny _ _ _ _ _ _; generalize hGoal2 : wpAny _ _ _ _ _ _ = Goal2) | (dsimp only; with_reducible show wpAny _ _ _ _ _ _; generalize hGoal2 : wpAny _ _ _ _ _ _ = Goal2) | (generalize hGoal2 : True = Goal2))
    obtain ⟨rfl, hm1, hm2, hno⟩ := hJ
    subst hGoal2
    wtm_at "mQ"
    refine' hret _ _ _ _ ⟨?q2, rfl⟩ ?rF ?rN
    case rN => exact news_sub (by k_asm) tl3
    case rF => k_asm
    case q2 => rw [hget_none (by rw [← P.len]; exact hno)]; rfl
end
end Mine
end
section
open PySem PySem.W PyProof.Rows PySem.Calls PySem.Spec
set_option Elab.async false
set_option maxRecDepth 100000
set_option maxHeartbeats 0
namespace Mine
theorem lt_of_all {d : Nat} : ∀ {l : Led}, AllLt d l → ∀ p ∈ l, p.1 < d
  | [], _, _, hp => nomatch hp
  | _ :: _, h, p, hp => by
    rcases List.mem_cons.mp hp with rfl | hp
    · exact h.1
    · exact lt_of_all h.2 p hp
theorem book_lt {b dx l D : Addr} {hs : Int} {t : Tok} {n : Nat} {vs : List Value} {k : Nat} {rest : Led} (h : @LT.lt Nat _ b D ∧ @LT.lt Nat _ dx D ∧ @LT.lt Nat _ l D ∧ AllLt D rest) : ∀ p ∈ bookL b dx l hs t n vs k ++ rest, p.1 < D := by
  intro p hp
  simp only [bookL, List.cons_append, List.nil_append, List.mem_cons] at hp
  obtain ⟨h1, h2, h3, h4⟩ := h
  rcases hp with rfl | rfl | rfl | h
  · exact h1
  · exact h2
  · exact h3
  · exact lt_of_all h4 p h
section
variable {w : World} {p : Program} {loose : List Str} {mean : ExcName → Option Value} {mg mb : Str → Option Value} {news : Led}
theorem c_setdefault {b l : Addr} {vs : List Value} {k : Nat} {R : Led} {kvs : List (Str × Str)} {x y : Str} {t1 t2 : Tok} (B : IsBook R b l) (P : PairsIn R vs kvs) (ok : okStr (Txt.lower x)) (hx : (Txt.lower x).length < 2 ^ 20) (hx' : x.length < 2 ^ 20)
    (okx : okStr x) (oky : okStr y) (hy : y.length < 2 ^ 20) (hl : ∀ kv ∈ kvs, (Txt.lower kv.1).length < 2 ^ 20 ∧ kv.1.length < 2 ^ 20) (hlen : vs.length < 1000) (hoff : ∀ p ∈ R, p.1 ≠ l) :
    Mine.Claim w p loose mean mg mb 161 [.ref b, .str x t1, .str y t2] [] ((l, listOf vs.toArray k) :: R) 5 40 (fun v n' => (∃ val tv, hget kvs (Txt.lower x) = some val ∧ v = .str val tv ∧ n' = (l, listOf vs.toArray k) :: R) ∨
      (hget kvs (Txt.lower x) = none ∧ v = .str y t2 ∧ ∃ tt, (∀ p ∈ (l, listOf vs.toArray k) :: R, p.1 < tt) ∧ n' = (l, listOf (vs ++ [Value.ref tt]).toArray (k + 1)) :: (tt, tupO x t1 y t2 0) :: R)) := by
  obtain ⟨dx, hs, t, n, mb1, md1⟩ := B
  have hbl : @Ne Nat b l := hoff _ mb1
  have hdl : @Ne Nat dx l := hoff _ md1
  wtm_at "mIN"
  rename News _ _ _ _ => N1
  have N1 := news_more (news_more N1 (.tail _ md1)) (.tail _ (.tail _ mb1))
  wtm_at "mQ"
  (k_here; k_dflt (refine' Mine.c_get ⟨dx, hs, t, n, .head _, .tail _ (.head _)⟩ (.tail _ (.tail _ (.head _))) (P.mono tl3) ok hx hx' hl _ _ _ _ _ _ _ _ _ _ _ _ _ _ _ _ _ ?k1z7 ?k2z7 ?k3z7 ?k4z7 ?k5z7 ?kKz7 ?kdz7 ?kuz7 ?kRz7; (case k1z7 => k_asm); (case k2z7 => k_asm); (case k3z7 => k_asm); (case k4z7 => k_asm); (case k5z7 => k_asm); (case kKz7 => first | exact rfl | assumption); (case kdz7 => wtm_at "mRM"); (case kuz7 => wtm_at "mRU")))
  intro v9 n9 h9 tk9 hp9 F9 N9
  (first | (with_reducible show wpAny _ _ _ _ _ _; generalize hGoal4 : wpAny _ _ _ _ _ _ = Goal4) | (dsimp only; with_reducible show wpAny _ _ _ _ _ _; generalize hGoal4 : wpAny _ _ _ _ _ _ = Goal4) | (generalize hGoal4 : True = Goal4))
  obtain ⟨hv9, rfl⟩ := hp9
  subst hGoal4
  try dsimp only
  try k_fold
  cases hh : hget kvs (Txt.lower x) with
  | none =>
    rw [hh] at hv9
    dsimp only [VStr] at hv9
    subst hv9
    ((repeat' ((fail_if_success (with_reducible show wpAny _ _ (callWith _ _ _ _ (backToKw _ _)) ..)); wtm_at "mNOLOOP"; wtm_at "mSTEQ")); refine callWith_KW (by k_asm) (by k_is) (by exact rfl) ?_; k_whole; wtm_at "mQ")
    ((k_here; k_dflt (refine' Mine.c_conv ?okz5 ?hxz5 _ _ _ _ _ _ _ _ _ _ _ _ _ _ _ _ _ ?k1z5 ?k2z5 ?k3z5 ?k4z5 ?k5z5 ?kKz5 ?kdz5 ?kuz5 ?kRz5; (case k1z5 => k_asm); (case k2z5 => k_asm); (case k3z5 => k_asm); (case k4z5 => k_asm); (case k5z5 => k_asm); (case kKz5 => first | exact rfl | assumption); (case kdz5 => wtm_at "mRM"); (case kuz5 => wtm_at "mRU"))); (case okz5 => assumption); (case hxz5 => first | assumption | omega); refine Mine.out0 ?_; intro h9 tk9 F9 N9; (try dsimp only); (try k_fold))
    ((repeat' ((fail_if_success (with_reducible show wpAny _ _ (callWith _ _ _ _ (backToKw _ _)) ..)); wtm_at "mNOLOOP"; wtm_at "mSTEQ")); refine callWith_KW (by k_asm) (by k_is) (by exact rfl) ?_; k_whole; wtm_at "mQ")
    ((k_here; k_dflt (refine' Mine.c_conv ?okz6 ?hxz6 _ _ _ _ _ _ _ _ _ _ _ _ _ _ _ _ _ ?k1z6 ?k2z6 ?k3z6 ?k4z6 ?k5z6 ?kKz6 ?kdz6 ?kuz6 ?kRz6; (case k1z6 => k_asm); (case k2z6 => k_asm); (case k3z6 => k_asm); (case k4z6 => k_asm); (case k5z6 => k_asm); (case kKz6 => first | exact rfl | assumption); (case kdz6 => wtm_at "mRM"); (case kuz6 => wtm_at "mRU"))); (case okz6 => assumption); (case hxz6 => first | assumption | omega); refine Mine.out0 ?_; intro h9 tk9 F9 N9; (try dsimp only); (try k_fold))
    wtm_at "mQ"
    rename _ ∧ _ ∧ _ ∧ AllLt _ _ => hlt
    refine' hret _ _ _ _ (.inr ⟨hh, rfl, _, ?lt, rfl⟩) ?q2 ?q3
    case lt =>
      intro p hp
      rcases List.mem_cons.mp hp with rfl | hp
      · exact hlt.2.2.1
      · exact lt_of_all hlt.2.2.2 p hp
    case q2 => k_asm
    case q3 =>
      rename News h₀ L _ _ => N6
      intro p hp
      refine N6 p ?_
      rw [List.push_toArray]
      simp only [List.mem_cons] at hp ⊢
      dsimp only [tupO] at hp
      rcases hp with h | h | h <;> simp only [h, eq_self, true_or, or_true]
  | some val =>
    rw [hh] at hv9
    obtain ⟨tv, rfl⟩ := hv9
    wtm_at "mQ"
    refine' hret _ _ _ _ (.inl ⟨_, _, hh, rfl, rfl⟩) ?q4 ?q5
    case q5 => exact news_sub (by k_asm) (fun p hp => .tail _ (.tail _ hp))
    case q4 => k_asm
end
end Mine
end
section
open PySem PySem.W PyProof.Rows PySem.Calls PySem.Spec
set_option Elab.async false
set_option maxRecDepth 100000
set_option maxHeartbeats 0
namespace Mine
theorem str_getitem_at : typeLookup (.type "str") "__getitem__" = pure (some (.builtin "str.__getitem__")) := by rw [typeLookup_type, builtinLookup_eq_fast]; kernel_rfl
theorem gi_slot : builtinKind "str.__getitem__" = some .slot := by decide +kernel
theorem wd_get : typeLookup (.type "wrapper_descriptor") "__get__" = pure (some (.builtin "wrapper_descriptor.__get__")) := by rw [typeLookup_type, builtinLookup_eq_fast]; kernel_rfl
theorem wd_set : typeLookup (.type "wrapper_descriptor") "__set__" = pure none := by rw [typeLookup_type, builtinLookup_eq_fast]; kernel_rfl
theorem wd_del : typeLookup (.type "wrapper_descriptor") "__delete__" = pure none := by rw [typeLookup_type, builtinLookup_eq_fast]; kernel_rfl
theorem gi_type : specialOf (.builtin "str.__getitem__") "__get__" = pure (some (.builtin "wrapper_descriptor.__get__")) := by
  show typeLookup (.type (match builtinKind "str.__getitem__" with
        | some Manifest.AttrKind.method => "method_descriptor"
        | some Manifest.AttrKind.slot => "wrapper_descriptor"
        | some Manifest.AttrKind.classMethod => "classmethod_descriptor"
        | some Manifest.AttrKind.getset => "getset_descriptor"
        | some Manifest.AttrKind.member => "member_descriptor"
        | x => "builtin_function_or_method")) _ = _
  rw [gi_slot]; exact wd_get
theorem gi_takes : Builtin.ObjectAttr.takesStores (.builtin "str.__getitem__") = pure false := by
  have e : ∀ n, specialOf (.builtin "str.__getitem__") n = typeLookup (.type "wrapper_descriptor") n := fun n => by
    show typeLookup (.type (match builtinKind "str.__getitem__" with
        | some Manifest.AttrKind.method => "method_descriptor"
        | some Manifest.AttrKind.slot => "wrapper_descriptor"
        | some Manifest.AttrKind.classMethod => "classmethod_descriptor"
        | some Manifest.AttrKind.getset => "getset_descriptor"
        | some Manifest.AttrKind.member => "member_descriptor"
        | x => "builtin_function_or_method")) _ = _
    rw [gi_slot]
  unfold Builtin.ObjectAttr.takesStores
  simp only [e]
  rw [wd_set, wd_del]
  rfl
section
variable {prog : Program} {w : World} {A : Around} {E : Value → Shared → Prop} {s : Shared}
theorem gi_find {x : Str} {t : Tok} {Q : Builtin.ObjectAttr.Found → Shared → Prop} (h : Q (.bind (.builtin "wrapper_descriptor.__get__") (.builtin "str.__getitem__")) s) :
    wpAny (model prog w) A (Builtin.ObjectAttr.find (.str x t) (.type "str") (Str.ofString "__getitem__")) Q E s := by
  unfold Builtin.ObjectAttr.find Builtin.ObjectAttr.getOf Builtin.ObjectAttr.dataDescriptor?
  (first | with_reducible refine wpAny_bind (wpAny_of_eq str_getitem_at ?_) | refine wpAny_bind (wpAny_of_eq str_getitem_at ?_))
  (first | with_reducible refine wpAny_bind (wpAny_of_eq gi_type ?_) | refine wpAny_bind (wpAny_of_eq gi_type ?_))
  (first | with_reducible refine wpAny_bind (wpAny_bind (wpAny_of_eq gi_takes ?_)) | refine wpAny_bind (wpAny_bind (wpAny_of_eq gi_takes ?_)))
  (first | with_reducible refine wpAny_pure ?_ | refine wpAny_pure ?_)
  dsimp only
  unfold Builtin.ObjectAttr.ownThenClass Builtin.ObjectAttr.inOwnDict Builtin.ObjectAttr.copiedAttributeGuard Builtin.ObjectAttr.byTheClass
  (first | with_reducible refine wpAny_bind (wpAny_pure (wpAny_bind (wpAny_pure (wpAny_bind ?_)))) | refine wpAny_bind (wpAny_pure (wpAny_bind (wpAny_pure (wpAny_bind ?_)))))
  wp_step
  exact wpAny_pure h
theorem slot_call {T : String} {name : Str} {id : String} {B : Builtin} {self : Value} {rest : List Value} {Q : Value → Shared → Prop} (slot : Slot T name id) (hT : s.TypeIs self T)
    (entry : entryFor table id = some B) (args : argsOk id ⟨self :: rest, []⟩) (hc : wpAny (model prog w) A.in1 (B ⟨self :: rest, []⟩) (fun fin s' => ∃ v, fin = .done (.ret v) ∧ Q v s') E s) :
    wpAny (model prog w) A (call (.builtin id) (self :: rest)) Q E s := by
  (first | with_reducible refine wpAny_call (codeAny_call_builtin slot.plain entry ?_) | refine wpAny_call (codeAny_call_builtin slot.plain entry ?_))
  have hfin := wpAny_mono hc (Q' := fun fin s' => match fin with
      | .done f => (match (Except.ok f : Result) with | .ok (.ret v) => Q v s' | .ok _ => False | .error e => E e s')
      | .again c' => c'.quiet = true ∧ codeAny (model prog w) A c' (fun r s' => match r with | .ok (.ret v) => Q v s' | .ok _ => False | .error e => E e s') s')
    (fun fin s' h' => by obtain ⟨v, rfl, hv⟩ := h'; exact hv) fun _ _ h' => h'
  exact slot.check _ _ _ _ _ _ _ _ hT args hfin
theorem wd_slot : Slot "wrapper_descriptor" "__get__" "wrapper_descriptor.__get__" := .of (owner := "wrapper_descriptor") (n := "__get__") wd_get (by decide +kernel) (by decide +kernel) (by decide +kernel)
  (by first | exact .inl (by decide +kernel) | exact .inr (by decide +kernel)) (by rw [isSubtype_type]; kernel_rfl)
theorem wd_entry : entryFor table "wrapper_descriptor.__get__" = some Builtin.«wrapper_descriptor.__get__» := entryFor_of_tree (by kernel_rfl)
theorem gi_sub : isSubtype (.type "str") (.type (".".intercalate ("str.__getitem__".cutAt '.').dropLast)) = pure true := by rw [isSubtype_type]; kernel_rfl
theorem gi_tid {s : Shared} : s.TypeIs (.builtin "str.__getitem__") "wrapper_descriptor" := by
  show builtinType "str.__getitem__" = _
  kernel_rfl
theorem wd_args (a b c : Value) : argsOk "wrapper_descriptor.__get__" ⟨[a, b, c], []⟩ := by unfold argsOk; kernel_rfl
theorem gi_bind {x : Str} {t : Tok} {Q : Fin → Shared → Prop} (h : ∀ o, o.isFreed = false → Q (.done (.ret (.ref s.heap.objs.size))) { s with heap := s.heap.push o }) :
    wpAny (model prog w) A (Builtin.ObjectAttr.bindTo (.builtin "wrapper_descriptor.__get__") (.builtin "str.__getitem__") (.str x t) (.type "str")) Q E s := by
  unfold Builtin.ObjectAttr.bindTo
  dsimp only
  (first | with_reducible refine wpAny_bind ?_ | refine wpAny_bind ?_)
  (first | with_reducible refine wpAny_holding ?_ | refine wpAny_holding ?_)
  refine slot_call wd_slot ?_ wd_entry (wd_args _ _ _) ?_
  · show Shared.TypeIs s (.builtin "str.__getitem__") "wrapper_descriptor"
    exact gi_tid
  unfold Builtin.«wrapper_descriptor.__get__»
  repeat (any_goals (first | assumption | wp_step))
  (first | with_reducible refine wpAny_of_eq gi_sub ?_ | refine wpAny_of_eq gi_sub ?_)
  repeat (any_goals (first | assumption | wp_step))
  exact ⟨_, rfl, wpAny_pure (h _ rfl)⟩
theorem gi_ga {x : Str} {t u : Tok} {Q : Fin → Shared → Prop} (h : ∀ o, o.isFreed = false → Q (.done (.ret (.ref s.heap.objs.size))) { s with heap := s.heap.push o }) :
    wpAny (model prog w) A (Builtin.«object.__getattribute__» ⟨[.str x t, .str (Str.ofString "__getitem__") u], []⟩) Q E s := by
  unfold Builtin.«object.__getattribute__»
  (first | with_reducible refine wpAny_bind (wpAny_of_eq (a := ((Value.str x t, [Value.str (Str.ofString "__getitem__") u]) : Value × List Value)) ?e ?_) | refine wpAny_bind (wpAny_of_eq (a := ((Value.str x t, [Value.str (Str.ofString "__getitem__") u]) : Value × List Value)) ?e ?_)); (case e => first | rfl | kernel_rfl)
  dsimp only
  (first | with_reducible refine wpAny_bind (wpAny_of_eq (a := Str.ofString "__getitem__") ?e ?_) | refine wpAny_bind (wpAny_of_eq (a := Str.ofString "__getitem__") ?e ?_)); (case e => first | rfl | kernel_rfl)
  (first | with_reducible refine wpAny_bind (wpAny_of_eq (a := .type "str") ?e ?_) | refine wpAny_bind (wpAny_of_eq (a := .type "str") ?e ?_)); (case e => first | rfl | kernel_rfl)
  (first | with_reducible refine wpAny_bind (gi_find ?_) | refine wpAny_bind (gi_find ?_))
  exact gi_bind h
theorem gi_attr {x : Str} {t u : Tok} {Q : Option Value → Shared → Prop} (h : ∀ o, o.isFreed = false → Q (some (.ref s.heap.objs.size)) { s with heap := s.heap.push o }) :
    wpAny (model prog w) A (getAttrBy? (.str x t) (.str (Str.ofString "__getitem__") u)) Q E s := by
  have f3 := F.slot_str_getattribute.lookup
  have f4 := F.slot_str_getattribute.bind (.str x t)
  unfold getAttrBy? getAttrBy
  (first | with_reducible refine wpAny_bind (wpAny_attempt ?_) | refine wpAny_bind (wpAny_attempt ?_))
  (first | with_reducible refine wpAny_holding ?_ | refine wpAny_holding ?_)
  (first | with_reducible refine wpAny_bind (wpAny_of_eq (a := Value.type "str") ?e ?_) | refine wpAny_bind (wpAny_of_eq (a := Value.type "str") ?e ?_)); (case e => first | rfl | kernel_rfl)
  (first | with_reducible refine wpAny_bind (wpAny_of_eq f3 ?_) | refine wpAny_bind (wpAny_of_eq f3 ?_))
  dsimp only
  show wpAny _ _ (getAttrByItsOwn _ _ _ _ _ _) _ _ _
  unfold getAttrByItsOwn
  (first | with_reducible refine wpAny_bind (wpAny_of_eq (a := none) ?e ?_) | refine wpAny_bind (wpAny_of_eq (a := none) ?e ?_)); (case e => first | rfl | kernel_rfl)
  (first | with_reducible refine wpAny_bind (wpAny_attempt ?_) | refine wpAny_bind (wpAny_attempt ?_))
  (first | with_reducible refine wpAny_holding ?_ | refine wpAny_holding ?_)
  show wpAny _ _ (boundAndCalled _ _ _) _ _ _
  unfold boundAndCalled
  (first | with_reducible refine wpAny_bind (wpAny_of_eq f4 ?_) | refine wpAny_bind (wpAny_of_eq f4 ?_))
  refine slot_call F.slot_str_getattribute (by exact rfl) F.entry_object_getattribute (F.args_object_getattribute_2 _ _) (gi_ga ?_)
  intro o ho
  refine ⟨_, rfl, ?_⟩
  (first | with_reducible refine wpAny_of_eq (a := Value.ref s.heap.objs.size) rfl ?_ | refine wpAny_of_eq (a := Value.ref s.heap.objs.size) rfl ?_)
  exact wpAny_pure (h o ho)
end
end Mine
end
section
open PySem PySem.W PyProof.Rows PySem.Calls PySem.Spec
set_option Elab.async false
set_option maxRecDepth 100000
set_option maxHeartbeats 0
namespace Mine
theorem wpAny_ite_false {α : Type} {M : Model} {A : Around} {Q : α → Shared → Prop} {E : Value → Shared → Prop} {s : Shared} {c : Bool} {a b : Sem α} (hc : c = false) (h : wpAny M A b Q E s) : wpAny M A (if c = true then a else b) Q E s := by rw [hc]; exact h
section
variable {prog : Program} {w : World} {A : Around} {E : Value → Shared → Prop} {s : Shared}
theorem ha_kind : builtinKind "hasattr" = none := by decide +kernel
theorem ha_plain : plainId "hasattr" = true := by decide +kernel
theorem ha_entry : entryFor table "hasattr" = some Builtin.«hasattr» := entryFor_of_tree (by kernel_rfl)
theorem ha_args (a b : Value) : argsOk "hasattr" ⟨[a, b], []⟩ := by unfold argsOk; kernel_rfl
theorem has_getitem {x : Str} {t u : Tok} {Q : Value → Shared → Prop} (hA : A.handled = none) (h : ∀ o, o.isFreed = false → Q (.bool true) { s with heap := s.heap.push o }) :
    wpAny (model prog w) A (call (.builtin "hasattr") [.str x t, .str (Str.ofString "__getitem__") u]) Q E s := by
  refine Calls.call_function_entry ha_kind ha_plain ha_entry (ha_args _ _) ?_
  unfold Builtin.«hasattr»
  (first | with_reducible refine wpAny_bind (wpAny_of_eq (a := [Value.str x t, Value.str (Str.ofString "__getitem__") u]) ?e ?_) | refine wpAny_bind (wpAny_of_eq (a := [Value.str x t, Value.str (Str.ofString "__getitem__") u]) ?e ?_)); (case e => first | rfl | kernel_rfl)
  dsimp only
  (first | with_reducible refine wpAny_bind (wpAny_of_eq (a := ()) ?e ?_) | refine wpAny_bind (wpAny_of_eq (a := ()) ?e ?_)); (case e => first | rfl | kernel_rfl)
  (first | with_reducible refine wpAny_bind (wpAny_of_eq (a := Value.type "str") ?e ?_) | refine wpAny_bind (wpAny_of_eq (a := Value.type "str") ?e ?_)); (case e => first | rfl | kernel_rfl)
  (first | with_reducible refine wpAny_bind (wpAny_of_eq (a := some (Str.ofString "__getitem__")) ?e ?_) | refine wpAny_bind (wpAny_of_eq (a := some (Str.ofString "__getitem__")) ?e ?_)); (case e => first | rfl | kernel_rfl)
  dsimp only
  (first | with_reducible refine wpAny_bind (wpAny_of_eq str_getitem_at ?_) | refine wpAny_bind (wpAny_of_eq str_getitem_at ?_))
  dsimp only
  (first | with_reducible refine wpAny_bind (wpAny_of_eq F.slot_str_getattribute.lookup ?_) | refine wpAny_bind (wpAny_of_eq F.slot_str_getattribute.lookup ?_))
  refine wpAny_ite_false (by decide +kernel) ?_
  (first | with_reducible refine wpAny_bind (wpAny_of_eq (a := 0) ?e ?_) | refine wpAny_bind (wpAny_of_eq (a := 0) ?e ?_)); (case e => first | rfl | kernel_rfl)
  refine wpAny_ite_false (by decide +kernel) ?_
  (first | with_reducible refine wpAny_bind (gi_attr fun o ho => ?_) | refine wpAny_bind (gi_attr fun o ho => ?_))
  exact wpAny_pure ⟨_, rfl, h o ho⟩
end
end Mine
end
section
open PySem PySem.W PyProof.Rows PySem.Calls PySem.Spec
set_option Elab.async false
set_option maxRecDepth 100000
set_option maxHeartbeats 0
namespace Mine
section
variable {w : World} {p : Program} {loose : List Str} {mean : ExcName → Option Value} {mg mb : Str → Option Value} {news : Led}
theorem c_eq {a b : Int} {t1 t2 : Tok} : Mine.Claim w p loose mean mg mb 239 [.int a t1, .int b t2] [] news 1 8 (fun v n' => v = .bool (a == b) ∧ n' = news) := by
  wtm_at "mIN"
  wtm_at "mQ"
  (refine' hret _ _ _ _ (⟨rfl, rfl⟩) ?rFz8 ?rNz8; (case rNz8 => k_asm); (case rFz8 => k_asm))
theorem c_and {a b : Int} {t1 t2 : Tok} : Mine.Claim w p loose mean mg mb 246 [.int a t1, .int b t2] [] news 1 8 (fun v n' => (∃ t, v = .int (Builtin.bitAnd a b) t) ∧ n' = news) := by
  wtm_at "mIN"
  wtm_at "mQ"
  (refine' hret _ _ _ _ (⟨⟨_, rfl⟩, rfl⟩) ?rFz9 ?rNz9; (case rNz9 => k_asm); (case rFz9 => k_asm))
theorem c_or {a b : Int} {t1 t2 : Tok} : Mine.Claim w p loose mean mg mb 260 [.int a t1, .int b t2] [] news 1 8 (fun v n' => (∃ t, v = .int (Builtin.bitOr a b) t) ∧ n' = news) := by
  wtm_at "mIN"
  wtm_at "mQ"
  (refine' hret _ _ _ _ (⟨⟨_, rfl⟩, rfl⟩) ?rFz10 ?rNz10; (case rNz10 => k_asm); (case rFz10 => k_asm))
theorem c_lsh {a : Int} {b : Nat} {t1 t2 : Tok} (h1 : b ≤ 64) (h2 : 0 ≤ a) (h3 : a ≤ 8) : Mine.Claim w p loose mean mg mb 253 [.int a t1, .int (b : Int) t2] [] news 1 8 (fun v n' => (∃ t, v = .int (a * 2 ^ b) t) ∧ n' = news) := by
  wtm_at "mIN"
  wtm_at "mQ"
  (refine' hret _ _ _ _ (⟨⟨_, rfl⟩, rfl⟩) ?rFz11 ?rNz11; (case rNz11 => k_asm); (case rFz11 => k_asm))
theorem c_cat {a b : Str} {t1 t2 : Tok} (h1 : a.length ≤ 1000) (h2 : b.length ≤ 1000) : Mine.Claim w p loose mean mg mb 267 [.str a t1, .str b t2] [] news 1 8 (fun v n' => (∃ t, v = .str (a ++ b) t) ∧ n' = news) := by
  wtm_at "mIN"
  wtm_at "mQ"
  rename Fr _ _ _ _ => F1
  rename News _ _ _ _ => N1
  refine has_getitem rfl (fun o ho => ?_)
  have N2 := news_drop (N1.push F1 o ho)
  have F2 := F1.push o
  clear N1 F1
  dsimp only
  wtm_at "mQ"
  (refine' hret _ _ _ _ (⟨⟨_, rfl⟩, rfl⟩) ?rFz12 ?rNz12; (case rNz12 => k_asm); (case rFz12 => k_asm))
theorem pick_all (vs : List Value) : slicePick vs.toArray none none none = vs.toArray := by
  rw [kmk_pick_nat (a := 0) (b := vs.length)]
  · simp
  · simp only [List.size_toArray]; rfl
theorem c_items {b l : Addr} {vs : List Value} {k : Nat} {R : Led} (B : IsBook R b l) (ml : (l, listOf vs.toArray k) ∈ R) (hlen : vs.length < 1000) :
    Mine.Claim w p loose mean mg mb 135 [.ref b] [] R 3 20 (fun v n' => ∃ q, v = .ref q ∧ (∀ p ∈ R, p.1 < q) ∧ n' = (q, listOf vs.toArray 0) :: R) := by
  obtain ⟨dx, hs, t, n, mb1, md1⟩ := B
  wtm_at "mIN"
  rename News _ _ _ _ => N1
  have N0 := N1
  have N1 := news_more (news_more (news_more N1 ml) (.tail _ md1)) (.tail _ (.tail _ mb1))
  wtm_at "mQ"
  rename News h₀ L _ _ => N2
  refine' hret _ _ _ _ ⟨_, rfl, fun p hp => ?_, rfl⟩ ?rF ?rN
  case rF => k_asm
  case rN => rw [pick_all] at N2; exact news_sub N2 (fun p hp => by
    rcases List.mem_cons.mp hp with rfl | hp
    · exact .head _
    · exact .tail _ (tl3 p hp))
  exact Nat.lt_succ_of_lt (Heap.lt_size (N0 p hp).1)
noncomputable def written (x : Str) (j : Nat) : Str := match j with
  | 0 => x ++ Str.ofString " "
  | 1 => Str.ofString "\"" ++ (Txt.slice x none (some (-1)) ++ Str.ofString "\\" ++ Txt.slice x (some (-1)) none) ++ Str.ofString "\""
  | _ => Str.ofString "\\" ++ (Txt.slice x none (some (-1)) ++ Str.ofString "\\" ++ Txt.slice x (some (-1)) none) ++ Str.ofString " "
theorem written_at {x : Str} {j : Nat} {a b c : Tok} (hj : j < 3) : ∃ t, ([.str (x ++ Str.ofString " ") a, .str (Str.ofString "\"" ++ (Txt.slice x none (some (-1)) ++ Str.ofString "\\" ++ Txt.slice x (some (-1)) none) ++ Str.ofString "\"") b, .str (Str.ofString "\\" ++ (Txt.slice x none (some (-1)) ++ Str.ofString "\\" ++ Txt.slice x (some (-1)) none) ++ Str.ofString " ") c] : List Value)[j]? = some (.str (written x j) t) := by
  match j, hj with
  | 0, _ => exact ⟨_, rfl⟩
  | 1, _ => exact ⟨_, rfl⟩
  | 2, _ => exact ⟨_, rfl⟩
theorem c_written {x : Str} {j : Nat} {t1 t2 : Tok} (hx : x.length ≤ 100) (hj : j < 3) : Mine.Claim w p loose mean mg mb 312 [.str x t1, .int (j : Int) t2] [] news 1 20 (fun v n' => (∃ t, v = .str (written x j) t) ∧ n' = news) := by
  have e1 : (Str.ofString "\\").length ≤ 1 := Nat.le_of_eq rfl
  have e2 : (Str.ofString " ").length ≤ 1 := Nat.le_of_eq rfl
  have e3 : (Str.ofString "\"").length ≤ 1 := Nat.le_of_eq rfl
  have q1 : (Txt.slice x none (some (-1))).length ≤ 100 := Nat.le_trans (Txt.slice_le ..) hx
  have q2 : (Txt.slice x (some (-1)) none).length ≤ 100 := Nat.le_trans (Txt.slice_le ..) hx
  have q3 := app_le q1 e1
  have q4 := app_le q3 q2
  have q5 := app_le e3 q4
  have q6 := app_le e1 q4
  wtm_at "mIN"
  (repeat' ((fail_if_success (with_reducible show wpAny _ _ (subscriptTail (Expr.List _ _) _ _ _) ..)); wtm_at "mNOLOOP"; wtm_at "mSTEQ"))
  rename News _ _ _ _ => N2
  refine itemT_L (by with_unfolding_all rfl) N2 (.head _) (Exists.choose_spec (written_at hj)) (Nat.lt_trans hj (by decide)) ?_
  wtm_at "mQ"
  rename News h₀ L _ _ => N2
  refine' hret _ _ _ _ ⟨⟨_, rfl⟩, rfl⟩ ?rF ?rN
  case rF => k_asm
  case rN => exact news_drop N2
end
end Mine
end
section
open PySem PySem.W PyProof.Rows PySem.Calls PySem.Spec
set_option Elab.async false
set_option maxRecDepth 100000
set_option maxHeartbeats 0
namespace Mine
section
variable {prog : Program} {w : World} {A : Around} {E : Value → Shared → Prop} {s : Shared} {h₀ : Heap} {L : Addr} {m : Str → Option Value} {news : Led}
theorem items_of {l : Addr} {items : Array Value} {Q : Array Value → Shared → Prop} (hl : s.heap.IsList l items) (h : Q items s) : wpAny (model prog w) A (Builtin.List.listItems (.ref l)) Q E s := by
  obtain ⟨o, ho, hc, ne, hd⟩ := hl
  unfold Builtin.List.listItems
  exact wpAny_bind (wpAny_seqItems ho hd (wpAny_pure h))
theorem set_slice {l sl D : Addr} {o : Obj} {ne : Nat} {items ys : Array Value} {Q : Unit → Shared → Prop} (ho : s.heap.get? l = some o) (hc : o.cls = .type "list") (hd : o.data = .seq items ne) (hs : s.heap.IsSliceOf sl .none .none .none) (hD : s.heap.IsList D ys) (hne : D ≠ l) (hsz : items.size + ys.size ≤ 2000)
    (h : ∀ h' f, f items = ys → h'.get? l = some (Obj.mapSeq f o) → Heap.SameBut l s.heap h' → Q () { s with heap := h' }) : wpAny (model prog w) A (setItem (.ref l) (.ref sl) (.ref D)) Q E s := by
  have hl : s.heap.IsList l items := ⟨o, ho, hc, ne, hd⟩
  obtain ⟨os, hos, hcs, hds⟩ := id hs
  have hTs : s.TypeIs (.ref sl) "slice" := ⟨os, hos, hcs⟩
  have hTD : s.TypeIs (.ref D) "list" := hD.typeIs
  unfold setItem
  try with_reducible refine wpAny_holding ?_
  first | refine wpAny_bind (wpAny_pure ?_) | skip
  refine wpAny_bind (wpAny_sequenceKey hl.typeIs (by decide) ?_)
  refine wpAny_bind (wpAny_callSpecial?_slot (name := Str.ofString "__setitem__") hl.typeIs slot_list_setitem
    (wpAny_call_entry slot_list_setitem hl.typeIs entry_list_setitem ?_ (args_list_setitem _ _ _)))
  show wpAny _ _ (Builtin.List.listSubscript? (.ref sl) >>= _) _ _ s
  refine wpAny_bind ?_
  unfold Builtin.List.listSubscript?
  refine wpAny_bind (wpAny_specialOf hTs slice_no_index ?_)
  refine wif_pos rfl ?_
  refine wpAny_pure ?_
  show wpAny _ _ (typeOf (.ref sl) >>= _) _ _ s
  refine wpAny_bind (wpAny_typeOf hTs ?_)
  first | refine wif_neg (by decide) ?_ | rw [if_neg (by decide)]
  rw [listSliceParts_eq]
  refine wpAny_bind (wpAny_bind (wpAny_field hos hds (x := .none) rfl (wpAny_bind (wpAny_listPart .none ?_))))
  first | refine wif_neg (by decide) ?_ | rw [if_neg (by decide)]
  refine wpAny_bind (wpAny_field hos hds (x := .none) rfl (wpAny_bind (wpAny_listPart .none ?_)))
  refine wpAny_bind (wpAny_field hos hds (x := .none) rfl (wpAny_bind (wpAny_listPart .none (wpAny_pure ?_))))
  dsimp only
  have hsame : Builtin.List.listSameRef (.ref l) (.ref D) = false := by
    show (l == D) = false
    exact beq_false_of_ne (Ne.symm hne)
  first | refine wif_neg (by rw [hsame]; decide) ?_ | rw [if_neg (by rw [hsame]; decide)]
  unfold Builtin.List.listAllItems
  refine wpAny_bind (wpAny_bind (wpAny_typeOf hTD ?_))
  first | refine wif_pos (by decide) ?_ | rw [if_pos (by decide)]
  refine items_of hD ?_
  refine wpAny_bind (items_of hl ?_)
  refine wpAny_bind (wpAny_of_eq (sliceIndices_raw none none none items.size (by simp)) ?_)
  have e1 : sliceBounds none none none items.size = (0, (items.size : Int), 1) := rfl
  rw [e1]
  dsimp only
  first | refine wif_pos (by decide) ?_ | rw [if_pos (by decide)]
  refine wpAny_bind (wpAny_rule ?_)
  have e2 : Builtin.List.listTooLong (items.size + ys.size) = false := by
    unfold Builtin.List.listTooLong
    exact decide_eq_false (Nat.not_lt.mpr (Nat.le_trans hsz (by decide)))
  first | refine wif_neg (by rw [e2]; decide) ?_ | rw [if_neg (by rw [e2]; decide)]
  show wpAny _ _ (updateSeq l _ >>= _) _ _ _
  have e3 : (fun xs : Array Value => xs.extract 0 (0 : Int).toNat ++ ys ++ xs.extract (max (0 : Int) (items.size : Int)).toNat xs.size) items = ys := by
    simp
  have hsl : items.size ≤ 2000 := by lia
  have hsy : ys.size ≤ 2000 := by lia
  have hfr : (Obj.mapSeq (fun xs : Array Value => xs.extract 0 (0 : Int).toNat ++ ys ++ xs.extract (max (0 : Int) (items.size : Int)).toNat xs.size) o).isFreed = false := by
    obtain ⟨n', hd'⟩ := Obj.data_mapSeq hd (fun xs : Array Value => xs.extract 0 (0 : Int).toNat ++ ys ++ xs.extract (max (0 : Int) (items.size : Int)).toNat xs.size)
    exact Obj.isFreed_of_seq hd'
  refine wpAny_bind (wpAny_updateSeq ho hd ?_ ?_ ?_)
  · refine wpAny_bind (wpAny_letGo ?_)
    exact wpAny_pure ⟨.none, rfl, wpAny_pure (h _ _ e3 (Heap.get?_update_self _ ho hfr) (Heap.SameBut.update ..))⟩
  · exact Nat.le_trans hsl (by decide)
  · rw [show items.extract 0 (0 : Int).toNat ++ ys ++ items.extract (max (0 : Int) (items.size : Int)).toNat items.size = ys from e3]; exact Nat.le_trans hsy (by decide)
theorem set_slice_L {l sl D : Addr} {vs ys : List Value} {k yk : Nat} {led : Led} {Q : Unit → Shared → Prop} (F : Fr h₀ L s.heap m) (N : News h₀ L s.heap ((D, listOf ys.toArray yk) :: (l, listOf vs.toArray k) :: led)) (hs : s.heap.IsSliceOf sl .none .none .none) (hne : D ≠ l) (hoff : ∀ p ∈ led, p.1 ≠ l) (hsz : vs.length + ys.length ≤ 2000)
    (h : ∀ h' k', Fr h₀ L h' m → News h₀ L h' ((l, listOf ys.toArray k') :: led) → Q () { s with heap := h' }) : wpAny (model prog w) A (setItem (.ref l) (.ref sl) (.ref D)) Q E s := by
  have gD := N _ (List.mem_cons_self ..)
  have gl := N _ (List.mem_cons_of_mem _ (List.mem_cons_self ..))
  refine set_slice gl.1 rfl rfl hs ⟨_, gD.1, rfl, _, rfl⟩ hne (by simpa using hsz) fun h' f hf hl' hsb => ?_
  obtain ⟨k', e⟩ : ∃ k', Obj.mapSeq f (listOf vs.toArray k) = listOf ys.toArray k' := by
    rw [← hf]; exact ⟨_, rfl⟩
  rw [e] at hl'
  refine h h' k' (F.change hsb gl.2.1 gl.2.2) fun p hp => ?_
  rcases List.mem_cons.mp hp with rfl | hp
  · exact ⟨hl', gl.2⟩
  · have q := N p (List.mem_cons_of_mem _ (List.mem_cons_of_mem _ hp))
    exact ⟨(hsb.2 p.1 (hoff p hp)).trans q.1, q.2⟩
end
end Mine
end
section
open PySem PySem.W PyProof.Rows PySem.Calls PySem.Spec
set_option Elab.async false
set_option maxRecDepth 100000
set_option maxHeartbeats 0
namespace Mine
section
variable {M : Model} {A : Around} {E : Value → Shared → Prop} {s : Shared}
theorem ifs_nil {env : Env} {Q : Bool → Shared → Prop} (h : Q true s) : wpAny M A (forIn ([] : List Expr) true fun c r => if r = true then do let ok ← isTrue c env (eval c env); pure (ForInStep.yield ok) else pure (ForInStep.yield r)) Q E s := wpAny_pure h
theorem ifs_one {c : Expr} {env : Env} {Q : Bool → Shared → Prop} (h : wpAny M A (isTrue c env (eval c env)) Q E s) : wpAny M A (forIn [c] true fun c r => if r = true then do let ok ← isTrue c env (eval c env); pure (ForInStep.yield ok) else pure (ForInStep.yield r)) Q E s := by
  simp only [List.forIn_cons, List.forIn_nil, if_true]
  refine wpAny_bind (wpAny_bind (wpAny_mono h (fun ok s' hq => wpAny_pure (wpAny_pure hq)) fun _ _ e => e))
end
section
variable {w : World} {p : Program} {loose : List Str} {mean : ExcName → Option Value} {mg mb : Str → Option Value} {news : Led}
theorem c_dget {b l : Addr} {vs : List Value} {k : Nat} {R : Led} {kvs : List (Str × Str)} {x : Str} {t1 : Tok} (B : IsBook R b l) (ml : (l, listOf vs.toArray k) ∈ R) (P : PairsIn R vs kvs) (ok : okStr (Txt.lower x)) (hx : (Txt.lower x).length < 2 ^ 20) (hx' : x.length < 2 ^ 20)
    (hl : ∀ kv ∈ kvs, (Txt.lower kv.1).length < 2 ^ 20 ∧ kv.1.length < 2 ^ 20) :
    Mine.Claim w p loose mean mg mb 96 [.ref b, .str x t1] [] R 5 40 (fun v n' => VStr v (hget kvs (Txt.lower x)) ∧ n' = R) := by
  obtain ⟨dx, hs, t, n, mb1, md1⟩ := B
  wtm_at "mIN"
  rename News _ _ _ _ => N1
  have N1 := news_more (news_more N1 md1) (.tail _ mb1)
  wtm_at "mQ"
  (k_here; k_dflt (refine' Mine.c_get ⟨dx, hs, t, n, mb1, md1⟩ ml P ok hx hx' hl _ _ _ _ _ _ _ _ _ _ _ _ _ _ _ _ _ ?k1z19 ?k2z19 ?k3z19 ?k4z19 ?k5z19 ?kKz19 ?kdz19 ?kuz19 ?kRz19; (case k1z19 => k_asm); (case k2z19 => k_asm); (case k3z19 => k_asm); (case k4z19 => exact news_sub (by k_asm) (fun p hp => .tail _ (.tail _ hp))); (case k5z19 => k_asm); (case kKz19 => first | exact rfl | assumption); (case kdz19 => wtm_at "mRM"); (case kuz19 => wtm_at "mRU")))
  intro v9 n9 h9 tk9 hp9 F9 N9
  (first | (with_reducible show wpAny _ _ _ _ _ _; generalize hGoal13 : wpAny _ _ _ _ _ _ = Goal13) | (dsimp only; with_reducible show wpAny _ _ _ _ _ _; generalize hGoal13 : wpAny _ _ _ _ _ _ = Goal13) | (generalize hGoal13 : True = Goal13))
  obtain ⟨hv9, rfl⟩ := hp9
  subst hGoal13
  try dsimp only
  try k_fold
  wtm_at "mQ"
  (refine' hret _ _ _ _ (⟨hv9, rfl⟩) ?rFz16 ?rNz16; (case rNz16 => k_asm); (case rFz16 => k_asm))
theorem c_item {b l : Addr} {vs : List Value} {k : Nat} {R : Led} {kvs : List (Str × Str)} {x : Str} {t1 : Tok} (B : IsBook R b l) (ml : (l, listOf vs.toArray k) ∈ R) (P : PairsIn R vs kvs) (ok : okStr (Txt.lower x)) (hx : (Txt.lower x).length < 2 ^ 20) (hx' : x.length < 2 ^ 20)
    (hl : ∀ kv ∈ kvs, (Txt.lower kv.1).length < 2 ^ 20 ∧ kv.1.length < 2 ^ 20) :
    Mine.Claim w p loose mean mg mb 274 [.ref b, .str x t1] [] R 7 60 (fun v n' => VStr v (hget kvs (Txt.lower x)) ∧ n' = R) := by
  obtain ⟨dx, hs, t, n, mb1, md1⟩ := B
  wtm_at "mIN"
  rename News _ _ _ _ => N1
  have N1 := news_more (news_more N1 md1) (.tail _ mb1)
  wtm_at "mQ"
  (k_here; k_dflt (refine' Mine.c_dget ⟨dx, hs, t, n, mb1, md1⟩ ml P ok hx hx' hl _ _ _ _ _ _ _ _ _ _ _ _ _ _ _ _ _ ?k1z20 ?k2z20 ?k3z20 ?k4z20 ?k5z20 ?kKz20 ?kdz20 ?kuz20 ?kRz20; (case k1z20 => k_asm); (case k2z20 => k_asm); (case k3z20 => k_asm); (case k4z20 => exact news_sub (by k_asm) (fun p hp => .tail _ (.tail _ hp))); (case k5z20 => k_asm); (case kKz20 => first | exact rfl | assumption); (case kdz20 => wtm_at "mRM"); (case kuz20 => wtm_at "mRU")))
  intro v9 n9 h9 tk9 hp9 F9 N9
  (first | (with_reducible show wpAny _ _ _ _ _ _; generalize hGoal14 : wpAny _ _ _ _ _ _ = Goal14) | (dsimp only; with_reducible show wpAny _ _ _ _ _ _; generalize hGoal14 : wpAny _ _ _ _ _ _ = Goal14) | (generalize hGoal14 : True = Goal14))
  obtain ⟨hv9, rfl⟩ := hp9
  subst hGoal14
  try dsimp only
  try k_fold
  wtm_at "mQ"
  (refine' hret _ _ _ _ (⟨hv9, rfl⟩) ?rFz17 ?rNz17; (case rNz17 => k_asm); (case rFz17 => k_asm))
noncomputable def keepI (l : List (Value × (Str × Str))) (y : Str) : List Value := (l.filter fun p => Txt.lower p.2.1 != y).map (·.1)
theorem PairsIn.keep {rest : Led} {vs : List Value} {kvs : List (Str × Str)} (P : PairsIn rest vs kvs) (y : Str) : PairsIn rest (keepI (vs.zip kvs) y) (kvs.filter fun kv => Txt.lower kv.1 != y) := by
  have e : ∀ (vs : List Value) (kvs : List (Str × Str)), vs.length = kvs.length → kvs.filter (fun kv => Txt.lower kv.1 != y) = ((vs.zip kvs).filter fun p => Txt.lower p.2.1 != y).map (·.2) := by
    intro vs
    induction vs with
    | nil => intro kvs h; cases kvs with | nil => rfl | cons _ _ => cases h
    | cons v r ih =>
      intro kvs h
      cases kvs with
      | nil => cases h
      | cons a q =>
        have := ih q (by simpa using h)
        by_cases c : (Txt.lower a.1 != y) = true
        · simp [List.filter_cons, c, this]
        · simp [List.filter_cons, c, this]
  rw [e vs kvs P.len]
  refine ⟨by simp [keepI], fun i k v hi => ?_⟩
  unfold keepI
  rw [List.getElem?_map] at hi
  obtain ⟨⟨u, kv⟩, h1, h2⟩ := Option.map_eq_some_iff.mp hi
  dsimp only at h2
  subst h2
  have hm := (List.mem_filter.mp (List.mem_of_getElem? h1)).1
  obtain ⟨j, hj⟩ := List.getElem?_of_mem hm
  rw [List.getElem?_zip_eq_some] at hj
  obtain ⟨t, tk, tv, n, hv, hr⟩ := P.at_ j k v hj.2
  refine ⟨t, tk, tv, n, ?_, hr⟩
  rw [List.getElem?_map, h1]
  exact congrArg some (Option.some.inj (hj.1.symm.trans hv))
theorem news_bk {h₀ h : Heap} {L : Addr} {c l b d : Addr × Obj} {R : Led} (N : News h₀ L h (c :: l :: R)) (h1 : b ∈ R) (h2 : d ∈ R) : News h₀ L h (c :: b :: d :: l :: R) := fun p hp => N p (by
  rcases List.mem_cons.mp hp with rfl | hp
  · exact .head _
  · rcases List.mem_cons.mp hp with rfl | hp
    · exact .tail _ (.tail _ h1)
    · rcases List.mem_cons.mp hp with rfl | hp
      · exact .tail _ (.tail _ h2)
      · exact .tail _ hp)
theorem news_swap {h₀ h : Heap} {L : Addr} {p1 p2 p3 p4 p5 : Addr × Obj} {rest : Led} (N : News h₀ L h (p1 :: p2 :: p3 :: p4 :: p5 :: rest)) : News h₀ L h (p1 :: p5 :: p2 :: rest) := fun p hp => N p (by
  exact Mine.sub_at hp (by wtm_at "per"))
theorem mem_deep {α : Type} {a : α} : ∀ (n : Nat) {l' : List α}, a ∈ l'.drop n → a ∈ l' := fun n _ h => List.mem_of_mem_drop h
theorem keepI_step {vs : List Value} {kvs : List (Str × Str)} {i : Nat} {v : Value} {k x y : Str} (hv : vs[i]? = some v) (hk : kvs[i]? = some (k, x)) : keepI ((vs.zip kvs).take (i + 1)) y = keepI ((vs.zip kvs).take i) y ++ (if (Txt.lower k != y) = true then [v] else []) := by
  have hz : (vs.zip kvs)[i]? = some (v, (k, x)) := by
    rw [List.getElem?_zip_eq_some]; exact ⟨hv, hk⟩
  unfold keepI
  rw [List.take_succ, hz, List.filter_append, List.map_append]
  congr 1
  by_cases h : (Txt.lower k != y) = true
  · simp [h]
  · simp [h]
theorem c_del {b l : Addr} {vs : List Value} {k : Nat} {R : Led} {kvs : List (Str × Str)} {x : Str} {t1 : Tok} (B : IsBook R b l) (P : PairsIn R vs kvs) (ok : okStr (Txt.lower x)) (hx : (Txt.lower x).length < 2 ^ 20) (hx' : x.length < 2 ^ 20)
    (hl : ∀ kv ∈ kvs, (Txt.lower kv.1).length < 2 ^ 20 ∧ kv.1.length < 2 ^ 20) (hlen : vs.length < 1000) (hoff : ∀ p ∈ R, p.1 ≠ l) :
    Mine.Claim w p loose mean mg mb 89 [.ref b, .str x t1] [] ((l, listOf vs.toArray k) :: R) 5 40 (fun v n' => v = .none ∧ ∃ vs' k', vs' = keepI (vs.zip kvs) (Txt.lower x) ∧ n' = (l, listOf vs'.toArray k') :: R) := by
  obtain ⟨dx, hs, t, n, mb1, md1⟩ := B
  have hbl : @Ne Nat b l := hoff _ mb1
  have hdl : @Ne Nat dx l := hoff _ md1
  wtm_at "mIN"
  rename News _ _ _ _ => N1
  have lR : ∀ p ∈ R, @LT.lt Nat _ p.1 L' := fun p hp => lt_of_all l1.2 p hp
  have lr : ∀ p ∈ R, p.1 ≠ L' + 1 := fun p hp => Nat.ne_of_lt (Nat.lt_succ_of_lt (lR p hp))
  have lb : @LT.lt Nat _ b L' := lR _ mb1
  have ldx : @LT.lt Nat _ dx L' := lR _ md1
  have ll : @LT.lt Nat _ l L' := l1.1
  (try simp only [List.cons_append, List.nil_append] at N1)
  have N1 := news_bk N1 mb1 md1
  ((repeat' ((fail_if_success (with_reducible show wpAny _ _ (callWith _ _ _ _ (backToKw _ _)) ..)); wtm_at "mNOLOOP"; wtm_at "mSTEQ")); refine callWith_KW (by k_asm) (by k_is) (by exact rfl) ?_; k_whole; wtm_at "mQ")
  ((k_here; k_dflt (refine' Mine.c_conv ?okz18 ?hxz18 _ _ _ _ _ _ _ _ _ _ _ _ _ _ _ _ _ ?k1z18 ?k2z18 ?k3z18 ?k4z18 ?k5z18 ?kKz18 ?kdz18 ?kuz18 ?kRz18; (case k1z18 => k_asm); (case k2z18 => k_asm); (case k3z18 => k_asm); (case k4z18 => k_asm); (case k5z18 => k_asm); (case kKz18 => first | exact rfl | assumption); (case kdz18 => wtm_at "mRM"); (case kuz18 => wtm_at "mRU"))); (case okz18 => assumption); (case hxz18 => first | assumption | omega); refine Mine.out0 ?_; intro h9 tk9 F9 N9; (try dsimp only); (try k_fold))
  (repeat' ((fail_if_success (with_reducible show wpAny _ _ (exec (Stmt.Assign [Expr.Subscript _ _ _] _ _) _) ..)); wtm_at "mNOLOOP"; wtm_at "mSTEQ"))
  (try ((fail_if_success (with_reducible refine Mine.isK KK ?_)); (fail_if_success (fail_if_success (with_reducible refine Mine.foc (by constructor) ?_))); refine Mine.focus_let ?_; intro KK))
  with_reducible refine wpAny_Assign_Subscript ?_ ?_
  rotate_left
  with_unfolding_all rfl
  wtm_at "mQ"
  refine comp_open (cl := [(Str.ofString "name", L' + 1)]) (by rfl) ?_
  wtm_at "mQ"
  rename Fr _ _ _ _ => F3
  rename News _ _ _ _ => N3
  rename Obj.data _ = _ => d3
  refine comp_K0 (src_list N3 (by k_mem) rfl rfl) F3 N3 (Nat.le_of_lt (Nat.lt_of_lt_of_le hlen (by decide))) (fun i ys => ys = keepI ((vs.zip kvs).take i) (Txt.lower x)) rfl ?turn ?done
  case turn =>
    intro E' Ky Kn C R oC mc i v ys h5 tk5 hi hv hyl hR hoffC nC F5 N5 hy hx hys
    have hi2 : i < kvs.length := P.len ▸ hi
    obtain ⟨⟨kk, vv⟩, hkv⟩ : ∃ kv, kvs[i]? = some kv := ⟨_, List.getElem?_eq_getElem hi2⟩
    (first | (with_reducible show wpAny _ _ _ _ _ _; generalize hGoal15 : wpAny _ _ _ _ _ _ = Goal15) | (dsimp only; with_reducible show wpAny _ _ _ _ _ _; generalize hGoal15 : wpAny _ _ _ _ _ _ = Goal15) | (generalize hGoal15 : True = Goal15))
    obtain ⟨tt, tk1, tv1, n1, hv', hmt⟩ := P.at_ i kk vv hkv
    obtain rfl : Value.ref tt = v := Option.some.inj (hv'.symm.trans hv)
    subst hGoal15
    have hlk := hl _ (List.mem_of_getElem? hkv)
    have m1 := hR _ (.head _)
    have m2 := hR _ (mem_deep 4 hmt)
    clear hR F3 N3
    refine own_name (o := oC) F5 N5 nC hoffC ?_
    intro o6 h6 tk6 nC6 F6 N6
    refine ifs_one ?_
    have N7 := news_more N6 (.tail _ m2)
    clear N5 F5 N6
    wtm_at "mQ"
    · rename Fr _ _ _ _ => F8
      rename News _ _ _ _ => N8
      refine hy _ o6 _ _ _ ?_ nC6 F8 (news_drop N8)
      rw [keepI_step hv hkv, hys, if_pos (by assumption)]
    · rename Fr _ _ _ _ => F8
      rename News _ _ _ _ => N8
      refine hx o6 _ _ _ ?_ nC6 F8 (news_drop N8)
      rw [keepI_step hv hkv, hys, if_neg (by simp_all), List.append_nil]
  case done =>
    intro D ys yk h5 tk5 hys hyl hltD F5 N5
    clear F3 N3
    try dsimp only
    wtm_at "mQ"
    have F6 := F5.push { cls := .type "slice", data := .fields #[.none, .none, .none] }
    have N6 := news_drop (N5.push F5 { cls := .type "slice", data := .fields #[.none, .none, .none] } rfl)
    have hlD : @LT.lt Nat _ l D := hltD _ (.tail _ (.tail _ (.tail _ (.head _))))
    have hoffl : ∀ (o1 : Obj), ∀ p ∈ (L' + 1, o1) :: R, p.1 ≠ l := by
      intro o1 p hp
      rcases List.mem_cons.mp hp with rfl | hp
      · exact Nat.ne_of_gt (Nat.lt_succ_of_lt ll)
      · exact hoff p hp
    refine set_slice_L (ys := ys) (vs := vs) (k := k) (yk := yk) F6 (news_swap N6) (Heap.IsSliceOf.new ..) (Nat.ne_of_gt hlD) (hoffl _) ?sz ?go
    case sz => lia
    case go =>
      intro h8 k8 F8 N8
      clear N6 F6 N5 F5
      wtm_at "mQ"
      refine' hret _ _ _ _ ⟨rfl, ys, k8, ?P, rfl⟩ ?rF ?rN
      case rF => k_asm
      case P =>
        rw [hys, List.take_of_length_le (by rw [List.length_zip, P.len, Nat.min_self]; exact Nat.le_refl _)]
      case rN =>
        rename News h₀ L _ _ => N9
        intro p hp
        refine N9 p ?_
        exact Mine.sub_at hp (by wtm_at "per")
end
end Mine
end
section
open PySem PySem.W PyProof.Rows PySem.Calls PySem.Spec
set_option Elab.async false
set_option maxRecDepth 100000
set_option maxHeartbeats 0
namespace Mine
section
variable {M : Model} {A : Around} {E : Value → Shared → Prop} {s : Shared} {K : Frag} {x C L f : Addr} {h₀ : Heap} {m : Str → Option Value} {ox : Obj} {od : Option Obj} {i : Value}
theorem del_own {Q : Unit → Shared → Prop} (F : Fr h₀ L s.heap m) (X₀ : K.In h₀) (I : InstAt s.heap x ox C od) (hq : noSeq K C = true) (hs : findIn K (.ref C) "__delitem__" = some (some (.ref f))) (hf : isFn K (.ref f) = true)
    (h : wpAny M A (call (.ref f) [.ref x, i]) (fun _ s' => Q () s') E s) : wpAny M A (delItem (.ref x) i) Q E s := by
  have X := X₀.keeps F.keep
  unfold delItem sequenceKey
  refine wpAny_holding (wpAny_bind (wpAny_bind (I.type.here ((anyM_none X hq).here ?_ |> wpAny_bind))))
  rw [if_pos (show (!false) = true from rfl)]
  exact wpAny_pure (wpAny_bind (special_fn X I hs (beq_iff_eq.mp hf) (wpAny_mono h (fun _ _ z => wpAny_pure z) fun _ _ z => z)))
end
local macro_rules | `(tactic| walk_at "delItem ref str") => `(tactic| (k_here; k_dflt (apply Mine.del_own; k_asm; k_asm; k_inst; k_is; k_is; k_is; k_whole)))
section
variable {w : World} {p : Program} {loose : List Str} {mean : ExcName → Option Value} {mg mb : Str → Option Value} {news : Led}
theorem c_put {b l : Addr} {vs : List Value} {k : Nat} {R : Led} {kvs : List (Str × Str)} {x y : Str} {t1 t2 : Tok} (B : IsBook R b l) (P : PairsIn R vs kvs) (ok : okStr (Txt.lower x)) (hx : (Txt.lower x).length < 2 ^ 20) (hx' : x.length < 2 ^ 20)
    (okx : okStr x) (oky : okStr y) (hy : y.length < 2 ^ 20)
    (hl : ∀ kv ∈ kvs, (Txt.lower kv.1).length < 2 ^ 20 ∧ kv.1.length < 2 ^ 20) (hlen : vs.length < 1000) (hoff : ∀ p ∈ R, p.1 ≠ l) :
    Mine.Claim w p loose mean mg mb 84 [.ref b, .str x t1, .str y t2] [] ((l, listOf vs.toArray k) :: R) 7 60 (fun v n' => v = .none ∧ ∃ vs' k' tt, (∀ p ∈ (l, listOf vs.toArray k) :: R, p.1 < tt) ∧ vs' = keepI (vs.zip kvs) (Txt.lower x) ∧
      n' = (l, listOf (vs' ++ [Value.ref tt]).toArray k') :: (tt, tupO x t1 y t2 0) :: R) := by
  obtain ⟨dx, hs, t, n, mb1, md1⟩ := B
  have hbl : @Ne Nat b l := hoff _ mb1
  have hdl : @Ne Nat dx l := hoff _ md1
  wtm_at "mIN"
  rename News _ _ _ _ => N1
  have N1 := news_more (news_more N1 (.tail _ md1)) (.tail _ (.tail _ mb1))
  wtm_at "mQ"
  (k_here; k_dflt (refine' Mine.c_del ⟨dx, hs, t, n, mb1, md1⟩ P ok hx hx' hl hlen hoff _ _ _ _ _ _ _ _ _ _ _ _ _ _ _ _ _ ?k1z26 ?k2z26 ?k3z26 ?k4z26 ?k5z26 ?kKz26 ?kdz26 ?kuz26 ?kRz26; (case k1z26 => k_asm); (case k2z26 => k_asm); (case k3z26 => k_asm); (case k4z26 => exact news_sub (by k_asm) (fun p hp => .tail _ (.tail _ hp))); (case k5z26 => k_asm); (case kKz26 => first | exact rfl | assumption); (case kdz26 => wtm_at "mRM"); (case kuz26 => wtm_at "mRU")))
  intro v9 n9 h9 tk9 hp9 F9 N9
  (first | (with_reducible show wpAny _ _ _ _ _ _; generalize hGoal21 : wpAny _ _ _ _ _ _ = Goal21) | (dsimp only; with_reducible show wpAny _ _ _ _ _ _; generalize hGoal21 : wpAny _ _ _ _ _ _ = Goal21) | (generalize hGoal21 : True = Goal21))
  obtain ⟨rfl, vs', k', P', rfl⟩ := hp9
  subst hGoal21
  have hlen' : vs'.length < 1000 := by
    rw [P', (P.keep _).len]; exact Nat.lt_of_le_of_lt (List.length_filter_le _ _) (by rw [← P.len]; exact hlen)
  have N9 := news_more (news_more N9 (.tail _ md1)) (.tail _ (.tail _ mb1))
  try dsimp only
  try k_fold
  ((repeat' ((fail_if_success (with_reducible show wpAny _ _ (callWith _ _ _ _ (backToKw _ _)) ..)); wtm_at "mNOLOOP"; wtm_at "mSTEQ")); refine callWith_KW (by k_asm) (by k_is) (by exact rfl) ?_; k_whole; wtm_at "mQ")
  ((k_here; k_dflt (refine' Mine.c_conv ?okz24 ?hxz24 _ _ _ _ _ _ _ _ _ _ _ _ _ _ _ _ _ ?k1z24 ?k2z24 ?k3z24 ?k4z24 ?k5z24 ?kKz24 ?kdz24 ?kuz24 ?kRz24; (case k1z24 => k_asm); (case k2z24 => k_asm); (case k3z24 => k_asm); (case k4z24 => k_asm); (case k5z24 => k_asm); (case kKz24 => first | exact rfl | assumption); (case kdz24 => wtm_at "mRM"); (case kuz24 => wtm_at "mRU"))); (case okz24 => assumption); (case hxz24 => first | assumption | omega); refine Mine.out0 ?_; intro h9 tk9 F9 N9; (try dsimp only); (try k_fold))
  ((repeat' ((fail_if_success (with_reducible show wpAny _ _ (callWith _ _ _ _ (backToKw _ _)) ..)); wtm_at "mNOLOOP"; wtm_at "mSTEQ")); refine callWith_KW (by k_asm) (by k_is) (by exact rfl) ?_; k_whole; wtm_at "mQ")
  ((k_here; k_dflt (refine' Mine.c_conv ?okz25 ?hxz25 _ _ _ _ _ _ _ _ _ _ _ _ _ _ _ _ _ ?k1z25 ?k2z25 ?k3z25 ?k4z25 ?k5z25 ?kKz25 ?kdz25 ?kuz25 ?kRz25; (case k1z25 => k_asm); (case k2z25 => k_asm); (case k3z25 => k_asm); (case k4z25 => k_asm); (case k5z25 => k_asm); (case kKz25 => first | exact rfl | assumption); (case kdz25 => wtm_at "mRM"); (case kuz25 => wtm_at "mRU"))); (case okz25 => assumption); (case hxz25 => first | assumption | omega); refine Mine.out0 ?_; intro h9 tk9 F9 N9; (try dsimp only); (try k_fold))
  wtm_at "mQ"
  rename _ ∧ _ ∧ _ ∧ AllLt _ _ => hlt
  refine' hret _ _ _ _ ⟨rfl, vs', k' + 1, _, ?lt, P', rfl⟩ ?q2 ?q3
  case lt =>
    intro p hp
    rcases List.mem_cons.mp hp with rfl | hp
    · exact hlt.2.2.1
    · exact lt_of_all hlt.2.2.2 p hp
  case q2 => k_asm
  case q3 =>
    rename News h₀ L _ _ => N6
    intro p hp
    refine N6 p ?_
    rw [List.push_toArray]
    simp only [List.mem_cons] at hp ⊢
    dsimp only [tupO] at hp
    rcases hp with h | h | h <;> simp only [h, eq_self, true_or, or_true]
theorem c_setfn {b l : Addr} {vs : List Value} {k : Nat} {R : Led} {kvs : List (Str × Str)} {x y : Str} {t1 t2 : Tok} (B : IsBook R b l) (P : PairsIn R vs kvs) (ok : okStr (Txt.lower x)) (hx : (Txt.lower x).length < 2 ^ 20) (hx' : x.length < 2 ^ 20)
    (okx : okStr x) (oky : okStr y) (hy : y.length < 2 ^ 20)
    (hl : ∀ kv ∈ kvs, (Txt.lower kv.1).length < 2 ^ 20 ∧ kv.1.length < 2 ^ 20) (hlen : vs.length < 1000) (hoff : ∀ p ∈ R, p.1 ≠ l) :
    Mine.Claim w p loose mean mg mb 281 [.ref b, .str x t1, .str y t2] [] ((l, listOf vs.toArray k) :: R) 9 80 (fun v n' => v = .none ∧ ∃ vs' k' tt, (∀ p ∈ (l, listOf vs.toArray k) :: R, p.1 < tt) ∧ vs' = keepI (vs.zip kvs) (Txt.lower x) ∧
      n' = (l, listOf (vs' ++ [Value.ref tt]).toArray k') :: (tt, tupO x t1 y t2 0) :: R) := by
  obtain ⟨dx, hs, t, n, mb1, md1⟩ := B
  wtm_at "mIN"
  rename News _ _ _ _ => N1
  have N1 := news_more (news_more N1 (.tail _ md1)) (.tail _ (.tail _ mb1))
  wtm_at "mQ"
  (k_here; k_dflt (refine' Mine.c_put ⟨dx, hs, t, n, mb1, md1⟩ P ok hx hx' okx oky hy hl hlen hoff _ _ _ _ _ _ _ _ _ _ _ _ _ _ _ _ _ ?k1z27 ?k2z27 ?k3z27 ?k4z27 ?k5z27 ?kKz27 ?kdz27 ?kuz27 ?kRz27; (case k1z27 => k_asm); (case k2z27 => k_asm); (case k3z27 => k_asm); (case k4z27 => exact news_sub (by k_asm) (fun p hp => .tail _ (.tail _ hp))); (case k5z27 => k_asm); (case kKz27 => first | exact rfl | assumption); (case kdz27 => wtm_at "mRM"); (case kuz27 => wtm_at "mRU")))
  intro v9 n9 h9 tk9 hp9 F9 N9
  (first | (with_reducible show wpAny _ _ _ _ _ _; generalize hGoal22 : wpAny _ _ _ _ _ _ = Goal22) | (dsimp only; with_reducible show wpAny _ _ _ _ _ _; generalize hGoal22 : wpAny _ _ _ _ _ _ = Goal22) | (generalize hGoal22 : True = Goal22))
  obtain ⟨rfl, vs', k', tt, htt, P', rfl⟩ := hp9
  subst hGoal22
  try dsimp only
  try k_fold
  wtm_at "mQ"
  (refine' hret _ _ _ _ (⟨rfl, vs', k', tt, htt, P', rfl⟩) ?rFz23 ?rNz23; (case rNz23 => k_asm); (case rFz23 => k_asm))
end
end Mine
end
section
open PySem PySem.W PyProof.Rows PySem.Calls PySem.Spec
set_option Elab.async false
set_option maxRecDepth 100000
set_option maxHeartbeats 0
theorem Mine.units_make (A : Around) (args : Args) : (A.under (.builtin "type.__call__" args)).units = A.units + 1 := by
  first | rfl | simp [Around.under, Code.cUnits, Code.frames, Code.isFrame]
local macro_rules | `(tactic| ktr_units) => `(tactic| (have hcL9 := cLine_is; (try simp only [Mine.units_make, units_in1, units_deeper, Around.mark_units, units_caller] at *); (try dsimp only [ktrTop] at *); lia))
namespace Mine
section
variable {w : World} {p : Program} {loose : List Str} {mean : ExcName → Option Value} {mg mb : Str → Option Value} {news : Led}
inductive New0 (news : Led) (v : Value) (n' : Led) : Prop
  | mk (x d l : Addr) (hs : Int) (t : Tok) : v = .ref x → @LT.lt Nat _ x l → @LT.lt Nat _ d x → (∀ p ∈ news, p.1 < d) → n' = (l, listOf #[] 0) :: (x, instObj 171 d) :: (d, dictOf [⟨hs, .str (Str.ofString "_headers") t, .ref l⟩] 1) :: news → New0 news v n'
theorem c_new0 : Mine.Claim w p loose mean mg mb 171 [] [] news 2 20 (New0 news) := by
  unfold Mine.Claim; k_fill; intro dp un gd cn cs a' ccd cl outer A₀ base h₀ L m s Q E hB hF hX hN hT hk hd hu hret
  (refine' call_cls ?k1 ?k2 ?k3 ?k4 ?k5 ?k6 ?_; (case k1 => k_asm); (case k2 => k_asm); (case k3 => k_asm); (case k4 => k_is); (case k5 => k_is); (case k6 => k_is); k_whole; intro x' d' h' F' N' l1 l2; (try k_lt2 l2); (try k_sweep); wtm_at "mENTER")
  wtm_at "mQ"
  refine wpAny_For ?_
  wtm_at "mQ"
  rename Fr _ _ _ _ => F1
  rename News _ _ _ _ => N1
  refine for_K (src_list (vs := []) (k := 0) N1 (by k_mem) rfl rfl) F1 N1 (fun _ mm n => n = _) rfl ?_ ?_
  · intro E' K I it i v m news h tk hi
    exact absurd hi (Nat.not_lt_zero _)
  · intro E' m news h tk hJ hl F2 N2
    (first | (with_reducible show wpAny _ _ _ _ _ _; generalize hGoal28 : wpAny _ _ _ _ _ _ = Goal28) | (dsimp only; with_reducible show wpAny _ _ _ _ _ _; generalize hGoal28 : wpAny _ _ _ _ _ _ = Goal28) | (generalize hGoal28 : True = Goal28))
    subst hJ
    subst hGoal28
    wtm_at "mQ"
    (refine' hret _ _ _ _ (⟨_, _, _, _, _, rfl, ?o1z31, ?o2z31, ?o3z31, rfl⟩) ?rFz31 ?rNz31; (case rNz31 => k_asm); (case rFz31 => k_asm))
    all_goals first | lia | assumption
end
end Mine
namespace Mine
section
variable {w : World} {p : Program} {loose : List Str} {mean : ExcName → Option Value} {mg mb : Str → Option Value} {news : Led}
theorem c_newL {l : Addr} {vs : List Value} {k : Nat} {rest : Led} {kvs : List (Str × Str)} (P : PairsIn rest vs kvs) (hok : ∀ kv ∈ kvs, okStr kv.1 ∧ okStr kv.2 ∧ kv.1.length < 2 ^ 20 ∧ kv.2.length < 2 ^ 20) :
    Mine.Claim w p loose mean mg mb 171 [.ref l] [] ((l, listOf vs.toArray k) :: rest) 3 20 (fun v n' => ∃ x d hs t, v = .ref x ∧ @LT.lt Nat _ l d ∧ @LT.lt Nat _ d x ∧ (∀ p ∈ rest, p.1 < d) ∧ n' = bookL x d l hs t 1 vs k ++ rest) := by
  unfold Mine.Claim; k_fill; intro dp un gd cn cs a' ccd cl outer A₀ base h₀ L m s Q E hB hF hX hN hT hk hd hu hret
  (refine' call_cls ?k1 ?k2 ?k3 ?k4 ?k5 ?k6 ?_; (case k1 => k_asm); (case k2 => k_asm); (case k3 => k_asm); (case k4 => k_is); (case k5 => k_is); (case k6 => k_is); k_whole; intro x' d' h' F' N' l1 l2; (try k_lt2 l2); (try k_sweep); wtm_at "mENTER")
  have ll : @LT.lt Nat _ l d' := l1 (l, listOf vs.toArray k) (.head _)
  have lr : ∀ p ∈ rest, p.1 ≠ d' := fun p hp => Nat.ne_of_lt (l1 p (.tail _ hp))
  wtm_at "mQ"
  refine wpAny_For ?_
  wtm_at "mQ"
  rename Fr _ _ _ _ => F1
  rename News _ _ _ _ => N1
  refine for_K (src_list N1 (by k_mem) rfl rfl) F1 N1 (fun _ mm nn => nn = _ ∧ mm (Str.ofString "self") = some (.ref x')) ⟨rfl, rfl⟩ ?_ ?_
  · intro E' K I it i v m' news' h' tk' hi0 hv hmem hoff F3 N3 hn hJ
    obtain ⟨⟨kk, vv⟩, hkv⟩ : ∃ kv, kvs[i]? = some kv := ⟨_, List.getElem?_eq_getElem (P.len ▸ hi0)⟩
    (first | (with_reducible show wpAny _ _ _ _ _ _; generalize hGoal29 : wpAny _ _ _ _ _ _ = Goal29) | (dsimp only; with_reducible show wpAny _ _ _ _ _ _; generalize hGoal29 : wpAny _ _ _ _ _ _ = Goal29) | (generalize hGoal29 : True = Goal29))
    obtain ⟨rfl, hm1⟩ := hJ
    obtain ⟨tt, tk1, tv1, n1, hv', hmt⟩ := P.at_ i kk vv hkv
    obtain rfl : Value.ref tt = v := Option.some.inj (hv'.symm.trans hv)
    obtain ⟨o1, o2, o3, o4⟩ := hok _ (List.mem_of_getElem? hkv)
    dsimp only at o1 o2 o3 o4
    subst hGoal29
    have N4 := news_more N3 (q := (tt, tupO kk tk1 vv tv1 n1)) (mem_deep 4 hmt)
    refine assign_tup F3 N4 ⟨_, (N4 _ (List.mem_cons_self ..)).1, rfl, _, rfl⟩ rfl rfl (fun h5 F5 N5 => ?_)
    clear N4 F3 N3 F1 N1
    ((repeat' ((fail_if_success (with_reducible show wpAny _ _ (callWith _ _ _ _ (backToKw _ _)) ..)); wtm_at "mNOLOOP"; wtm_at "mSTEQ")); refine callWith_KW (by k_asm) (by k_is) (by exact rfl) ?_; k_whole; wtm_at "mQ")
    ((k_here; k_dflt (refine' Mine.c_conv ?okz32 ?hxz32 _ _ _ _ _ _ _ _ _ _ _ _ _ _ _ _ _ ?k1z32 ?k2z32 ?k3z32 ?k4z32 ?k5z32 ?kKz32 ?kdz32 ?kuz32 ?kRz32; (case k1z32 => k_asm); (case k2z32 => k_asm); (case k3z32 => k_asm); (case k4z32 => k_asm); (case k5z32 => k_asm); (case kKz32 => first | exact rfl | assumption); (case kdz32 => wtm_at "mRM"); (case kuz32 => wtm_at "mRU"))); (case okz32 => assumption); (case hxz32 => first | assumption | omega); refine Mine.out0 ?_; intro h9 tk9 F9 N9; (try dsimp only); (try k_fold))
    ((repeat' ((fail_if_success (with_reducible show wpAny _ _ (callWith _ _ _ _ (backToKw _ _)) ..)); wtm_at "mNOLOOP"; wtm_at "mSTEQ")); refine callWith_KW (by k_asm) (by k_is) (by exact rfl) ?_; k_whole; wtm_at "mQ")
    ((k_here; k_dflt (refine' Mine.c_conv ?okz33 ?hxz33 _ _ _ _ _ _ _ _ _ _ _ _ _ _ _ _ _ ?k1z33 ?k2z33 ?k3z33 ?k4z33 ?k5z33 ?kKz33 ?kdz33 ?kuz33 ?kRz33; (case k1z33 => k_asm); (case k2z33 => k_asm); (case k3z33 => k_asm); (case k4z33 => k_asm); (case k5z33 => k_asm); (case kKz33 => first | exact rfl | assumption); (case kdz33 => wtm_at "mRM"); (case kuz33 => wtm_at "mRU"))); (case okz33 => assumption); (case hxz33 => first | assumption | omega); refine Mine.out0 ?_; intro h9 tk9 F9 N9; (try dsimp only); (try k_fold))
    wtm_at "mQ"
    rename Fr _ _ _ _ => F7
    rename News _ _ _ _ => N7
    show K .next _
    refine hn _ _ _ _ ?_ hmem F7 (news_drop N7) hoff
    exact ⟨rfl, hm1⟩
  · intro E' m' news' h' tk' hJ hmem F3 N3
    (first | (with_reducible show wpAny _ _ _ _ _ _; generalize hGoal30 : wpAny _ _ _ _ _ _ = Goal30) | (dsimp only; with_reducible show wpAny _ _ _ _ _ _; generalize hGoal30 : wpAny _ _ _ _ _ _ = Goal30) | (generalize hGoal30 : True = Goal30))
    obtain ⟨rfl, hm1⟩ := hJ
    subst hGoal30
    wtm_at "mQ"
    refine' hret _ _ _ _ ⟨x', d', ?hh, ?tt, rfl, ll, ?o2, ?o3, rfl⟩ ?rF ?rN
    case rN =>
      simp only [bookL, List.cons_append, List.nil_append]
      k_asm
    case rF => k_asm
    case o2 => assumption
    case o3 => exact fun p hp => l1 p (.tail _ hp)
end
end Mine
end
section
open PySem PySem.W PyProof.Rows PySem.Calls PySem.Spec
set_option Elab.async false
set_option maxRecDepth 100000
set_option maxHeartbeats 0
namespace Mine
theorem cat_one (x : Nat) (l : List Nat) : (⟨[x].toArray⟩ : Str) ++ ⟨l.toArray⟩ = ⟨(x :: l).toArray⟩ := by
  show Str.mk _ = _
  congr 1
  simp
noncomputable def wordOf (n : Nat) : Str := if (n : Int) < 10 then ([Str.ofString "OPTIMIZED", Str.ofString "NEWLOCALS", Str.ofString "VARARGS", Str.ofString "VARKEYWORDS", Str.ofString "NESTED", Str.ofString "GENERATOR", Str.ofString "NOFREE", Str.ofString "COROUTINE", Str.ofString "ITERABLE_COROUTINE", Str.ofString "ASYNC_GENERATOR"] : List Str).getD ((n : Int)).toNat Str.empty
  else Str.ofString "0x" ++ Txt.item (Str.ofString "1248") ((n : Int).fmod 4) ++ Txt.mul (Str.ofString "0") ((n : Int).fdiv 4)
theorem word_len : ∀ n : Fin 40, (Txt.item (Str.ofString "1248") (((n : Nat) : Int).fmod 4)).length ≤ 1 ∧ (Txt.mul (Str.ofString "0") (((n : Nat) : Int).fdiv 4)).length ≤ 10 := by decide +kernel
noncomputable def octA (n : Nat) : Nat := if 31 < n % 64 then n % 64 else 128 + n % 64
noncomputable def octB (n : Nat) : Nat := if n % 64 < 63 then 64 + n % 64 else 255
noncomputable def octGo : Nat → Nat → List Nat → List Nat
  | 0, _, l => l
  | f + 1, n, l => if 63 < n then octGo f (n / 64) (octB (n / 64) :: l) else l
theorem octGo_step {f n : Nat} {l : List Nat} (h : 63 < n) : octGo (f + 1) n l = octGo f (n / 64) (octB (n / 64) :: l) := by rw [octGo, if_pos h]
noncomputable def octs (n : Nat) : List Nat := octGo 10 n [octA n]
theorem fmod64 (n : Nat) : ((n : Int)).fmod 64 = ((n % 64 : Nat) : Int) := by
  rw [Int.fmod_eq_emod_of_nonneg _ (by decide)]; rfl
theorem fdiv64 (n : Nat) : ((n : Int)).fdiv 64 = ((n / 64 : Nat) : Int) := by
  rw [Int.fdiv_eq_ediv_of_nonneg _ (by decide)]; rfl
section
variable {w : World} {p : Program} {loose : List Str} {mean : ExcName → Option Value} {mg mb : Str → Option Value} {news : Led}
theorem c_word {n : Nat} {t1 : Tok} (hn : n < 40) : Mine.Claim w p loose mean mg mb 288 [.int (n : Int) t1] [] news 1 20 (fun v n' => (∃ t, v = .str (wordOf n) t) ∧ n' = news) := by
  obtain ⟨hl1, hl2⟩ := word_len ⟨n, hn⟩
  dsimp only at hl1 hl2
  wtm_at "mIN"
  wtm_at "mQ"
  · rename News h₀ L _ _ => N2
    refine' hret _ _ _ _ ⟨⟨_, ?e⟩, rfl⟩ ?rF ?rN
    case rF => k_asm
    case rN => exact news_drop N2
    case e => unfold wordOf; rw [if_pos (by assumption)]
  · rename News h₀ L _ _ => N2
    refine' hret _ _ _ _ ⟨⟨_, ?e⟩, rfl⟩ ?rF ?rN
    case rF => k_asm
    case rN => exact news_drop N2
    case e => unfold wordOf; rw [if_neg (by assumption)]
theorem o_zero {j : Nat} (h : j < 64 ^ (0 + 1)) (h2 : 63 < j) : False := by lia
theorem o_div {j f : Nat} (h : j < 64 ^ (f + 1 + 1)) : j / 64 < 64 ^ (f + 1) := by rw [Nat.pow_succ] at h; lia
theorem o_len {f b : Nat} {sg : List Nat} (h : f + 1 + sg.length = 11) : f + (b :: sg).length = 11 := by simp only [List.length_cons]; lia
theorem o_less {j : Nat} (h : 63 < j) : j / 64 < j := by lia
theorem octA_lt (n : Nat) : octA n < 256 := by unfold octA; have := Nat.mod_lt n (show 64 > 0 by decide); split <;> lia
theorem val_cut {M : Model} {A : Around} {E : Value → Shared → Prop} {c : Sem Value} {Q : Value → Shared → Prop} {hp : Heap} {g : Array GenState} {d : Drawn} {t : Nat} {o : OsState} (T : Value → Heap → Nat → Prop)
    (ways : ∀ K : Value → Shared → Prop, (∀ v h tk, T v h tk → K v (Shared.mk h g d tk o)) → wpAny M A c K E (Shared.mk hp g d t o)) (cont : ∀ v h tk, T v h tk → Q v (Shared.mk h g d tk o)) : wpAny M A c Q E (Shared.mk hp g d t o) := ways Q cont
theorem c_oct {n : Nat} {t1 : Tok} (hn : n < 2 ^ 40) : Mine.Claim w p loose mean mg mb 300 [.int (n : Int) t1] [] news 1 20 (fun v n' => (∃ t, v = .str ⟨(octs n).toArray⟩ t) ∧ n' = news) := by
  have hA1 : 31 < ((n : Int)).fmod 64 → ((n : Int)).fmod 64 = (octA n : Int) := fun h => by
    rw [fmod64] at h ⊢; unfold octA; rw [if_pos (by lia)]
  have hA2 : ¬ 31 < ((n : Int)).fmod 64 → 128 + ((n : Int)).fmod 64 = (octA n : Int) := fun h => by
    rw [fmod64] at h ⊢; unfold octA; rw [if_neg (by lia)]; rfl
  have hz0 : (0 : Int) ≤ (octA n : Int) := Int.natCast_nonneg _
  have hz1 : (octA n : Int) < 256 := Int.ofNat_lt.mpr (octA_lt n)
  wtm_at "mIN"
  wtm_at "mQX"
  refine val_cut (fun v h tk => (∃ t, v = .int (octA n : Int) t) ∧ Fr g' L' h mm9 ∧ News g' L' h news) ?ways ?cont
  case ways =>
    intro K7 hK7
    wtm_at "mQ"
    · exact hK7 _ _ _ ⟨⟨_, congrArg (fun z => Value.int z _) (hA1 (by assumption))⟩, by k_asm, by k_asm⟩
    · exact hK7 _ _ _ ⟨⟨_, congrArg (fun z => Value.int z _) (hA2 (by assumption))⟩, by k_asm, by k_asm⟩
  case cont =>
    intro v9 h9 tk9 hT9
    (first | (with_reducible show wpAny _ _ _ _ _ _; generalize hGoal34 : wpAny _ _ _ _ _ _ = Goal34) | (dsimp only; with_reducible show wpAny _ _ _ _ _ _; generalize hGoal34 : wpAny _ _ _ _ _ _ = Goal34) | (generalize hGoal34 : True = Goal34))
    obtain ⟨⟨t9, rfl⟩, F0, N0⟩ := hT9
    subst hGoal34
    clear F9 N'
    try dsimp only
    try k_unfold
    wtm_at "mQ"
    rename Fr _ _ _ _ => F1
    rename News _ _ _ _ => N1
    refine while_K F1 N1 (fun j m nn => nn = news ∧ ∃ f t t' sg, j < 64 ^ (f + 1) ∧ f + sg.length = 11 ∧ m (Str.ofString "number") = some (.int (j : Int) t) ∧ m (Str.ofString "signs") = some (.str ⟨sg.toArray⟩ t') ∧ octGo f j sg = octs n) n ?h0 ?turn
    case h0 =>
      have hb : n < 64 ^ (10 + 1) := Nat.lt_trans hn (by decide)
      exact ⟨rfl, 10, t1, _, [octA n], hb, rfl, rfl, rfl, rfl⟩
    case turn =>
      intro E' K X j m' nn h' tk' F3 N3 hn hx hr hJ
      clear F1 N1 hr
      (first | (with_reducible show wpAny _ _ _ _ _ _; generalize hGoal35 : wpAny _ _ _ _ _ _ = Goal35) | (dsimp only; with_reducible show wpAny _ _ _ _ _ _; generalize hGoal35 : wpAny _ _ _ _ _ _ = Goal35) | (generalize hGoal35 : True = Goal35))
      obtain ⟨rfl, f, t, t', sg, hj, hf, m1, m2, hg⟩ := hJ
      subst hGoal35
      have hB1 : (((j : Int)).fdiv 64).fmod 64 < 63 → octB (j / 64) = (64 + (((j : Int)).fdiv 64).fmod 64).toNat := fun h => by
        rw [fdiv64, fmod64] at h ⊢; unfold octB; rw [if_pos (by lia)]; rfl
      have z1 : (Str.mk sg.toArray).length ≤ 11 := str_le (by rw [← hf]; exact Nat.le_add_left _ _)
      have hB2 : ¬ (((j : Int)).fdiv 64).fmod 64 < 63 → octB (j / 64) = 255 := fun h => by
        rw [fdiv64, fmod64] at h; unfold octB; rw [if_neg (by lia)]
      wtm_at "mQ"
      · have h63 : 63 < j := by lia
        obtain _ | f := f
        · exact (o_zero hj h63).elim
        rename Fr _ _ _ _ => F5
        rename News _ _ _ _ => N5
        show K .next _
        have e2 : (⟨[(64 + ((j : Int).fdiv 64).fmod 64).toNat].toArray⟩ : Str) ++ ⟨sg.toArray⟩ = ⟨(octB (j / 64) :: sg).toArray⟩ := by rw [cat_one, hB1 (by assumption)]
        have hb : j / 64 < 64 ^ (f + 1) := o_div hj
        have hl : f + (octB (j / 64) :: sg).length = 11 := o_len hf
        have hg2 : octGo f (j / 64) (octB (j / 64) :: sg) = octs n := by rw [← hg, octGo_step h63]
        refine hn (j / 64) _ _ _ _ (o_less h63) ?_ F5 N5
        exact ⟨rfl, f, _, _, octB (j / 64) :: sg, hb, hl, congrArg (fun z => some (Value.int z _)) (fdiv64 j), congrArg (fun z => some (Value.str z _)) e2, hg2⟩
      · have h63 : 63 < j := by lia
        obtain _ | f := f
        · exact (o_zero hj h63).elim
        rename Fr _ _ _ _ => F5
        rename News _ _ _ _ => N5
        show K .next _
        have e2 : (⟨[(255 : Int).toNat].toArray⟩ : Str) ++ ⟨sg.toArray⟩ = ⟨(octB (j / 64) :: sg).toArray⟩ := by rw [cat_one, hB2 (by assumption)]; rfl
        have hb : j / 64 < 64 ^ (f + 1) := o_div hj
        have hl : f + (octB (j / 64) :: sg).length = 11 := o_len hf
        have hg2 : octGo f (j / 64) (octB (j / 64) :: sg) = octs n := by rw [← hg, octGo_step h63]
        refine hn (j / 64) _ _ _ _ (o_less h63) ?_ F5 N5
        exact ⟨rfl, f, _, _, octB (j / 64) :: sg, hb, hl, congrArg (fun z => some (Value.int z _)) (fdiv64 j), congrArg (fun z => some (Value.str z _)) e2, hg2⟩
      · have he : sg = octs n := by
          rw [← hg]
          cases f with
          | zero => rfl
          | succ f => rw [octGo, if_neg (by lia)]
        subst he
        refine hx _ ?_
        wtm_at "mQ"
        exact hret _ _ _ _ ⟨⟨_, rfl⟩, rfl⟩ (by k_asm) (by k_asm)
end
end Mine
end
section
open PySem PySem.W PyProof.Rows PySem.Calls PySem.Spec
set_option Elab.async false
set_option maxRecDepth 100000
set_option maxHeartbeats 0
namespace Mine
section
variable {w : World} {p : Program} {loose : List Str} {mean : ExcName → Option Value} {mg mb : Str → Option Value} {news : Led}
noncomputable def itO (D : Addr) (i : Nat) : Obj := { cls := .type "list_iterator", data := .fields #[.ref D, .int (i : Int) 0] }
noncomputable def IntsN (vs : List Value) (ns : List Nat) : Prop := vs.length = ns.length ∧ ∀ (i n : Nat), ns[i]? = some n → ∃ t, vs[i]? = some (.int (n : Int) t)
end
section
variable {prog : Program} {w : World} {A : Around} {E : Value → Shared → Prop} {s : Shared} {h₀ : Heap} {L : Addr} {m : Str → Option Value}
theorem ne_kind : builtinKind "next" = none := by decide +kernel
theorem ne_plain : plainId "next" = true := by decide +kernel
theorem it_kind : builtinKind "iter" = none := by decide +kernel
theorem it_plain : plainId "iter" = true := by decide +kernel
theorem next_list {I D : Addr} {i k : Nat} {vs : List Value} {x : Value} {led : Led} {Q : Value → Shared → Prop} (F : Fr h₀ L s.heap m) (N : News h₀ L s.heap ((I, itO D i) :: (D, listOf vs.toArray k) :: led)) (hx : vs[i]? = some x) (hne : D ≠ I) (hoff : ∀ p ∈ led, p.1 ≠ I)
    (h : ∀ h', Fr h₀ L h' m → News h₀ L h' ((I, itO D (i + 1)) :: (D, listOf vs.toArray k) :: led) → Q x { s with heap := h' }) :
    wpAny (model prog w) A (call (.builtin "next") [.ref I]) Q E s := by
  have gI := N _ (List.mem_cons_self ..)
  have gD := N _ (List.mem_cons_of_mem _ (List.mem_cons_self ..))
  have hit : s.heap.IsListIter I D i := ⟨_, gI.1, rfl, rfl⟩
  have ho := gI.1
  have hd : (itO D i).data = .fields #[.ref D, .int (i : Int) 0] := rfl
  refine call_function_entry ne_kind ne_plain kdk_entry_next (kdk_args_next _) ?_
  unfold Builtin.«next»
  refine wpAny_bind (m := someArgs "next" 1 2 _) (wpAny_of_eq (a := [Value.ref I]) (by first | rfl | kernel_rfl) ?_)
  dsimp only
  refine wpAny_bind (wpAny_specialOf (name := Str.ofString "__next__") hit.typeIs slot_listiter_next.lookup ?_)
  refine wpAny_ite_split (fun hab => absurd hab (by decide)) (fun _ => ?_)
  refine wpAny_bind (wpAny_callSpecial?_slot (name := Str.ofString "__next__") hit.typeIs slot_listiter_next
    (wpAny_call_entry slot_listiter_next hit.typeIs entry_listiter_next ?_ (args_listiter_next _)))
  show wpAny _ _ (field (.ref I) 0 >>= _) _ _ s
  refine wpAny_bind (wpAny_field ho hd (x := .ref D) rfl ?_)
  show wpAny _ _ (if (Value.ref D == Value.none) = true then _ else _) _ _ s
  rw [if_neg (show ¬ ((Value.ref D == Value.none) = true) from Bool.false_ne_true)]
  show wpAny _ _ (field (.ref I) 1 >>= _) _ _ s
  refine wpAny_bind (wpAny_field ho hd (x := .int i 0) rfl ?_)
  show wpAny _ _ (seqItems? (.ref D) >>= _) _ _ s
  refine wpAny_bind (wpAny_seqItems gD.1 rfl ?_)
  have hx' : vs.toArray[i]? = some x := by rw [List.getElem?_toArray]; exact hx
  simp only [Int.toNat_natCast, hx']
  refine wpAny_bind (wpAny_setField ho hd (by simp) (wpAny_pure ⟨x, rfl, wpAny_pure ⟨x, rfl, ?_⟩⟩))
  have e : Obj.mapFields (·.setIfInBounds 1 (rawInt ((i : Int) + 1))) (itO D i) = itO D (i + 1) := by
    show ({ cls := _, data := .fields _ } : Obj) = _
    unfold itO
    simp [rawInt]
  have hs : Heap.SameBut I s.heap (s.heap.update I (Obj.mapFields (·.setIfInBounds 1 (rawInt ((i : Int) + 1))))) := Heap.SameBut.update ..
  refine h _ (F.change hs gI.2.1 gI.2.2) fun p hp => ?_
  rcases List.mem_cons.mp hp with rfl | hp
  · refine ⟨?_, gI.2⟩
    rw [← e]
    exact Heap.get?_update_self _ ho (by rw [e]; rfl)
  · rcases List.mem_cons.mp hp with rfl | hp
    · exact ⟨(hs.2 D hne).trans gD.1, gD.2⟩
    · have q := N p (List.mem_cons_of_mem _ (List.mem_cons_of_mem _ hp))
      exact ⟨(hs.2 p.1 (hoff p hp)).trans q.1, q.2⟩
theorem iter_list {D : Addr} {k : Nat} {vs : List Value} {led : Led} {Q : Value → Shared → Prop} (F : Fr h₀ L s.heap m) (N : News h₀ L s.heap led) (hm : (D, listOf vs.toArray k) ∈ led)
    (h : ∀ I h', Fr h₀ L h' m → News h₀ L h' ((I, itO D 0) :: led) → (∀ p ∈ led, p.1 < I) → Q (.ref I) { s with heap := h' }) :
    wpAny (model prog w) A (call (.builtin "iter") [.ref D]) Q E s := by
  have gD := N _ hm
  refine call_function_entry it_kind it_plain kdk_entry_iter (kdk_args_iter _) ?_
  unfold Builtin.«iter»
  refine wpAny_bind (m := someArgs "iter" 1 2 _) (wpAny_of_eq (a := [Value.ref D]) (by first | rfl | kernel_rfl) ?_)
  show wpAny _ _ (pyIter (.ref D) >>= _) _ _ _
  refine wpAny_bind (wpAny_pyIter_list ⟨_, gD.1, rfl, _, rfl⟩ ?_)
  exact wpAny_pure ⟨_, rfl, h _ _ (F.push _) (N.push F _ rfl) (fun q hq => Heap.lt_size (N q hq).1)⟩
end
section
variable {w : World} {p : Program} {loose : List Str} {mean : ExcName → Option Value} {mg mb : Str → Option Value} {news : Led}
noncomputable def vGo : Nat → List Nat → Nat
  | v, [] => v
  | v, n :: r => vGo (v * 64 + n % 64) r
noncomputable def contOk : Nat → List Nat → Prop
  | b, [] => Builtin.bitAnd (b : Int) 64 = 0
  | b, n :: r => Builtin.bitAnd (b : Int) 64 ≠ 0 ∧ contOk n r
theorem and63 (n : Nat) : Builtin.bitAnd (n : Int) 63 = ((n % 64 : Nat) : Int) := by
  rw [bitAnd_m6]; rfl
theorem or_nat (a b : Nat) : Builtin.bitOr (a : Int) (b : Int) = ((a ||| b : Nat) : Int) := by
  have n1 : ¬ (0 : Int) ≤ Builtin.bitNot (a : Int) := by show ¬ (0 : Int) ≤ -(a : Int) - 1; lia
  have n2 : ¬ (0 : Int) ≤ Builtin.bitNot (b : Int) := by show ¬ (0 : Int) ≤ -(b : Int) - 1; lia
  have e : ∀ x : Int, Builtin.bitNot (Builtin.bitNot x) = x := fun x => by show -(-x - 1) - 1 = x; lia
  unfold Builtin.bitOr Builtin.bitAnd
  rw [decide_eq_false n1, decide_eq_false n2]
  dsimp only
  rw [e, e, e]
  rfl
theorem or_step (v n : Nat) : Builtin.bitOr ((v : Int) * 2 ^ 6) (Builtin.bitAnd (n : Int) 63) = ((v * 64 + n % 64 : Nat) : Int) := by
  rw [and63, show ((v : Int) * 2 ^ 6) = ((v * 64 : Nat) : Int) by push_cast; rfl]
  have h := Nat.shiftLeft_add_eq_or_of_lt (b := n % 64) (i := 6) (Nat.mod_lt _ (by decide)) v
  rw [Nat.shiftLeft_eq, show (2 : Nat) ^ 6 = 64 from rfl] at h
  rw [h, or_nat]
theorem v_step {v n i : Nat} (h : v < 64 ^ (i + 1)) : v * 64 + n % 64 < 64 ^ (i + 1 + 1) := by
  rw [Nat.pow_succ 64 (i + 1)]
  exact Nat.lt_of_lt_of_le (Nat.add_lt_add_left (Nat.mod_lt _ (by decide)) _) (by rw [← Nat.succ_mul]; exact Nat.mul_le_mul_right _ h)
theorem v_le {i j n : Nat} (h : i + j = n) (hn : n ≤ 8) : i + 1 ≤ 9 := by lia
theorem v_lt {a j : Nat} (h : a + 1 = j) : a < j := by lia
theorem v_sum {i j n a : Nat} (h : i + j = n) (h2 : a + 1 = j) : i + 1 + a = n := by lia
theorem c_varint {I D : Addr} {vs : List Value} {k : Nat} {rest : Led} {n0 : Nat} {ns : List Nat} (H : IntsN vs (n0 :: ns)) (C : contOk n0 ns) (hln : ns.length ≤ 8) (hne : @Ne Nat D I) (hoff : ∀ p ∈ rest, p.1 ≠ I) : Mine.Claim w p loose mean mg mb 190 [.ref I] [] ((I, itO D 0) :: (D, listOf vs.toArray k) :: rest) 1 20 (fun v n' => (∃ t, v = .int ((vGo (n0 % 64) ns : Nat) : Int) t) ∧ n' = rest) := by
  obtain ⟨t0, hv0⟩ := H.2 0 n0 rfl
  wtm_at "mIN"
  wtm_at "mQ"
  rename Fr _ _ _ _ => F1
  rename News _ _ _ _ => N1
  refine next_list F1 N1 hv0 hne hoff fun h5 F5 N5 => ?_
  clear F1 N1
  wtm_at "mQ"
  rename Fr _ _ _ _ => F6
  rename News _ _ _ _ => N6
  refine while_K F6 N6 (fun j m nn => ∃ (i : Nat) (b : Nat) (r : List Nat) (v : Nat), r.length = j ∧ i + j = ns.length ∧ v < 64 ^ (i + 1) ∧ (n0 :: ns).drop i = b :: r ∧ nn = (I, itO D (i + 1)) :: (D, listOf vs.toArray k) :: rest ∧ (∃ t, m (Str.ofString "b") = some (.int (b : Int) t)) ∧ (∃ t', m (Str.ofString "val") = some (.int (v : Int) t')) ∧
    m (Str.ofString "iterator") = some (.ref I) ∧ contOk b r ∧ vGo v r = vGo (n0 % 64) ns) ns.length ⟨0, n0, ns, n0 % 64, rfl, Nat.zero_add _, by simpa using Nat.mod_lt n0 (by decide), rfl, rfl, ⟨_, rfl⟩, ⟨_, congrArg (fun z => some (Value.int z _)) (and63 n0)⟩, rfl, C, rfl⟩ ?turn
  intro E' K X j m' nn h' tk' F3 N3 hn hx hrr hJ
  clear F6 N6 hrr
  (first | (with_reducible show wpAny _ _ _ _ _ _; generalize hGoal36 : wpAny _ _ _ _ _ _ = Goal36) | (dsimp only; with_reducible show wpAny _ _ _ _ _ _; generalize hGoal36 : wpAny _ _ _ _ _ _ = Goal36) | (generalize hGoal36 : True = Goal36))
  obtain ⟨i, b, r, v, hr, hij, hv6, hdr, rfl, ⟨t, m1⟩, ⟨t', m2⟩, m3, hc, hg⟩ := hJ
  subst hGoal36
  have hv7 : (v : Int).natAbs < 2 ^ 64 := by
    have h1 : 64 ^ (i + 1) ≤ 64 ^ 9 := Nat.pow_le_pow_right (by decide) (v_le hij hln)
    have h2 : v < 64 ^ 9 := Nat.lt_of_lt_of_le hv6 h1
    rw [Int.natAbs_natCast]
    exact Nat.lt_trans h2 (by decide)
  have hv8 : (0 : Int) ≤ (v : Int) := Int.natCast_nonneg v
  wtm_at "mQ"
  · cases r with
    | nil => exact absurd hc (by assumption)
    | cons n r =>
      have hv : (n0 :: ns)[i + 1]? = some n := by
        have := congrArg (fun l => l[1]?) hdr
        simpa [List.getElem?_drop] using this
      obtain ⟨tn, hvn⟩ := H.2 (i + 1) n hv
      refine' next_list ?Fq ?Nq hvn hne hoff (fun h5 F5 N5 => ?_)
      case Fq => k_asm
      case Nq => k_asm
      wtm_at "mQ"
      rename Fr _ _ _ _ => F9
      rename News _ _ _ _ => N9
      show K .next _
      have hd2 : (n0 :: ns).drop (i + 1) = n :: r := by
        have := congrArg (List.drop 1) hdr
        rw [List.drop_drop] at this
        exact this
      have hv2 : v * 64 + n % 64 < 64 ^ (i + 1 + 1) := by
        exact v_step hv6
      simp only [List.length_cons] at hr
      refine hn r.length _ _ _ _ (v_lt hr) ?_ F9 N9
      refine ⟨i + 1, n, r, v * 64 + n % 64, rfl, v_sum hij hr, hv2, hd2, rfl, ?_, ?_, ?_, hc.2, hg⟩
      · exact ⟨_, rfl⟩
      · exact ⟨_, congrArg (fun z => some (Value.int z _)) (or_step v n)⟩
      · exact m3
  · cases r with
    | cons n r => exact absurd (by assumption) hc.1
    | nil =>
      have hg2 : v = vGo (n0 % 64) ns := hg
      subst hg2
      refine hx _ ?_
      wtm_at "mQ"
      exact hret _ _ _ _ ⟨⟨_, rfl⟩, rfl⟩ (by k_asm) (by rename News h₀ L _ _ => Nz; exact news_drop (news_drop Nz))
end
end Mine
end
section
open PySem PySem.W PyProof.Rows PySem.Calls PySem.Spec
set_option Elab.async false
set_option maxRecDepth 100000
set_option maxHeartbeats 0
namespace Mine
section
variable {w : World} {p : Program} {loose : List Str} {mean : ExcName → Option Value} {mg mb : Str → Option Value} {news : Led}
theorem IntsN.snoc {ys : List Value} {l : List Nat} {i c : Nat} {t : Tok} (h : IntsN ys (l.take i)) (hc : l[i]? = some c) : IntsN (ys ++ [.int (c : Int) t]) (l.take (i + 1)) := by
  rw [List.take_succ, hc]
  refine ⟨by simp [h.1], fun j n hj => ?_⟩
  rcases Nat.lt_or_ge j (l.take i).length with hlt | hge
  · rw [List.getElem?_append_left hlt] at hj
    obtain ⟨u, hu⟩ := h.2 j n hj
    exact ⟨u, by rw [List.getElem?_append_left (by rw [h.1]; exact hlt)]; exact hu⟩
  · rw [List.getElem?_append_right hge] at hj
    have hz : j - (l.take i).length = 0 := by
      have := (List.getElem?_eq_some_iff.mp hj).1
      simp at this ⊢; lia
    rw [hz] at hj
    simp at hj
    subst hj
    refine ⟨t, ?_⟩
    rw [List.getElem?_append_right (by rw [h.1]; exact hge), h.1, hz]
    rfl
theorem c_flags {b l : Addr} {vs : List Value} {k : Nat} {R : Led} {kvs : List (Str × Str)} {x : Str} {t1 : Tok} {n0 : Nat} {ns : List Nat} (B : IsBook R b l) (ml : (l, listOf vs.toArray k) ∈ R) (P : PairsIn R vs kvs) (ok : okStr (Txt.lower x)) (hx : (Txt.lower x).length < 2 ^ 20) (hx' : x.length < 2 ^ 20)
    (hl : ∀ kv ∈ kvs, (Txt.lower kv.1).length < 2 ^ 20 ∧ kv.1.length < 2 ^ 20) (hg : hget kvs (Txt.lower x) = some ⟨(n0 :: ns).toArray⟩) (C : contOk n0 ns) (hln : ns.length ≤ 8) :
    Mine.Claim w p loose mean mg mb 305 [.ref b, .str x t1] [] R 9 90 (fun v n' => (∃ t, v = .int ((vGo (n0 % 64) ns : Nat) : Int) t) ∧ n' = R) := by
  wtm_at "mIN"
  wtm_at "mQ"
  refine comp_open (cl := []) (by rfl) ?_
  wtm_at "mQ"
  (k_here; k_dflt (refine' Mine.c_item B ml P ok hx hx' hl _ _ _ _ _ _ _ _ _ _ _ _ _ _ _ _ _ ?k1z41 ?k2z41 ?k3z41 ?k4z41 ?k5z41 ?kKz41 ?kdz41 ?kuz41 ?kRz41; (case k1z41 => k_asm); (case k2z41 => k_asm); (case k3z41 => k_asm); (case k4z41 => k_asm); (case k5z41 => k_asm); (case kKz41 => first | exact rfl | assumption); (case kdz41 => wtm_at "mRM"); (case kuz41 => wtm_at "mRU")))
  intro v9 n9 h9 tk9 hp9 F9 N9
  (first | (with_reducible show wpAny _ _ _ _ _ _; generalize hGoal37 : wpAny _ _ _ _ _ _ = Goal37) | (dsimp only; with_reducible show wpAny _ _ _ _ _ _; generalize hGoal37 : wpAny _ _ _ _ _ _ = Goal37) | (generalize hGoal37 : True = Goal37))
  obtain ⟨hv9, e9⟩ := hp9
  subst n9
  rw [hg] at hv9
  obtain ⟨tv, rfl⟩ := hv9
  subst hGoal37
  try dsimp only
  try k_fold
  wtm_at "mQ"
  rename Fr _ _ _ _ => F3
  rename News _ _ _ _ => N3
  refine comp_K0 (src_str) F3 N3 ?hn (fun i ys => IntsN ys ((n0 :: ns).take i)) ⟨rfl, fun i n h => by simp at h⟩ ?turn ?done
  case hn =>
    show (n0 :: ns).toArray.size ≤ sizeLine
    rw [List.size_toArray, List.length_cons]
    exact Nat.le_trans (Nat.succ_le_succ hln) (by decide)
  case turn =>
    intro E' Ky Kn C' RR oC mc i v ys h5 tk5 hi hv hyl hR hoffC nC F5 N5 hy hx hys
    clear hR F3 N3 hx
    (first | (with_reducible show wpAny _ _ _ _ _ _; generalize hGoal38 : wpAny _ _ _ _ _ _ = Goal38) | (dsimp only; with_reducible show wpAny _ _ _ _ _ _; generalize hGoal38 : wpAny _ _ _ _ _ _ = Goal38) | (generalize hGoal38 : True = Goal38))
    obtain ⟨c, u, hc, rfl⟩ := hv
    subst hGoal38
    refine own_name (o := oC) F5 N5 nC hoffC ?_
    intro o6 h6 tk6 nC6 F6 N6
    refine ifs_nil ?_
    clear N5 F5
    try dsimp only
    wtm_at "mQ"
    rename Fr _ _ _ _ => F8
    rename News _ _ _ _ => N8
    refine hy _ o6 _ _ _ ?_ nC6 F8 N8
    exact hys.snoc (by rw [← List.getElem?_toArray]; exact hc)
  case done =>
    intro D ys yk h5 tk5 hys hyl hltD F5 N5
    clear F3 N3
    try dsimp only
    wtm_at "mQ"
    have hI : IntsN ys (n0 :: ns) := by
      rw [show (⟨(n0 :: ns).toArray⟩ : Str).cps.size = (n0 :: ns).length from List.size_toArray, List.take_length] at hys
      exact hys
    refine iter_list F5 N5 (.head _) (fun I h6 F6 N6 hlt => ?_)
    have hDI : @Ne Nat D I := Nat.ne_of_lt (hlt (D, listOf ys.toArray yk) (.head _))
    have hoffI : ∀ p ∈ R, p.1 ≠ I := fun p hp => Nat.ne_of_lt (hlt p (.tail _ hp))
    clear F5 N5
    try dsimp only
    wtm_at "mQ"
    (k_here; k_dflt (refine' Mine.c_varint hI C hln hDI hoffI _ _ _ _ _ _ _ _ _ _ _ _ _ _ _ _ _ ?k1z42 ?k2z42 ?k3z42 ?k4z42 ?k5z42 ?kKz42 ?kdz42 ?kuz42 ?kRz42; (case k1z42 => k_asm); (case k2z42 => k_asm); (case k3z42 => k_asm); (case k4z42 => k_asm); (case k5z42 => k_asm); (case kKz42 => first | exact rfl | assumption); (case kdz42 => wtm_at "mRM"); (case kuz42 => wtm_at "mRU")))
    intro v9 n9 h9 tk9 hp9 F9 N9
    (first | (with_reducible show wpAny _ _ _ _ _ _; generalize hGoal39 : wpAny _ _ _ _ _ _ = Goal39) | (dsimp only; with_reducible show wpAny _ _ _ _ _ _; generalize hGoal39 : wpAny _ _ _ _ _ _ = Goal39) | (generalize hGoal39 : True = Goal39))
    obtain ⟨⟨tz, rfl⟩, e9⟩ := hp9
    subst n9
    subst hGoal39
    try dsimp only
    try k_fold
    wtm_at "mQ"
    (refine' hret _ _ _ _ (⟨⟨_, rfl⟩, rfl⟩) ?rFz40 ?rNz40; (case rNz40 => k_asm); (case rFz40 => k_asm))
end
end Mine
end
section
open PySem PySem.W PyProof.Rows PySem.Calls PySem.Spec
set_option Elab.async false
set_option maxRecDepth 100000
set_option maxHeartbeats 0
namespace Mine
section
variable {w : World} {p : Program} {loose : List Str} {mean : ExcName → Option Value} {mg mb : Str → Option Value} {news : Led}
theorem hex_len : ∀ i : Fin 32, (baseText "0x" 16 (1 * 2 ^ ((0 : Int) + ((i : Nat) : Int)).toNat)).length ≤ 20 := by decide +kernel
noncomputable def flagName (f : Int) (d : Str) : Str :=
  if f = 1 then Str.ofString "OPTIMIZED" else if f = 2 then Str.ofString "NEWLOCALS" else if f = 4 then Str.ofString "VARARGS" else if f = 8 then Str.ofString "VARKEYWORDS" else if f = 16 then Str.ofString "NESTED" else
  if f = 32 then Str.ofString "GENERATOR" else if f = 64 then Str.ofString "NOFREE" else if f = 128 then Str.ofString "COROUTINE" else if f = 256 then Str.ofString "ITERABLE_COROUTINE" else if f = 512 then Str.ofString "ASYNC_GENERATOR" else d
theorem get_flag {A : Around} {s : Shared} {h₀ : Heap} {L : Addr} {m : Str → Option Value} {news : Led} {Q E : Value → Shared → Prop} {f : Int} {t1 t2 : Tok} {d : Str} (hF : Fr h₀ L s.heap m) (hN : News h₀ L s.heap news)
    (h : ∀ t tk, Q (.str (flagName f d) t) { s with toks := tk }) : (Mine.pb.heap_1 w.params).In h₀ → Top p loose mean mg mb h₀ → wpAny (model PySem.Challenge.rw_ti0052_01.prog w) A (call (.builtin "dict.get") [.ref 176, .int f t1, .str d t2]) Q E s := by
  k_fill
  intro hX hT
  repeat' (first | walk1 | (dsimp only; walk1))
  all_goals (
    have hh := h (by assumption) (s.toks + 1)
    unfold flagName at hh
    repeat (first | rw [if_pos (by assumption)] at hh | rw [if_neg (by assumption)] at hh)
    exact hh)
theorem strsAre_len {vs : List Value} {ys : List Str} (h : StrsAre vs ys) : vs.length = ys.length := by
  induction h with
  | nil => rfl
  | cons y t r ih => simp [ih]
theorem sum_le {ys : List Str} (hl : ys.length ≤ 40) (h : ∀ y ∈ ys, y.length ≤ 20) : (ys.map (·.length)).sum + ys.length * (Str.ofString ", ").length ≤ 16777216 := by
  have h1 := StrLaws.sumLen_le ys h
  have h2 : (Str.ofString ", ").length = 2 := by decide +kernel
  rw [h2]
  lia
theorem off_upd {l I : Addr} {o : Obj} {led : Led} (h : ∀ p ∈ (l, o) :: led, p.1 ≠ I) (o' : Obj) : ∀ p ∈ (l, o') :: led, p.1 ≠ I := fun p hp => by
  rcases List.mem_cons.mp hp with rfl | hp
  · exact h (l, o) (List.mem_cons_self ..)
  · exact h p (List.mem_cons_of_mem _ hp)
noncomputable def flagI (i : Nat) : Int := 1 * 2 ^ ((0 : Int) + (i : Int)).toNat
theorem flagI_eq (i : Nat) : flagI i = 2 ^ i := by unfold flagI; rw [Int.zero_add, Int.toNat_natCast, Int.one_mul]
noncomputable def pGo : Nat → Nat → Int → List Str → List Str
  | 0, _, fl, nm => nm ++ [baseText "0x" 16 fl]
  | c + 1, i, fl, nm => if Builtin.bitAnd fl (flagI i) ≠ 0 then
      (if Builtin.bitXor fl (flagI i) ≠ 0 then pGo c (i + 1) (Builtin.bitXor fl (flagI i)) (nm ++ [flagName (flagI i) (baseText "0x" 16 (flagI i))]) else nm ++ [flagName (flagI i) (baseText "0x" 16 (flagI i))])
    else pGo c (i + 1) fl nm
theorem xor_bound {fl : Int} {i : Nat} (h0 : 0 ≤ fl) (h : Builtin.bitAnd fl (flagI i) ≠ 0) : 0 ≤ Builtin.bitXor fl (flagI i) ∧ Builtin.bitXor fl (flagI i) ≤ fl := by
  rw [flagI_eq] at h ⊢
  have hp : (0 : Int) < 2 ^ i := kbt_pos i
  rw [bitXor_and]
  rw [kbt_bit] at h ⊢
  have hm : fl / 2 ^ i % 2 = 1 := by
    by_cases e : fl / 2 ^ i % 2 = 0
    · rw [e, Int.zero_mul] at h; exact absurd rfl h
    · lia
  rw [hm, Int.one_mul]
  have hd : 1 ≤ fl / 2 ^ i := by
    have h3 : 0 ≤ fl / 2 ^ i := Int.ediv_nonneg h0 (Int.le_of_lt hp)
    generalize fl / 2 ^ i = q at hm h3
    lia
  have hle : 2 ^ i ≤ fl := by
    have := Int.mul_le_of_le_ediv hp hd
    rwa [Int.one_mul] at this
  lia
theorem base_len {fl : Int} (h0 : 0 ≤ fl) (h1 : fl < 2 ^ 40) : (baseText "0x" 16 fl).length ≤ 20 := by
  rw [baseText_nonneg h0, strLen_append, strLen_append, PySem.ofString_length, PySem.ofString_length, PySem.ofString_length]
  have h7 : (String.ofList (Nat.toDigits 16 fl.natAbs)).length = (Nat.toDigits 16 fl.natAbs).length := String.length_ofList
  have : fl.natAbs < 16 ^ 10 := by
    have h2 : (16 : Nat) ^ 10 = 1099511627776 := by decide
    have h3 : (2 : Int) ^ 40 = 1099511627776 := by decide
    rw [h3] at h1
    rw [h2]
    lia
  have h4 := toDigits_len_pow (b := 16) (k := 10) (by decide) (by decide) this
  have h5 : "".length = 0 := by decide
  have h6 : "0x".length = 2 := by decide
  lia
theorem flagName_len {f : Int} {d : Str} (h : d.length ≤ 20) : (flagName f d).length ≤ 20 := by
  unfold flagName
  repeat (first | (split; · decide) | exact h)
theorem strsAre_snoc {vs : List Value} {ys : List Str} {y : Str} {t : Tok} (h : StrsAre vs ys) : StrsAre (vs ++ [.str y t]) (ys ++ [y]) := by
  induction h with
  | nil => exact .cons y t .nil
  | cons z u r ih => exact .cons z u ih
theorem t_sub {i : Nat} (h : i < 32) : 32 - i = (31 - i) + 1 := Nat.succ_sub (Nat.le_of_lt_succ h)
theorem t_sub2 {i : Nat} : 32 - (i + 1) = 31 - i := Nat.succ_sub_succ 31 i
theorem c_pretty {n : Int} {t1 : Tok} (hn0 : 0 ≤ n) (hn : n < 2 ^ 40) : Mine.Claim w p loose mean mg mb 183 [.int n t1] [] news 1 20 (fun v n' => (∃ t, v = .str (Txt.join (Str.ofString ", ") (pGo 32 0 n [])) t) ∧ n' = news) := by
  wtm_at "mIN"
  wtm_at "mQ"
  refine wpAny_For ?_
  wtm_at "mQ"
  rename IsRange _ _ _ _ _ _ _ _ => hR
  rename Fr _ _ _ _ => F1
  rename News _ _ _ _ => N1
  rename ∀ p ∈ news, _ => hlt
  refine for_KB (n := 32) (src_range hR (by decide) (by decide)) F1 N1 (fun i mm nn => ∃ (fl : Int) (nm : List Value) (ys : List Str) (k : Nat), nn = (_, listOf nm.toArray k) :: news ∧ StrsAre nm ys ∧ (∀ y ∈ ys, y.length ≤ 20) ∧ nm.length ≤ i ∧ 0 ≤ fl ∧ fl < 2 ^ 40 ∧ pGo (32 - i) i fl ys = pGo 32 0 n [] ∧
    (∃ t, mm (Str.ofString "flags") = some (.int fl t)) ∧ mm (Str.ofString "names") = some (.ref _)) ⟨n, [], [], 0, rfl, .nil, by simp, Nat.le_refl _, hn0, hn, rfl, ⟨_, rfl⟩, rfl⟩ ?turn ?done
  case turn =>
    intro E' K I it i v mm nn h6 tk6 hi hv hsub hoff F3 N3 hn hb9 hJ
    clear F1 N1
    (first | (with_reducible show wpAny _ _ _ _ _ _; generalize hGoal43 : wpAny _ _ _ _ _ _ = Goal43) | (dsimp only; with_reducible show wpAny _ _ _ _ _ _; generalize hGoal43 : wpAny _ _ _ _ _ _ = Goal43) | (generalize hGoal43 : True = Goal43))
    obtain ⟨tv, rfl⟩ := hv
    obtain ⟨fl, nm, ys, k, rfl, hys, hyl, hnm, hf0, hf1, hgo, ⟨tf, m1⟩, m2⟩ := hJ
    subst hGoal43
    have hz1 := hex_len ⟨i, hi⟩
    dsimp only at hz1
    have hnm2 : nm.length < 1000 := Nat.lt_of_le_of_lt hnm (Nat.lt_trans hi (by decide))
    have hne : ∀ p ∈ news, p.1 ≠ _ := fun p hp => Nat.ne_of_lt (hlt p hp)
    have hIl : @Ne Nat _ I := hoff _ (List.mem_cons_self ..)
    have hstep : pGo (32 - i) i fl ys = pGo ((31 - i) + 1) i fl ys := by rw [t_sub hi]
    wtm_at "mQ"
    · refine' get_flag ?Fg ?Ng (fun tg tkg => ?_) ?Xg ?Tg
      case Fg => k_asm
      case Ng => k_asm
      case Xg => k_in
      case Tg => k_asm
      wtm_at "mQ"
      · have hb : Builtin.bitAnd fl (flagI i) ≠ 0 := by unfold flagI; assumption
        have hx : Builtin.bitXor fl (flagI i) ≠ 0 := by unfold flagI; assumption
        have hbd := xor_bound hf0 hb
        rename Fr _ _ _ _ => F8
        rename News _ _ _ _ => N8
        rw [List.push_toArray] at N8
        have hgo2 : pGo (32 - (i + 1)) (i + 1) (Builtin.bitXor fl (flagI i)) (ys ++ [flagName (flagI i) (baseText "0x" 16 (flagI i))]) = pGo 32 0 n [] := by
          rw [← hgo, hstep, pGo, if_pos hb, if_pos hx, t_sub2]
        show K .next _
        refine hn _ _ _ _ ?_ (fun p hp => nomatch hp) F8 N8 (off_upd hoff _)
        refine ⟨Builtin.bitXor fl (flagI i), _, _, _, rfl, strsAre_snoc hys, ?_, ?_, hbd.1, Int.lt_of_le_of_lt hbd.2 hf1, hgo2, ?_, ?_⟩
        · intro y hy
          rcases List.mem_append.mp hy with hy | hy
          · exact hyl y hy
          · rw [List.mem_singleton.mp hy]; exact flagName_len hz1
        · rw [List.length_append]; exact Nat.succ_le_succ hnm
        · exact ⟨_, rfl⟩
        · exact m2
      · have hb : Builtin.bitAnd fl (flagI i) ≠ 0 := by unfold flagI; assumption
        have hx : ¬ Builtin.bitXor fl (flagI i) ≠ 0 := by unfold flagI; first | assumption | (intro hxx; exact hxx (by assumption))
        have hfin : pGo 32 0 n [] = ys ++ [flagName (flagI i) (baseText "0x" 16 (flagI i))] := by rw [← hgo, hstep, pGo, if_pos hb, if_neg hx]
        refine hb9 _ ?_
        clear hn hb9
        dsimp only
        wtm_at "mQ"
        rename News _ _ _ _ => N7
        refine join_list (ys := ys ++ [flagName (flagI i) (baseText "0x" 16 (flagI i))]) ⟨_, (N7 _ (List.mem_cons_of_mem _ (List.mem_cons_self ..))).1, rfl, _, rfl⟩ (by rw [List.push_toArray]; exact strsAre_snoc hys) ?sum1 (fun t' k' => ?_)
        case sum1 => exact sum_le (by simp; rw [← strsAre_len hys]; lia) (by
          intro y hy
          rcases List.mem_append.mp hy with hy | hy
          · exact hyl y hy
          · rw [List.mem_singleton.mp hy]; exact flagName_len hz1)
        wtm_at "mQ"
        rw [← hfin]
        refine hret _ _ _ _ ⟨⟨_, rfl⟩, rfl⟩ (by k_asm) (by rename News h₀ L _ _ => Nz; exact news_drop (news_drop Nz))
    · have hb : ¬ Builtin.bitAnd fl (flagI i) ≠ 0 := by unfold flagI; first | assumption | (intro hxx; exact hxx (by assumption))
      rename Fr _ _ _ _ => F8
      rename News _ _ _ _ => N8
      have hgo2 : pGo (32 - (i + 1)) (i + 1) fl ys = pGo 32 0 n [] := by
        rw [← hgo, hstep, pGo, if_neg hb, t_sub2]
      show K .next _
      refine hn _ _ _ _ ?_ (fun p hp => nomatch hp) F8 N8 hoff
      refine ⟨fl, nm, ys, k, rfl, hys, hyl, Nat.le_succ_of_le hnm, hf0, hf1, hgo2, ?_, ?_⟩
      · exact ⟨_, m1⟩
      · exact m2
  case done =>
    intro E' mm nn h6 tk6 hJ hsub F3 N3
    clear F1 N1
    (first | (with_reducible show wpAny _ _ _ _ _ _; generalize hGoal44 : wpAny _ _ _ _ _ _ = Goal44) | (dsimp only; with_reducible show wpAny _ _ _ _ _ _; generalize hGoal44 : wpAny _ _ _ _ _ _ = Goal44) | (generalize hGoal44 : True = Goal44))
    obtain ⟨fl, nm, ys, k, rfl, hys, hyl, hnm, hf0, hf1, hgo, ⟨tf, m1⟩, m2⟩ := hJ
    subst hGoal44
    have hz1 := base_len hf0 hf1
    have hnm2 : nm.length < 1000 := Nat.lt_of_le_of_lt hnm (by decide)
    have hne : ∀ p ∈ news, p.1 ≠ _ := fun p hp => Nat.ne_of_lt (hlt p hp)
    wtm_at "mQ"
    rename News _ _ _ _ => N7
    refine join_list (ys := ys ++ [baseText "0x" 16 fl]) ⟨_, (N7 _ (List.mem_cons_self ..)).1, rfl, _, rfl⟩ (by rw [List.push_toArray]; exact strsAre_snoc hys) ?sum (fun t' k' => ?_)
    case sum => exact sum_le (by simp; rw [← strsAre_len hys]; lia) (by
      intro y hy
      rcases List.mem_append.mp hy with hy | hy
      · exact hyl y hy
      · rw [List.mem_singleton.mp hy]; exact hz1)
    wtm_at "mQ"
    have hfin : pGo 32 0 n [] = ys ++ [baseText "0x" 16 fl] := by rw [← hgo]; rfl
    rw [← hfin]
    refine hret _ _ _ _ ⟨⟨_, rfl⟩, rfl⟩ (by k_asm) (by rename News h₀ L _ _ => Nz; exact news_drop Nz)
end
end Mine
end
section
open PySem PySem.W PyProof.Rows PySem.Calls PySem.Spec
set_option Elab.async false
set_option maxRecDepth 100000
set_option maxHeartbeats 0
namespace Mine
noncomputable def lexE (h1 h2 h3 h4 : Int) (k1 k2 k3 k4 : Tok) (ln : Int) (tl : Tok) (fp : Value) (tw : Tok) (pb : Addr) (more : List DictEntry) : List DictEntry :=
  [⟨h1, .str (Str.ofString "lineno") k1, .int ln tl⟩, ⟨h2, .str (Str.ofString "instream") k2, fp⟩, ⟨h3, .str (Str.ofString "whitespace") k3, .str (Str.ofString "\n\t\r ") tw⟩, ⟨h4, .str (Str.ofString "pushback") k4, .ref pb⟩] ++ more
section
variable {w : World} {p : Program} {loose : List Str} {mean : ExcName → Option Value} {mg mb : Str → Option Value} {news : Led}
theorem c_ptok {x dx pb : Addr} {h1 h2 h3 h4 : Int} {k1 k2 k3 k4 : Tok} {ln : Int} {tl : Tok} {fp : Value} {tw : Tok} {n : Nat} {ps : List Value} {k : Nat} {R : Led} {v : Value} (mx : (x, instObj 228 dx) ∈ R) (md : (dx, dictOf (lexE h1 h2 h3 h4 k1 k2 k3 k4 ln tl fp tw pb []) n) ∈ R) (hps : ps.length < 1000) (hoff : ∀ p ∈ R, p.1 ≠ pb) :
    Mine.Claim w p loose mean mg mb 225 [.ref x, v] [] ((pb, listOf ps.toArray k) :: R) 1 20 (fun r n' => r = .none ∧ n' = (pb, listOf (ps ++ [v]).toArray (k + 1)) :: R) := by
  have hx : @Ne Nat x pb := hoff _ mx
  have hd : @Ne Nat dx pb := hoff _ md
  wtm_at "mIN"
  rename News _ _ _ _ => N1
  dsimp only [lexE, List.cons_append, List.nil_append] at md
  have N1 := news_more (news_more N1 (.tail _ md)) (.tail _ (.tail _ mx))
  wtm_at "mQ"
  rename News h₀ L _ _ => N9
  rw [List.push_toArray] at N9
  exact hret _ _ _ _ ⟨rfl, rfl⟩ (by k_asm) (news_sub N9 (fun p hp => .tail _ (.tail _ hp)))
inductive LexNew (fp : Value) (news : Led) (r : Value) (n' : Led) : Prop
  | mk (x d pb : Addr) (h1 h2 h3 h4 : Int) (k1 k2 k3 k4 : Tok) (tl tw : Tok) : r = .ref x → (∀ p ∈ news, p.1 < d) → @LT.lt Nat _ d x → @LT.lt Nat _ x pb → n' = (pb, listOf #[] 0) :: (x, instObj 228 d) :: (d, dictOf (lexE h1 h2 h3 h4 k1 k2 k3 k4 1 tl fp tw pb []) 4) :: news → LexNew fp news r n'
theorem c_lex {fp : Value} : Mine.Claim w p loose mean mg mb 228 [fp] [] news 2 20 (LexNew fp news) := by
  unfold Mine.Claim; k_fill; intro dp un gd cn cs a' ccd cl outer A₀ base h₀ L m s Q E hB hF hX hN hT hk hd hu hret
  (refine' call_cls ?k1 ?k2 ?k3 ?k4 ?k5 ?k6 ?_; (case k1 => k_asm); (case k2 => k_asm); (case k3 => k_asm); (case k4 => k_is); (case k5 => k_is); (case k6 => k_is); k_whole; intro x' d' h' F' N' l1 l2; (try k_lt2 l2); (try k_sweep); wtm_at "mENTER")
  have lr : ∀ p ∈ news, p.1 ≠ d' := fun p hp => Nat.ne_of_lt (l1 p hp)
  wtm_at "mQ"
  refine' hret _ _ _ _ ⟨x', d', _, _, _, _, _, _, _, _, _, _, _, rfl, l1, ?hx, ?hp, rfl⟩ ?rF ?rN
  case rN => k_asm
  case rF => k_asm
  all_goals first | assumption | lia
end
end Mine
end
section
open PySem PySem.W PyProof.Rows PySem.Calls PySem.Spec
set_option Elab.async false
set_option maxRecDepth 100000
set_option maxHeartbeats 0
namespace Mine
section
variable {M : Model} {A : Around} {E : Value → Shared → Prop} {s : Shared}
theorem wpAny_callBorrowed {f : Value} {pos : List Value} {Q : Value → Shared → Prop}
    (hc : codeAny M A (.call f ⟨pos, []⟩) (fun r s' => match r with | .ok (.ret v) => Q v s' | .ok _ => False | .error e => E e s') s) :
    wpAny M A (callBorrowed f pos) Q E s := fun Γ p hΓ => by
  have h := hc _ p rfl (hΓ.enter _ none p (by intro x; cases x))
  show Sem.wp M Γ (callBorrowed f pos) _ _ p s
  unfold callBorrowed
  rw [Sem.wp_call]
  refine Eq.mp ?_ h
  congr 1
  funext r s'
  cases r with
  | error e => rfl
  | ok fl => cases fl <;> rfl
end
theorem cit_look : typeLookup (.type "callable_iterator") "__next__" = pure (some (.builtin "callable_iterator.__next__")) := by rw [typeLookup_type, builtinLookup_eq_fast]; kernel_rfl
theorem cit_slot : Slot "callable_iterator" "__next__" "callable_iterator.__next__" := .of (owner := "callable_iterator") (n := "__next__") cit_look (by decide +kernel) (by decide +kernel) (by decide +kernel)
  (by first | exact .inl (by decide +kernel) | exact .inr (by decide +kernel)) (by rw [isSubtype_type]; kernel_rfl)
theorem cit_entry : entryFor table "callable_iterator.__next__" = some Builtin.«callable_iterator.__next__» := entryFor_of_tree (by kernel_rfl)
theorem cit_args (a : Value) : argsOk "callable_iterator.__next__" ⟨[a], []⟩ := by unfold argsOk; kernel_rfl
noncomputable def citO (q : Addr) (t : Tok) : Obj := { cls := .type "callable_iterator", data := .fields #[.ref q, .str (Str.ofString "") t, .bool false] }
noncomputable def citE : Obj := { cls := .type "callable_iterator", data := .fields #[.none, .none, .bool true] }
section
variable {prog : Program} {w : World} {A : Around} {E : Value → Shared → Prop} {s : Shared} {h₀ : Heap} {L : Addr} {m : Str → Option Value} {news : Led}
theorem borrows_meth {q f x : Addr} {of : Obj} {fd : FuncData} {Q : Bool → Shared → Prop} (gq : s.heap.get? q = some (methodObj (.ref f) (.ref x))) (gf : s.heap.get? f = some of) (hof : of.data = .func fd) (h : Q true s) :
    wpAny (model prog w) A (borrowsExactly (.ref q)) Q E s := by
  unfold borrowsExactly
  dsimp only
  refine wpAny_bind (wpAny_load gq ?_)
  show wpAny _ _ (if (Value.type "method" == Value.type "method") = true then _ else _) _ _ _
  first | refine wif_pos (by decide) ?_ | rw [if_pos (by decide)]
  show wpAny _ _ (load f >>= _) _ _ _
  refine wpAny_bind (wpAny_load gf ?_)
  rw [hof]
  exact wpAny_pure h
theorem next_cit {I q f x : Addr} {t : Tok} {of : Obj} {fd : FuncData} {Q : Option Value → Shared → Prop} (gI : s.heap.get? I = some (citO q t)) (gq : s.heap.get? q = some (methodObj (.ref f) (.ref x))) (gf : s.heap.get? f = some of) (hof : of.data = .func fd) (hh : A.handled = none)
    (h : codeAny (model prog w) A.in1 (.call (.ref f) ⟨[.ref x], []⟩) (fun r s' => match r with
      | .ok (.ret v) => s'.heap.get? I = some (citO q t) ∧ s'.heap.get? q = some (methodObj (.ref f) (.ref x)) ∧ s'.heap.get? f = some of ∧ ∃ y u, v = .str y u ∧
          (y ≠ Str.ofString "" → Q (some v) s') ∧ (y = Str.ofString "" → ∀ h' tk', h'.get? I = some citE → Heap.ExtBut I s'.heap h' → Q none { s' with heap := h', toks := tk' })
      | _ => False) s) :
    wpAny (model prog w) A (pyNext (.ref I)) Q E s := by
  have hT : s.TypeIs (.ref I) "callable_iterator" := ⟨_, gI, rfl⟩
  have hd : (citO q t).data = .fields #[.ref q, .str (Str.ofString "") t, .bool false] := rfl
  unfold pyNext
  refine wpAny_bind (wpAny_attempt (wpAny_callSpecial?_slot (name := Str.ofString "__next__") hT cit_slot
    (wpAny_call_entry cit_slot hT cit_entry ?_ (cit_args _))))
  show wpAny _ _ (field (.ref I) 2 >>= _) _ _ s
  refine wpAny_bind (wpAny_field gI hd (x := .bool false) rfl ?_)
  show wpAny _ _ (if (Value.bool false == Value.bool true) = true then _ else _) _ _ s
  first | refine wif_neg (show ¬ ((Value.bool false == Value.bool true) = true) from Bool.false_ne_true) ?_ | rw [if_neg (show ¬ ((Value.bool false == Value.bool true) = true) from Bool.false_ne_true)]
  show wpAny _ _ (field (.ref I) 0 >>= _) _ _ s
  refine wpAny_bind (wpAny_field gI hd (x := .ref q) rfl ?_)
  refine wpAny_bind (wpAny_attempt ?_)
  unfold callOutOfASlot
  refine wpAny_bind (borrows_meth gq gf hof ?_)
  first | refine wif_pos rfl ?_ | rw [if_pos rfl]
  refine wpAny_callBorrowed (method_call gq ?_)
  refine codeAny_mono h fun r s' hr => ?_
  match r, hr with
  | .ok (.ret v), hr =>
    obtain ⟨gI', gq', gf', y, u, rfl, hsome, hnone⟩ := hr
    dsimp only
    refine wpAny_bind (wpAny_field gI' hd (x := .bool false) rfl ?_)
    show wpAny _ _ (if (Value.bool false == Value.bool true) = true then _ else _) _ _ s'
    first | refine wif_neg (show ¬ ((Value.bool false == Value.bool true) = true) from Bool.false_ne_true) ?_ | rw [if_neg (show ¬ ((Value.bool false == Value.bool true) = true) from Bool.false_ne_true)]
    refine wpAny_bind (wpAny_field gI' hd (x := .str (Str.ofString "") t) rfl ?_)
    refine wpAny_bind (wpAny_holding (wpAny_eqBool_str ?_))
    by_cases hy : y = Str.ofString ""
    · first | refine wif_neg (by rw [hy]; decide) ?_ | rw [if_neg (by rw [hy]; decide)]
      refine wpAny_bind (wpAny_rule ?_)
      show wpAny _ _ ((_ : Sem Unit) >>= _) _ _ _
      refine wpAny_bind ?_
      show wpAny _ _ (field (.ref I) 0 >>= _) _ _ _
      refine wpAny_bind (wpAny_field gI' hd (x := .ref q) rfl ?_)
      show wpAny _ _ (slotLetsGo _ (.ref q) _ >>= _) _ _ _
      refine wpAny_bind ?_
      unfold slotLetsGo
      dsimp only
      refine wpAny_bind (borrows_meth gq' gf' hof ?_)
      first | refine wif_pos rfl ?_ | rw [if_pos rfl]
      refine wpAny_pure ?_
      show wpAny _ _ (setField (.ref I) 0 .none >>= _) _ _ _
      refine wpAny_bind (wpAny_setField gI' hd (by simp) ?_)
      have g1 := Heap.get?_update_self (Obj.mapFields (·.setIfInBounds 0 Value.none)) gI' rfl
      show wpAny _ _ (setField (.ref I) 1 .none >>= _) _ _ _
      refine wpAny_bind (wpAny_setField g1 (rfl : _ = Data.fields #[.none, .str (Str.ofString "") t, .bool false]) (by simp) ?_)
      have g2 := Heap.get?_update_self (Obj.mapFields (·.setIfInBounds 1 Value.none)) g1 rfl
      show wpAny _ _ (setField (.ref I) 2 (.bool true)) _ _ _
      refine wpAny_setField g2 (rfl : _ = Data.fields #[.none, .none, .bool false]) (by simp) ?_
      have g3 := Heap.get?_update_self (Obj.mapFields (·.setIfInBounds 2 (Value.bool true))) g2 rfl
      unfold Builtin.SmallTypes.stopIteration
      refine wpAny_bind ?_
      dsimp only [newExc, newTuple]
      refine wpAny_bind (wpAny_newObj_type ?_ (by size_fits))
      refine wpAny_bind (m := firstArgMember _ _) (wpAny_of_eq (a := Value.none) (by first | rfl | (simp only [firstArgMember]; rfl)) ?_)
      refine wpAny_newObj_type ?_ (by size_fits)
      dsimp only [raiseNew]
      refine wpAny_bind (wpAny_handled ?_)
      rw [show A.in1.handled = none from hh]
      refine wpAny_bind (wpAny_pure (wpAny_throw ?_))
      refine wpAny_bind (wpAny_isInstance (T := "StopIteration") (b := true) ⟨_, Heap.get?_push_size _ rfl, rfl⟩ isSubtype_stop ?_)
      have e1 : Heap.SameBut I s'.heap (s'.heap.update I (Obj.mapFields (·.setIfInBounds 0 Value.none))) := Heap.SameBut.update ..
      refine wpAny_pure (hnone hy _ _ (Heap.get?_push_of_some _ (Heap.get?_push_of_some _ g3)) ?_)
      exact ((((Heap.SameBut.update ..).extBut).trans ((Heap.SameBut.update ..).extBut)).trans ((Heap.SameBut.update ..).extBut) |>.push _).push _
    · first | refine wif_pos (by rw [decide_eq_false (fun e => hy e.symm)]; rfl) ?_ | rw [if_pos (by rw [decide_eq_false (fun e => hy e.symm)]; rfl)]
      exact wpAny_bind (wpAny_pure (wpAny_pure ⟨_, rfl, wpAny_pure (hsome hy)⟩))
theorem next_citE {I : Addr} {Q : Option Value → Shared → Prop} (gI : s.heap.get? I = some citE) (hh : A.handled = none) (h : ∀ h', (∀ b o, s.heap.get? b = some o → h'.get? b = some o) → Q none { s with heap := h' }) :
    wpAny (model prog w) A (pyNext (.ref I)) Q E s := by
  have hT : s.TypeIs (.ref I) "callable_iterator" := ⟨_, gI, rfl⟩
  have hd : citE.data = .fields #[.none, .none, .bool true] := rfl
  unfold pyNext
  refine wpAny_bind (wpAny_attempt (wpAny_callSpecial?_slot (name := Str.ofString "__next__") hT cit_slot
    (wpAny_call_entry cit_slot hT cit_entry ?_ (cit_args _))))
  show wpAny _ _ (field (.ref I) 2 >>= _) _ _ s
  refine wpAny_bind (wpAny_field gI hd (x := .bool true) rfl ?_)
  show wpAny _ _ (if (Value.bool true == Value.bool true) = true then _ else _) _ _ s
  first | refine wif_pos (by decide) ?_ | rw [if_pos (by decide)]
  refine wpAny_bind (wpAny_rule ?_)
  show wpAny _ _ (Builtin.SmallTypes.stopIteration >>= _) _ _ s
  refine wpAny_bind ?_
  unfold Builtin.SmallTypes.stopIteration
  refine wpAny_bind ?_
  dsimp only [newExc, newTuple]
  refine wpAny_bind (wpAny_newObj_type ?_ (by size_fits))
  refine wpAny_bind (m := firstArgMember _ _) (wpAny_of_eq (a := Value.none) (by first | rfl | (simp only [firstArgMember]; rfl)) ?_)
  refine wpAny_newObj_type ?_ (by size_fits)
  dsimp only [raiseNew]
  refine wpAny_bind (wpAny_handled ?_)
  rw [show A.in1.handled = none from hh]
  refine wpAny_bind (wpAny_pure (wpAny_throw ?_))
  refine wpAny_bind (wpAny_isInstance (T := "StopIteration") (b := true) ⟨_, Heap.get?_push_size _ rfl, rfl⟩ isSubtype_stop ?_)
  exact wpAny_pure (h _ fun b o e => Heap.get?_push_of_some _ (Heap.get?_push_of_some _ e))
end
end Mine
end
section
open PySem PySem.W PyProof.Rows PySem.Calls PySem.Spec
set_option Elab.async false
set_option maxRecDepth 100000
set_option maxHeartbeats 0
namespace Mine
section
variable {w : World} {p : Program} {loose : List Str} {mean : ExcName → Option Value} {mg mb : Str → Option Value} {news : Led}
noncomputable def Reads1 (w : World) (p : Program) (loose : List Str) (mean : ExcName → Option Value) (mg mb : Str → Option Value) (fn : Addr) (as : List Addr) (R : List Nat → Led → Prop) : Prop :=
  (∀ cs led, R cs led → led.map (·.1) = as ∧ ∃ o fd, (fn, o) ∈ led ∧ o.data = .func fd) ∧ ∀ cs led rest t, R cs led → (∀ q ∈ rest, ∀ a ∈ as, q.1 ≠ a) → Mine.Claim w p loose mean mg mb fn [.int 1 t] [] (led ++ rest) 2 20
    (fun v n' => match cs with
      | [] => (∃ u, v = .str (Str.ofString "") u) ∧ n' = led ++ rest
      | c :: cs' => ∃ u led', v = .str ⟨#[c]⟩ u ∧ R cs' led' ∧ n' = led' ++ rest)
theorem kl_last_snoc : ∀ (vs : List Value) (y : Value), kl_last (vs ++ [y]).toArray.toList = some (vs, y) := by
  intro vs y
  rw [List.toList_toArray]
  induction vs with
  | nil => rfl
  | cons a r ih => cases r with
    | nil => rfl
    | cons b r => simp only [List.cons_append] at ih ⊢; unfold kl_last; simp only [ih]
theorem strsAre_last {y : Str} {ys : List Str} : ∀ {vs : List Value}, StrsAre vs (ys ++ [y]) → ∃ vs' u, vs = vs' ++ [.str y u] ∧ StrsAre vs' ys := by
  induction ys with
  | nil =>
    intro vs h
    cases h with
    | cons _ u h => cases h; exact ⟨[], u, rfl, .nil⟩
  | cons z ys ih =>
    intro vs h
    cases h with
    | cons _ t h =>
      obtain ⟨vs', u, rfl, h'⟩ := ih h
      exact ⟨_ :: vs', u, rfl, .cons z t h'⟩
noncomputable def Rof (f : Addr) (o1 : Obj) (c : Addr) (o2 : Obj) (cell : Addr) (oc : Obj) (D : Addr) (cs : List Nat) (led : Led) : Prop :=
  cs.length ≤ 4000 ∧ ∃ vs k, StrsAre vs (cs.reverse.map fun c => (⟨#[c]⟩ : Str)) ∧ led = [(f, o1), (c, o2), (cell, oc), (D, listOf vs.toArray k)]
set_option genInjectivity false in
set_option genSizeOf false in
structure LexP where
  (lx dlx pb st dst f pb0 : Addr)
  (a1 a2 a3 a4 b1 b2 b3 b4 b5 : Int)
  (k1 k2 k3 k4 m1 m2 m3 m4 m5 tw tl0 tw0 : Tok)
noncomputable abbrev LexP.adr (X : LexP) : List Addr := [X.lx, X.dlx, X.pb, X.st, X.dst]
noncomputable def LexP.outer (X : LexP) (ln : Int) (tl : Tok) : Obj := dictOf (lexE X.a1 X.a2 X.a3 X.a4 X.k1 X.k2 X.k3 X.k4 ln tl (.ref X.st) X.tw X.pb []) 4
noncomputable def LexP.inner (X : LexP) : Obj := dictOf (lexE X.b1 X.b2 X.b3 X.b4 X.m1 X.m2 X.m3 X.m4 1 X.tl0 .none X.tw0 X.pb0 [⟨X.b5, .str (Str.ofString "read") X.m5, .ref X.f⟩]) 5
noncomputable abbrev lexL (X : LexP) (ln : Int) (tl : Tok) (ps : List Value) (k : Nat) : Led := [(X.lx, instObj 228 X.dlx), (X.dlx, X.outer ln tl), (X.pb, listOf ps.toArray k), (X.st, instObj 228 X.dst), (X.dst, X.inner)]
noncomputable abbrev Dist (as : List Addr) : Prop := as.Pairwise (fun a b => @Ne Nat a b)
noncomputable abbrev Off (as : List Addr) (rest : Led) : Prop := ∀ p ∈ rest, ∀ a ∈ as, @Ne Nat p.1 a
theorem strsAre_rev {vs : List Value} {ys : List Str} (h : StrsAre vs ys) : StrsAre vs.reverse ys.reverse := by
  induction h with
  | nil => exact .nil
  | cons y t r ih => rw [List.reverse_cons, List.reverse_cons]; exact strsAre_snoc ih
theorem asc {a b : Nat} {l : List Nat} (h : a < b) (P : (b :: l).Pairwise (· < ·)) : (a :: b :: l).Pairwise (· < ·) :=
  List.pairwise_cons.mpr ⟨fun y hy => by
    rcases List.mem_cons.mp hy with rfl | hy
    · exact h
    · exact Nat.lt_trans h ((List.pairwise_cons.mp P).1 y hy), P⟩
theorem dist10 {c D d s q k f e x z : Nat} (P : [c, D, d, s, q, k, f, e, x, z].Pairwise (· < ·)) : Dist [q, x, e, z, s, d, f, k, c, D] :=
  ((P.imp fun h => Nat.ne_of_lt h).perm (((by decide : ([0, 1, 2, 3, 4, 5, 6, 7, 8, 9] : List Nat).Perm [4, 8, 7, 9, 3, 2, 6, 5, 0, 1])).map fun i => [c, D, d, s, q, k, f, e, x, z].getD i 0) fun h => h.symm)
theorem asc10 {c D d s q k f e x z : Nat} (h1 : c < D) (h2 : D < d) (h3 : d < s) (h4 : s < q) (h5 : q < k) (h6 : k < f) (h7 : f < e) (h8 : e < x) (h9 : x < z) : [c, D, d, s, q, k, f, e, x, z].Pairwise (· < ·) :=
  asc h1 (asc h2 (asc h3 (asc h4 (asc h5 (asc h6 (asc h7 (asc h8 (asc h9 (List.pairwise_singleton _ _)))))))))
theorem dist9 {c D d s q k f e x z : Nat} (P : [c, D, d, s, q, k, f, e, x, z].Pairwise (· < ·)) : Dist [x, e, z, s, d, f, k, c, D] := (List.pairwise_cons.mp (dist10 P)).2
theorem off9 {c D d s q k f e x z : Nat} {news : Led} {o1 o2 : Obj} (hn : ∀ p ∈ news, @LT.lt Nat _ p.1 c) (h0 : 290 < c) (P : [c + 1, D, d, s, q, k, f, e, x, z].Pairwise (· < ·)) :
    Off [x, e, z, s, d, f, k, c + 1, D] ((290, o1) :: (q, o2) :: news) := by
  have hq := (List.pairwise_cons.mp (dist10 P)).1
  have hc : ∀ a ∈ [x, e, z, s, d, f, k, c + 1, D], c < a := by
    have h := (List.pairwise_cons.mp P).1
    have h2 : ∀ a ∈ [c + 1, D, d, s, q, k, f, e, x, z], c < a := fun a ha => by
      rcases List.mem_cons.mp ha with rfl | ha
      · exact Nat.lt_succ_self _
      · exact Nat.lt_trans (Nat.lt_succ_self _) (h a ha)
    intro a ha
    refine h2 a ?_
    have hp := ((by decide : ([0, 1, 2, 3, 4, 5, 6, 7, 8, 9] : List Nat).Perm [4, 8, 7, 9, 3, 2, 6, 5, 0, 1])).map fun i => [c + 1, D, d, s, q, k, f, e, x, z].getD i 0
    exact hp.symm.subset (List.mem_cons_of_mem q ha)
  intro p hp a ha
  rcases List.mem_cons.mp hp with rfl | hp
  · exact Nat.ne_of_lt (Nat.lt_trans h0 (hc a ha))
  · rcases List.mem_cons.mp hp with rfl | hp
    · exact hq a ha
    · exact Nat.ne_of_lt (Nat.lt_trans (hn p hp) (hc a ha))
theorem news_lex {h₀ h : Heap} {L : Addr} {p1 p2 p3 p4 p5 p6 p7 p8 p9 p10 p11 : Addr × Obj} {r : Led} (N : News h₀ L h (p1 :: p2 :: p3 :: p4 :: p5 :: p6 :: p7 :: p8 :: p9 :: p10 :: p11 :: r)) :
    News h₀ L h (p2 :: p3 :: p1 :: p7 :: p8 :: p4 :: p5 :: p10 :: p9 :: p11 :: p6 :: r) := fun p hp => N p (by
  exact Mine.sub_at hp (by wtm_at "per"))
inductive LexerP (w : World) (p : Program) (loose : List Str) (mean : ExcName → Option Value) (mg mb : Str → Option Value) (x : Str) (news : Led) (r : Value) (n' : Led) : Prop
  | mk (X : LexP) (as : List Addr) (R : List Nat → Led → Prop) (led : Led) (tl : Tok) (tp : Array Value) : r = .ref X.lx → n' = lexL X 1 tl [] 0 ++ (led ++ ((290, tabObj tp) :: (X.pb0, listOf #[] 0) :: news)) →
    Reads1 w p loose mean mg mb X.f as R → R x.cps.toList led → Dist (X.adr ++ as) → Off (X.adr ++ as) ((290, tabObj tp) :: (X.pb0, listOf #[] 0) :: news) → LexerP w p loose mean mg mb x news r n'
theorem c_lexer {x : Str} {t1 : Tok} (hx : x.length ≤ 4000) (hoff : ∀ p ∈ news, p.1 ≠ 290) : Mine.Claim w p loose mean mg mb 293 [.str x t1] [] ((290, tabObj #[]) :: news) 5 40 (LexerP w p loose mean mg mb x news) := by
  wtm_at "mIN"
  have lr : ∀ p ∈ news, p.1 ≠ L' + 1 := fun p hp => Nat.ne_of_lt (Nat.lt_succ_of_lt (lt_of_all l1.2 p hp))
  have l290 : @LT.lt Nat _ 290 L' := l1.1
  have CH : CodeHd g' 292 290 := codeHd_of_K X' (by kernel_rfl)
  wtm_at "mQ"
  walk1
  refine comp_open (cl := []) (by rfl) ?_
  wtm_at "mQ"
  rename Fr _ _ _ _ => F3
  rename News _ _ _ _ => N3
  refine comp_K0 (src_str) F3 N3 ?hn (fun i ys => StrsAre ys ((x.cps.toList.take i).map fun c => ⟨#[c]⟩)) (by simp; exact .nil) ?turn ?done
  case hn => exact Nat.le_trans hx (by decide)
  case turn =>
    intro E' Ky Kn C' R oC mc i v ys h5 tk5 hi hv hyl hR hoffC nC F5 N5 hy hx' hys
    clear hR F3 N3 hx'
    (first | (with_reducible show wpAny _ _ _ _ _ _; generalize hGoal45 : wpAny _ _ _ _ _ _ = Goal45) | (dsimp only; with_reducible show wpAny _ _ _ _ _ _; generalize hGoal45 : wpAny _ _ _ _ _ _ = Goal45) | (generalize hGoal45 : True = Goal45))
    obtain ⟨c, u, hc, rfl⟩ := hv
    subst hGoal45
    refine own_name (o := oC) F5 N5 nC hoffC ?_
    intro o6 h6 tk6 nC6 F6 N6
    refine ifs_nil ?_
    clear N5 F5
    try dsimp only
    wtm_at "mQ"
    rename Fr _ _ _ _ => F8
    rename News _ _ _ _ => N8
    refine hy _ o6 _ _ _ ?_ nC6 F8 N8
    have hc' : x.cps.toList[i]? = some c := by rw [Array.getElem?_toList]; exact hc
    rw [List.take_succ, hc', List.map_append]
    exact strsAre_snoc hys
  case done =>
    intro D ys yk h5 tk5 hys hyl hltD F5 N5
    clear F3 N3
    have lD : @LT.lt Nat _ (L' + 1) D := hltD _ (List.mem_cons_self ..)
    have hy2 : ys.length ≤ 4000 := Nat.le_trans hyl hx
    have lrD : ∀ p ∈ news, p.1 ≠ D := fun p hp => Nat.ne_of_lt (hltD p (.tail _ (.tail _ hp)))
    try dsimp only
    wtm_at "mQ"
    try dsimp only
    refine' kl_reverse (l := ys.reverse) ?Fv ?Nv (by rw [List.toList_toArray]) ?Uv ?zv (fun h8 F8 N8 => ?_)
    case Fv => k_asm
    case Nv => k_asm
    case Uv => k_upd
    case zv => rw [List.toList_toArray]; exact Nat.le_trans hy2 (by decide)
    dsimp only at N8 ⊢
    wtm_at "mQ"
    (k_here; k_dflt (refine' Mine.c_lex _ _ _ _ _ _ _ _ _ _ _ _ _ _ _ _ _ ?k1z46 ?k2z46 ?k3z46 ?k4z46 ?k5z46 ?kKz46 ?kdz46 ?kuz46 ?kRz46; (case k1z46 => k_asm); (case k2z46 => k_asm); (case k3z46 => k_asm); (case k4z46 => k_asm); (case k5z46 => k_asm); (case kKz46 => first | exact rfl | assumption); (case kdz46 => wtm_at "mRM"); (case kuz46 => wtm_at "mRU")))
    intro v9 n9 h9 tk9 hp9 F9 N9
    obtain ⟨st, dst, pb, b1, b2, b3, b4, m1, m2, m3, m4, tl0, tw0, rfl, q1, q2, q3, rfl⟩ := hp9
    have qa := allLt_of q1
    simp only [AllLt] at qa
    try dsimp only
    try k_fold
    wtm_at "mQ"
    rename _ ∧ _ ∧ _ ∧ _ ∧ _ ∧ _ ∧ AllLt _ _ => u1
    rename @LT.lt Nat _ _ _ => u2
    (k_here; k_dflt (refine' Mine.c_lex _ _ _ _ _ _ _ _ _ _ _ _ _ _ _ _ _ ?k1z47 ?k2z47 ?k3z47 ?k4z47 ?k5z47 ?kKz47 ?kdz47 ?kuz47 ?kRz47; (case k1z47 => k_asm); (case k2z47 => k_asm); (case k3z47 => k_asm); (case k4z47 => k_asm); (case k5z47 => k_asm); (case kKz47 => first | exact rfl | assumption); (case kdz47 => wtm_at "mRM"); (case kuz47 => wtm_at "mRU")))
    intro v9 n9 h9 tk9 hp9 F9 N9
    obtain ⟨lx, dlx, pb2, e1, e2, e3, e4, k1, k2, k3, k4, tl, tw, rfl, r1, r2, r3, rfl⟩ := hp9
    try dsimp only
    try k_fold
    wtm_at "mQ"
    have z1 := allLt_of r1
    simp only [AllLt] at z1
    rename News _ _ _ _ => Nk
    refine' hret _ _ _ _ ?post ?rF (news_lex Nk)
    case rF => k_asm
    case post =>
      refine' ⟨⟨lx, dlx, pb2, st, dst, _, pb, e1, e2, e3, e4, b1, b2, b3, b4, _, k1, k2, k3, k4, m1, m2, m3, m4, _, tw, tl0, tw0⟩, [_, _, _, _], Rof _ _ _ _ _ _ _, [_, _, _, _], _, _, rfl, rfl, ?rd, ⟨?ini, _, _, ?hys, rfl⟩, ?dist, ?off⟩
      case rd =>
        refine ⟨fun cs led h => by obtain ⟨_, vs, k, _, rfl⟩ := h; refine ⟨?_, _, _, .head _, rfl⟩; rfl, ?_⟩
        rintro sg led rest tq ⟨hsg, vs, kq, hvs, rfl⟩ hoffq
        unfold Mine.Claim
        k_fill
        intro dp un gd cn cs a' ccd cl outer A₀ base h₀ L m s Q E hB hF hX hN hT hk hd hu hret
        refine wpAny_call ?_
        k_dflt ((refine' kla_code ?k1 ?k2 ?k3 ?k4 ?k5 ?kA ?kF ?kK ?k6 ?k7 ?k8 ?k9 ?kB ?_ ?c2 ?c3 ?c4 ?c5; (case kA => exact rfl); (case kF => exact rfl); (case kK => first | exact rfl | assumption); (case k1 => k_asm); (case k2 => k_asm); (case k3 => k_asm); (case k4 => k_asm); (case k5 => k_asm); (case k6 => k_mem); (case k7 => exact codeRec_news (by k_asm) (by k_mem) (by assumption) (by assumption)); (case k8 => wtm_at "mRM"); (case k9 => exact rfl); (case c5 => decide); (case kB => exact locs rfl); (case c2 => exact rfl); (case c3 => exact rfl); (case c4 => exact rfl); k_whole; intro g' L' h' FG' F' N' B' X' T'; (try dsimp only); (try k_lift B'); (try k_fold)))
        cases sg with
        | nil =>
          cases hvs
          wtm_at "mQ"
          exact hret _ _ _ _ ⟨⟨_, rfl⟩, rfl⟩ (by k_asm) (by k_asm)
        | cons cc sg =>
          rw [List.reverse_cons, List.map_append] at hvs
          obtain ⟨vs, u, rfl, hvs2⟩ := strsAre_last hvs
          have hlv : vs.length + 1 ≤ 4000 := by
            have := strsAre_len hvs2
            simp at this hsg
            lia
          repeat' ((fail_if_success (with_reducible show wpAny _ _ (truthy (Value.ref _)) ..)); wtm_at "mNOLOOP"; wtm_at "mSTEQ")
          rename News _ _ _ _ => Nt
          refine wpAny_truthy_list ⟨_, (Nt _ (.tail _ (.tail _ (.tail _ (.head _))))).1, rfl, _, rfl⟩ ?fit ?_
          case fit => simp; lia
          have hne1 : (!(vs ++ [Value.str (⟨#[cc]⟩ : Str) u]).toArray.isEmpty) = true := by simp
          rw [hne1]
          try dsimp only
          wtm_at "mQ"
          try dsimp only
          refine' kl_pop (p := vs) (y := .str ⟨#[cc]⟩ u) ?Fp ?Np ?ep ?Up ?zp (fun h8 F8 N8 => ?_)
          case Fp => k_asm
          case Np => k_asm
          case ep => exact kl_last_snoc vs _
          case Up => k_upd
          case zp => rw [List.toList_toArray]; simp; exact Nat.le_trans hlv (by decide)
          try dsimp only
          wtm_at "mQ"
          refine' hret _ _ _ _ ⟨u, _, rfl, ⟨?lenx, vs, _, hvs2, rfl⟩, rfl⟩ ?rFx ?rNx
          case rNx => k_asm
          case rFx => k_asm
          case lenx => simp at hsg; lia
      case ini => exact hx
      case hys =>
        rw [List.take_of_length_le (by rw [Array.length_toList]; exact Nat.le_refl _)] at hys
        rw [List.map_reverse]
        exact strsAre_rev hys
      case dist => exact dist9 (asc10 lD qa.1 q2 q3 u1.1 u2 z1.1 r2 r3)
      case off => exact off9 (hn := fun p hp => lt_of_all l1.2 p hp) l1.1 (asc10 lD qa.1 q2 q3 u1.1 u2 z1.1 r2 r3)
end
end Mine
end
section
open PySem PySem.W PyProof.Rows PySem.Calls PySem.Spec
set_option Elab.async false
set_option maxRecDepth 100000
set_option maxHeartbeats 0
namespace Mine
theorem ci_look : typeLookup (.type "callable_iterator") "__iter__" = pure (some (.builtin "callable_iterator.__iter__")) := by rw [typeLookup_type, builtinLookup_eq_fast]; kernel_rfl
theorem ci_slot : Slot "callable_iterator" "__iter__" "callable_iterator.__iter__" := .of (owner := "callable_iterator") (n := "__iter__") ci_look (by decide +kernel) (by decide +kernel) (by decide +kernel)
  (by first | exact .inl (by decide +kernel) | exact .inr (by decide +kernel)) (by rw [isSubtype_type]; kernel_rfl)
theorem ci_entry : entryFor table "callable_iterator.__iter__" = some Builtin.«dict_keyiterator.__iter__» :=
  entryFor_alias (id' := "dict_keyiterator.__iter__") (by rw [fastTable_eq_tree]; kernel_rfl) rfl (by decide +kernel) (by rw [fastTable_eq_tree]; kernel_rfl)
theorem ci_args (a : Value) : argsOk "callable_iterator.__iter__" ⟨[a], []⟩ := by unfold argsOk; kernel_rfl
theorem mc_look : typeLookup (.type "method") "__call__" = pure (some (.builtin "method.__call__")) := by rw [typeLookup_type, builtinLookup_eq_fast]; kernel_rfl
theorem it_args2 (a b : Value) : argsOk "iter" ⟨[a, b], []⟩ := by unfold argsOk; kernel_rfl
section
variable {prog : Program} {w : World} {A : Around} {E : Value → Shared → Prop} {s : Shared} {h₀ : Heap} {L : Addr} {m : Str → Option Value} {news : Led}
theorem iter_cit {I : Addr} {o : Obj} {Q : Value → Shared → Prop} (g : s.heap.get? I = some o) (hc : o.cls = .type "callable_iterator") (h : Q (.ref I) s) : wpAny (model prog w) A (pyIter (.ref I)) Q E s := by
  have hT : s.TypeIs (.ref I) "callable_iterator" := ⟨_, g, hc⟩
  refine wpAny_pyIter_slot hT ci_slot (wpAny_call_entry ci_slot hT ci_entry ?_ (ci_args _))
  show wpAny _ _ (ret (.ref I)) _ _ s
  exact wpAny_pure ⟨_, rfl, "callable_iterator", _, hT, cit_slot.lookup, h⟩
theorem make_cit {q : Addr} {mo : Obj} {t : Tok} {Q : Value → Shared → Prop} (F : Fr h₀ L s.heap m) (N : News h₀ L s.heap news) (g : s.heap.get? q = some mo) (hc : mo.cls = .type "method")
    (h : ∀ I h', Fr h₀ L h' m → News h₀ L h' ((I, citO q t) :: news) → (∀ p ∈ news, p.1 < I) → Q (.ref I) { s with heap := h' }) :
    wpAny (model prog w) A (call (.builtin "iter") [.ref q, .str (Str.ofString "") t]) Q E s := by
  have hT : s.TypeIs (.ref q) "method" := ⟨_, g, hc⟩
  refine call_function_entry it_kind it_plain kdk_entry_iter (it_args2 _ _) ?_
  unfold Builtin.«iter»
  refine wpAny_bind (m := someArgs "iter" 1 2 _) (wpAny_of_eq (a := [Value.ref q, Value.str (Str.ofString "") t]) (by first | rfl | kernel_rfl) ?_)
  show wpAny _ _ (specialOf (.ref q) "__call__" >>= _) _ _ _
  refine wpAny_bind (wpAny_specialOf (name := Str.ofString "__call__") hT mc_look ?_)
  refine wpAny_ite_split (fun hab => absurd hab (by decide)) (fun _ => ?_)
  refine wpAny_bind (wpAny_rule ?_)
  unfold newFields
  refine wpAny_bind (wpAny_newObj_type ?_ (by size_fits))
  exact wpAny_pure ⟨_, rfl, h _ _ (F.push _) (N.push F _ rfl) (fun q hq => Heap.lt_size (N q hq).1)⟩
end
noncomputable abbrev ClaimC (w : World) (p : Program) (loose : List Str) (mean : ExcName → Option Value) (mg mb : Str → Option Value) (f : Addr) (pos : List Value) (kw : List (Str × Value)) (news : Led) (dN uN : Nat) (Post : Value → Led → Prop) : Prop :=
  ∀ (dp un : Nat) (gd : Option (List Code)) (cn : Str) (cs : Scope) (a : Addr) (ccd : Value) (cl : List (Str × Addr)) (outer : List Env) (A₀ : Around) (base h₀ : Heap) (L : Addr) (m : Str → Option Value) (s : Shared) (Q E : Value → Shared → Prop),
    Below A₀ base outer h₀ → Fr h₀ L s.heap m → Frag.In (Mine.pb.heap_1 w.params) h₀ → News h₀ L s.heap news → Top p loose mean mg mb h₀ → cs.kind = .function →
    dp + dN < recursionLimit → un + uN < cLine →
    (∀ (v : Value) (news' : Led) (h' : Heap) (tk' : Nat), Post v news' → Fr h₀ L h' m → News h₀ L h' news' → Q v { s with heap := h', toks := tk' }) →
    codeAny (model PySem.Challenge.rw_ti0052_01.prog w) (ktrTop dp un gd cn cs L a ccd cl outer) (.call (.ref f) ⟨pos, kw⟩) (fun r s' => match r with | .ok (.ret v) => Q v s' | .ok _ => False | .error e => E e s') s
section
variable {w : World} {p : Program} {loose : List Str} {mean : ExcName → Option Value} {mg mb : Str → Option Value} {news : Led}
theorem ClaimC.claim {f : Addr} {pos : List Value} {kw : List (Str × Value)} {dN uN : Nat} {Post : Value → Led → Prop} (h : Mine.ClaimC w p loose mean mg mb f pos kw news dN uN Post) : Mine.Claim w p loose mean mg mb f pos kw news dN uN Post :=
  fun dp un gd cn cs a ccd cl outer A₀ base h₀ L m s Q E hB hF hX hN hT hk hd hu hret => wpAny_call (h dp un gd cn cs a ccd cl outer A₀ base h₀ L m s Q E hB hF hX hN hT hk hd hu hret)
noncomputable def cnt10 (cs : List Nat) : Int := ((cs.filter fun c => c == 10).length : Int)
noncomputable def afterRead (R : List Nat → Led → Prop) (X : LexP) (ln : Int) (ps : List Value) (k : Nat) (rest : Led) (cs : List Nat) (led : Led) (tl : Tok) (v : Value) (n' : Led) : Prop :=
  match cs with
  | [] => (∃ u, v = .str (Str.ofString "") u) ∧ n' = lexL X ln tl ps k ++ (led ++ rest)
  | c :: cs' => ∃ u led' tl', v = .str ⟨#[c]⟩ u ∧ R cs' led' ∧ n' = lexL X (if c = 10 then ln + 1 else ln) tl' ps k ++ (led' ++ rest)
theorem news_lexR {h₀ h : Heap} {L : Addr} {p1 p2 p3 p4 p5 : Addr × Obj} {b r : Led} (N : News h₀ L h (p1 :: p2 :: p3 :: p4 :: p5 :: (b ++ r))) : News h₀ L h (b ++ (p1 :: p2 :: p3 :: p4 :: p5 :: r)) := fun p hp => N p (by
  exact Mine.sub_at hp (by wtm_at "per"))
theorem news_lexU {h₀ h : Heap} {L : Addr} {p1 p2 p3 p4 p5 : Addr × Obj} {b r : Led} (N : News h₀ L h (b ++ (p1 :: p2 :: p3 :: p4 :: p5 :: r))) : News h₀ L h (p1 :: p2 :: p3 :: p4 :: p5 :: (b ++ r)) := fun p hp => N p (by
  exact Mine.sub_at hp (by wtm_at "per"))
theorem off_led {as : List Addr} {led rest : Led} {a : Addr} (hl : led.map (·.1) = as) (h1 : ∀ b ∈ as, @Ne Nat b a) (h2 : ∀ p ∈ rest, @Ne Nat p.1 a) : ∀ p ∈ led ++ rest, p.1 ≠ a := by
  intro p hp
  rcases List.mem_append.mp hp with hp | hp
  · exact h1 _ (hl ▸ List.mem_map.mpr ⟨p, hp, rfl⟩)
  · exact h2 p hp
end
end Mine
end
section
open PySem PySem.W PyProof.Rows PySem.Calls PySem.Spec
set_option Elab.async false
set_option maxRecDepth 100000
set_option maxHeartbeats 0
namespace Mine
section
variable {w : World} {p : Program} {loose : List Str} {mean : ExcName → Option Value} {mg mb : Str → Option Value} {news : Led}
theorem sg_is (c d : Nat) (x : Str) (hx : x = ⟨#[d]⟩) : ((⟨#[c]⟩ : Str) == x) = true ↔ c = d := by
  rw [beq_iff_eq, hx]
  constructor
  · intro h
    have h2 := congrArg (fun s : Str => s.cps[0]?) h
    simp at h2
    exact h2
  · rintro rfl; rfl
theorem sg10 (c : Nat) : ((⟨#[c]⟩ : Str) == Str.ofString "\n") = true ↔ c = 10 := sg_is c 10 _ (by decide)
theorem c_readc {X : LexP} {as : List Addr} {R : List Nat → Led → Prop} {ln : Int} {tl : Tok} {ps : List Value} {k : Nat} {rest : Led} {sg : List Nat} {led : Led} (Rd : Reads1 w p loose mean mg mb X.f as R) (hR : R sg led) (D : Dist (X.adr ++ as)) (O : Off (X.adr ++ as) rest) :
    Mine.ClaimC w p loose mean mg mb 211 [.ref X.lx] [] (lexL X ln tl ps k ++ (led ++ rest)) 4 30 (afterRead R X ln ps k rest sg led tl) := by
  obtain ⟨lx, dlx, pb, st, dst, f, pb0, a1, a2, a3, a4, b1, b2, b3, b4, b5, k1, k2, k3, k4, m1, m2, m3, m4, m5, tw, tl0, tw0⟩ := X
  obtain ⟨Rl, Rc⟩ := Rd
  dsimp only [LexP.adr] at *
  obtain ⟨hl, fo, fd, hfm, hfd⟩ := Rl _ _ hR
  simp only [Dist, List.cons_append, List.nil_append, List.pairwise_cons, List.mem_cons, forall_eq_or_imp] at D
  have e1 : @Ne Nat lx dlx := D.1.1
  have e2 : @Ne Nat pb dlx := D.2.1.1.symm
  have e3 : @Ne Nat st dlx := D.2.1.2.1.symm
  have e4 : @Ne Nat dst dlx := D.2.1.2.2.1.symm
  have offD : ∀ p ∈ led ++ rest, p.1 ≠ dlx := off_led hl (fun b hb => (D.2.1.2.2.2 b hb).symm) (fun p hp => O p hp _ (by simp))
  have hRc := fun rest t h => Rc _ _ rest t hR h
  clear Rc
  have hoffR : ∀ (o1 o2 o3 o4 o5 : Obj), ∀ q ∈ ((lx, o1) :: (dlx, o2) :: (pb, o3) :: (st, o4) :: (dst, o5) :: rest : Led), ∀ a ∈ as, q.1 ≠ a := by
    intro o1 o2 o3 o4 o5 q hq a ha
    simp only [List.mem_cons] at hq
    rcases hq with rfl | rfl | rfl | rfl | rfl | hq
    · exact D.1.2.2.2.2 a ha
    · exact D.2.1.2.2.2 a ha
    · exact D.2.2.1.2.2 a ha
    · exact D.2.2.2.1.2 a ha
    · exact D.2.2.2.2.1 a ha
    · exact O q hq a (by simp [ha])
  unfold Mine.ClaimC; k_fill; intro dp un gd cn cs a' ccd cl outer A₀ base h₀ L m s Q E hB hF hX hN hT hk hd hu hret; wtm_at "mENTER"
  rename News _ _ _ _ => N1
  dsimp only [lexL, LexP.outer, LexP.inner, lexE, List.cons_append, List.nil_append] at N1 ⊢
  (repeat' ((fail_if_success (with_reducible show wpAny _ _ (getMethod (Value.ref _) _ _) ..)); wtm_at "mNOLOOP"; wtm_at "mSTEQ"))
  walk_at "last getMethod ref"
  (repeat' ((fail_if_success (with_reducible show wpAny _ _ (callWith _ (Value.ref _) _ _ _) ..)); wtm_at "mNOLOOP"; wtm_at "mSTEQ"))
  try dsimp only
  rename News _ _ _ _ => N2
  refine callWith_def hfd ?_
  wtm_at "mQ"
  · exact (N2 _ (.tail _ (.tail _ (.tail _ (.tail _ (.tail _ (List.mem_append_left _ hfm))))))).1
  (k_here; k_dflt (refine' hRc _ _ (hoffR _ _ _ _ _) _ _ _ _ _ _ _ _ _ _ _ _ _ _ _ _ _ ?k1z48 ?k2z48 ?k3z48 ?k4z48 ?k5z48 ?kKz48 ?kdz48 ?kuz48 ?kRz48; (case k1z48 => k_asm); (case k2z48 => k_asm); (case k3z48 => k_asm); (case k4z48 => exact news_lexR (by k_asm)); (case k5z48 => k_asm); (case kKz48 => first | exact rfl | assumption); (case kdz48 => wtm_at "mRM"); (case kuz48 => wtm_at "mRU")))
  intro v9 n9 h9 tk9 hp9 F9 N9
  cases sg with
  | nil =>
    obtain ⟨⟨u, rfl⟩, rfl⟩ := hp9
    have N10 := news_lexU N9
    clear N2 N9
    try dsimp only
    try k_fold
    wtm_at "mQ"
    rename Fr _ _ _ _ => Fk
    rename News _ _ _ _ => Nk
    exact hret _ _ _ _ ⟨⟨_, rfl⟩, rfl⟩ Fk Nk
  | cons c cs' =>
    obtain ⟨u, led', rfl, hR', rfl⟩ := hp9
    have N10 := news_lexU N9
    have offD2 : ∀ p ∈ led' ++ rest, p.1 ≠ dlx := off_led (Rl _ _ hR').1 (fun b hb => (D.2.1.2.2.2 b hb).symm) (fun p hp => O p hp _ (by simp))
    clear N2 N9
    try dsimp only
    try k_fold
    wtm_at "mQ"
    · rename _ = true => hc
      have hc := (sg10 c).mp hc
      rename Fr _ _ _ _ => Fk
      rename News _ _ _ _ => Nk
      refine' hret _ _ _ _ ⟨u, led', ?tl1, rfl, hR', ?eq1⟩ Fk Nk
      case eq1 =>
        rw [if_pos hc]
        rfl
    · rename _ = false => hc
      have hc : ¬ c = 10 := fun e => by rw [(sg10 c).mpr e] at hc; exact absurd hc (by decide)
      rename Fr _ _ _ _ => Fk
      rename News _ _ _ _ => Nk
      refine' hret _ _ _ _ ⟨u, led', ?tl2, rfl, hR', ?eq2⟩ Fk Nk
      case eq2 =>
        rw [if_neg hc]
        rfl
end
end Mine
end
section
open PySem PySem.W PyProof.Rows PySem.Calls PySem.Spec
set_option Elab.async false
set_option maxRecDepth 100000
set_option maxHeartbeats 0
namespace Mine
noncomputable abbrev gL (e : Bool) (I q : Addr) (t : Tok) (X : LexP) (ln : Int) (tl : Tok) (k : Nat) (led rest : Led) : Led :=
  (I, if e = true then citE else citO q t) :: (q, methodObj (.ref 211) (.ref X.lx)) :: (lexL X ln tl [] k ++ (led ++ rest))
theorem news_g1 {h₀ h : Heap} {L : Addr} {i q p1 p2 p3 p4 p5 : Addr × Obj} {b r : Led} (N : News h₀ L h (i :: q :: p1 :: p2 :: p3 :: p4 :: p5 :: (b ++ r))) : News h₀ L h (p1 :: p2 :: p3 :: p4 :: p5 :: (b ++ (i :: q :: r))) := fun p hp => N p (by
  exact Mine.sub_at hp (by wtm_at "per"))
theorem news_g2 {h₀ h : Heap} {L : Addr} {i q p1 p2 p3 p4 p5 : Addr × Obj} {b r : Led} (N : News h₀ L h (p1 :: p2 :: p3 :: p4 :: p5 :: (b ++ (i :: q :: r)))) : News h₀ L h (i :: q :: p1 :: p2 :: p3 :: p4 :: p5 :: (b ++ r)) := fun p hp => N p (by
  exact Mine.sub_at hp (by wtm_at "per"))
theorem cnt10_cons (c : Nat) (cs : List Nat) (ln : Int) : (if c = 10 then ln + 1 else ln) + cnt10 cs = ln + cnt10 (c :: cs) := by
  unfold cnt10
  by_cases h : c = 10
  · subst h; rw [if_pos rfl]; simp; lia
  · rw [if_neg h]; simp [h]
theorem sg_ne (c : Nat) : (⟨#[c]⟩ : Str) ≠ Str.ofString "" := by
  intro h
  have h2 := congrArg (fun s : Str => s.cps.size) h
  have h3 : (Str.ofString "").cps.size = 0 := by decide
  rw [h3] at h2
  simp at h2
section
variable {w : World} {p : Program} {loose : List Str} {mean : ExcName → Option Value} {mg mb : Str → Option Value}
variable {A : Around} {h₀ : Heap} {E : Value → Shared → Prop} {s : Shared} {env : Env} {m : Str → Option Value} {X : LexP} {as : List Addr} {R : List Nat → Led → Prop} {rest : Led} {k : Nat} {I q : Addr} {t : Tok}
noncomputable def RdOk (w : World) (A : Around) (h₀ : Heap) (L : Addr) (X : LexP) (as : List Addr) (R : List Nat → Led → Prop) (k : Nat) : Prop :=
  ∀ (s : Shared) (m : Str → Option Value) (rest : Led) (cs : List Nat) (led : Led) (ln : Int) (tl : Tok) (Q E : Value → Shared → Prop), Fr h₀ L s.heap m → News h₀ L s.heap (lexL X ln tl [] k ++ (led ++ rest)) → R cs led → Off (X.adr ++ as) rest →
    (∀ (v : Value) (n' : Led) (h' : Heap) (tk' : Nat), afterRead R X ln [] k rest cs led tl v n' → Fr h₀ L h' m → News h₀ L h' n' → Q v { s with heap := h', toks := tk' }) →
    codeAny (model PySem.Challenge.rw_ti0052_01.prog w) A.in1 (.call (.ref 211) ⟨[.ref X.lx], []⟩) (fun r s' => match r with | .ok (.ret v) => Q v s' | .ok _ => False | .error e => E e s') s
inductive TurnX (h₀ : Heap) (L : Addr) (s : Shared) (I q : Addr) (t : Tok) (X : LexP) (R : List Nat → Led → Prop) (k : Nat) (rest : Led) (tot : Int) (Φ : Bool → List Nat → (Str → Option Value) → Prop) (n : Nat) (s₃ : Shared) : Prop
  | mk (e : Bool) (cs : List Nat) (m' : Str → Option Value) (ln : Int) (tl : Tok) (led : Led) (h' : Heap) (tk' : Nat) : cs.length ≤ n → (e = true → cs = []) → Φ e cs m' → R cs led → ln + cnt10 cs = tot → Fr h₀ L h' m' → News h₀ L h' (gL e I q t X ln tl k led rest) → s₃ = { s with heap := h', toks := tk' } → TurnX h₀ L s I q t X R k rest tot Φ n s₃
inductive CitI (h₀ : Heap) (L : Addr) (s : Shared) (I q : Addr) (t : Tok) (X : LexP) (R : List Nat → Led → Prop) (k : Nat) (rest : Led) (tot : Int) (Φ : Bool → List Nat → (Str → Option Value) → Prop) (n : Nat) (s' : Shared) : Prop
  | mk (e : Bool) (cs : List Nat) (m : Str → Option Value) (ln : Int) (tl : Tok) (led : Led) (h : Heap) (tk : Nat) : n = cs.length → (e = true → cs = []) → Φ e cs m → R cs led → ln + cnt10 cs = tot → Fr h₀ L h m → News h₀ L h (gL e I q t X ln tl k led rest) → s' = { s with heap := h, toks := tk } → CitI h₀ L s I q t X R k rest tot Φ n s'
inductive RdQ (h₀ : Heap) (L : Addr) (s : Shared) (I q : Addr) (t : Tok) (X : LexP) (R : List Nat → Led → Prop) (k : Nat) (rest : Led) (cs : List Nat) (led : Led) (ln : Int) (tl : Tok) (m : Str → Option Value) (fo : Obj) (v : Value) (s' : Shared) : Prop
  | mk (g1 : s'.heap.get? I = some (citO q t)) (g2 : s'.heap.get? q = some (methodObj (.ref 211) (.ref X.lx))) (g3 : s'.heap.get? 211 = some fo) (n' : Led) (h' : Heap) (tk' : Nat) : afterRead R X ln [] k ((I, citO q t) :: (q, methodObj (.ref 211) (.ref X.lx)) :: rest) cs led tl v n' → Fr h₀ L h' m → News h₀ L h' n' → s' = { s with heap := h', toks := tk' } → RdQ h₀ L s I q t X R k rest cs led ln tl m fo v s'
theorem for_cit {target : Expr} {body : List Stmt} {Q : Flow → Shared → Prop} {fo : Obj} {fd : FuncData} (RD : RdOk w A h₀ env.locals X as R k) (hh : A.handled = none) (gf : h₀.get? 211 = some fo) (hof : fo.data = .func fd)
    (hlen : ∀ cs led, R cs led → led.map (·.1) = as) (oI : ∀ a ∈ X.adr ++ as, @Ne Nat I a) (oq : ∀ a ∈ X.adr ++ as, @Ne Nat q a) (hIq : @Ne Nat q I) (O : Off (I :: q :: X.adr ++ as) rest)
    (Φ : Bool → List Nat → (Str → Option Value) → Prop) {e : Bool} {cs : List Nat} {tot ln : Int} {tl : Tok} {led : Led} (he : e = true → cs = []) (h0 : Φ e cs m) (hR : R cs led) (htot : ln + cnt10 cs = tot)
    (F : Fr h₀ env.locals s.heap m) (N : News h₀ env.locals s.heap (gL e I q t X ln tl k led rest))
    (turn : ∀ (E' : Value → Shared → Prop) c cs m ln tl led u h tk, Φ false (c :: cs) m → R cs led → ln + cnt10 cs = tot → Fr h₀ env.locals h m → News h₀ env.locals h (gL false I q t X ln tl k led rest) →
      wpAny (model PySem.Challenge.rw_ti0052_01.prog w) A (assign target env (.str ⟨#[c]⟩ u)) (fun _ s₂ => wpAny (model PySem.Challenge.rw_ti0052_01.prog w) A (execs body env) (fun f s₃ => match f with
          | .next | .cont => TurnX h₀ env.locals s I q t X R k rest tot Φ cs.length s₃
          | .brk => Q .next s₃
          | .ret v => Q (.ret v) s₃) E' s₂) E' { s with heap := h, toks := tk })
    (done : ∀ e m ln tl led h tk, Φ e [] m → R [] led → ln = tot → Fr h₀ env.locals h m → News h₀ env.locals h (gL true I q t X ln tl k led rest) → Q .next { s with heap := h, toks := tk }) :
    wpAny (model PySem.Challenge.rw_ti0052_01.prog w) A (pyIter (.ref I)) (fun it s₂ => codeAny (model PySem.Challenge.rw_ti0052_01.prog w) A (.forLoop target it body [] env) (fun r s' => match r with | .ok f => Q f s' | .error e => cameBackBy (model PySem.Challenge.rw_ti0052_01.prog w) A env E e s') s₂) E s := by
  have gI := (N _ (.head _)).1
  refine iter_cit gI (by cases e <;> rfl) ?_
  refine codeAny_forLoop_any (CitI h₀ env.locals s I q t X R k rest tot Φ) ?_ cs.length
    ⟨e, cs, m, ln, tl, led, s.heap, s.toks, rfl, he, h0, hR, htot, F, N, rfl⟩
  intro n s' hI
  (first | (with_reducible show wpAny _ _ _ _ _ _; generalize hGoal49 : wpAny _ _ _ _ _ _ = Goal49) | (dsimp only; with_reducible show wpAny _ _ _ _ _ _; generalize hGoal49 : wpAny _ _ _ _ _ _ = Goal49) | (generalize hGoal49 : True = Goal49))
  obtain ⟨e, cs, m, ln, tl, led, h, tk, rfl, he, h0, hR, htot, F, N, rfl⟩ := hI
  subst hGoal49
  clear gI
  have gI := (N _ (.head _)).1
  have hnI : ∀ p ∈ ((q, methodObj (.ref 211) (.ref X.lx)) :: (lexL X ln tl [] k ++ (led ++ rest)) : Led), p.1 ≠ I := by
    intro p hp
    rcases List.mem_cons.mp hp with rfl | hp
    · exact hIq
    · rcases List.mem_append.mp hp with hp | hp
      · have : p.1 ∈ X.adr := by
          simp only [lexL, List.mem_cons, List.not_mem_nil, or_false] at hp
          rcases hp with rfl | rfl | rfl | rfl | rfl <;> simp
        exact (oI _ (List.mem_append_left _ this)).symm
      · rcases List.mem_append.mp hp with hp | hp
        · exact (oI _ (List.mem_append_right _ (hlen _ _ hR ▸ List.mem_map.mpr ⟨p, hp, rfl⟩))).symm
        · exact O p hp _ (.head _)
  cases e with
  | true =>
    obtain rfl := he rfl
    have gI : h.get? I = some citE := gI
    refine next_citE gI hh fun h' hk => ?_
    have he := show Heap.ExtBut I h h' from fun b o hb e => hk b o e
    have F' := fr_ext_I F N he
    have N' : News h₀ env.locals h' (gL true I q t X ln tl k led rest) := fun p hp => by
      have z := N p hp
      exact ⟨hk _ _ z.1, z.2⟩
    exact wpAny_execs_nil (done true m ln tl led h' tk h0 hR (by rw [← htot]; simp [cnt10]) F' N')
  | false =>
    have gI : h.get? I = some (citO q t) := gI
    have gq := (N _ (.tail _ (.head _))).1
    refine next_cit (of := fo) gI gq (F.keep _ _ gf) hof hh ?_
    have O' : Off (X.adr ++ as) ((I, citO q t) :: (q, methodObj (.ref 211) (.ref X.lx)) :: rest) := by
      intro p hp a ha
      rcases List.mem_cons.mp hp with rfl | hp
      · exact oI a ha
      · rcases List.mem_cons.mp hp with rfl | hp
        · exact oq a ha
        · exact O p hp a (.tail _ (.tail _ ha))
    refine codeAny_mono (RD { s with heap := h, toks := tk } m ((I, citO q t) :: (q, methodObj (.ref 211) (.ref X.lx)) :: rest) cs led ln tl (RdQ h₀ env.locals s I q t X R k rest cs led ln tl m fo) (fun _ _ => False) F (news_g1 N) hR O' ?_) ?_
    · intro v n' h' tk' ha F' N'
      have mem : (I, citO q t) ∈ n' ∧ (q, methodObj (.ref 211) (.ref X.lx)) ∈ n' := by
        cases cs with
        | nil => obtain ⟨_, rfl⟩ := ha; exact ⟨List.mem_append_right _ (List.mem_append_right _ (.head _)), List.mem_append_right _ (List.mem_append_right _ (.tail _ (.head _)))⟩
        | cons c cs => obtain ⟨u, led', tl', _, _, rfl⟩ := ha; exact ⟨List.mem_append_right _ (List.mem_append_right _ (.head _)), List.mem_append_right _ (List.mem_append_right _ (.tail _ (.head _)))⟩
      exact ⟨(N' _ mem.1).1, (N' _ mem.2).1, F'.keep _ _ gf, n', h', tk', ha, F', N', rfl⟩
    · intro r s' hr
      match r, hr with
      | .ok (.ret v), hr =>
        obtain ⟨g1, g2, g3, n', h', tk', ha, F', N', rfl⟩ := hr
        refine ⟨g1, g2, g3, ?_⟩
        cases cs with
        | nil =>
          obtain ⟨⟨u, rfl⟩, rfl⟩ := ha
          have N'' := news_g2 N'
          refine ⟨_, u, rfl, fun e => absurd rfl e, fun _ h'' tk'' gE hE => ?_⟩
          have F2 := fr_ext_I F' N'' hE
          have N2 : News h₀ env.locals h'' (gL true I q t X ln tl k led rest) := fun p hp => by
            rcases List.mem_cons.mp hp with rfl | hp
            · exact ⟨gE, (N'' _ (.head _)).2⟩
            · exact news_ext_I N'' hnI hE p hp
          exact wpAny_execs_nil (done false m ln tl led h'' tk'' h0 hR (by rw [← htot]; simp [cnt10]) F2 N2)
        | cons c cs =>
          obtain ⟨u, led', tl', rfl, hR', rfl⟩ := ha
          have N'' := news_g2 N'
          refine ⟨_, u, rfl, fun _ => ?_, fun e => absurd e (sg_ne c)⟩
          refine owned_none g1 rfl (by decide) ?_
          have tt : (if c = 10 then ln + 1 else ln) + cnt10 cs = tot := by rw [← htot, cnt10_cons]
          refine wpAny_mono (turn _ c cs m _ tl' led' u h' tk' h0 hR' tt F' N'') (fun _ s₂ h₂ => ?_) fun _ _ e => e
          refine wpAny_mono h₂ (fun f s₃ h₃ => ?_) fun _ _ e => e
          have fin : TurnX h₀ env.locals s I q t X R k rest tot Φ cs.length s₃ → ∃ mm, mm < (c :: cs).length ∧ CitI h₀ env.locals s I q t X R k rest tot Φ mm s₃ := by
            rintro ⟨e, cs', m', ln', tl', led', h', tk', hle, x1, x2, x3, x4, x5, x6, x7⟩
            exact ⟨cs'.length, Nat.lt_succ_of_le hle, e, cs', m', ln', tl', led', h', tk', rfl, x1, x2, x3, x4, x5, x6, x7⟩
          cases f with
          | next => exact fin h₃
          | cont => exact fin h₃
          | brk => exact h₃
          | ret v => exact h₃
theorem for_cK {hp : Heap} {tk0 : Tok} {target : Expr} {body : List Stmt} {Q : Flow → Shared → Prop} {fo : Obj} {fd : FuncData} (RD : RdOk w A h₀ env.locals X as R k) (hh : A.handled = none) (gf : h₀.get? 211 = some fo) (hof : fo.data = .func fd)
    (hlen : ∀ cs led, R cs led → led.map (·.1) = as) (oI : ∀ a ∈ X.adr ++ as, @Ne Nat I a) (oq : ∀ a ∈ X.adr ++ as, @Ne Nat q a) (hIq : @Ne Nat q I) (O : Off (I :: q :: X.adr ++ as) rest)
    (Φ : Bool → List Nat → (Str → Option Value) → Prop) {e : Bool} {cs : List Nat} {tot ln : Int} {tl : Tok} {led : Led} (he : e = true → cs = []) (h0 : Φ e cs m) (hR : R cs led) (htot : ln + cnt10 cs = tot)
    (F : Fr h₀ env.locals hp m) (N : News h₀ env.locals hp (gL e I q t X ln tl k led rest))
    (turn : ∀ (E' : Value → Shared → Prop) (K : Flow → Shared → Prop) c cs m ln tl led u h tk, R cs led → ln + cnt10 cs = tot → Fr h₀ env.locals h m → News h₀ env.locals h (gL false I q t X ln tl k led rest) →
      (∀ e cs' m' ln tl led h' tk', cs'.length ≤ cs.length → (e = true → cs' = []) → Φ e cs' m' → R cs' led → ln + cnt10 cs' = tot → Fr h₀ env.locals h' m' → News h₀ env.locals h' (gL e I q t X ln tl k led rest) → K .next { s with heap := h', toks := tk' }) →
      (∀ s, K .next s → K .cont s) → (∀ v s, Q (.ret v) s → K (.ret v) s) → Φ false (c :: cs) m →
      wpAny (model PySem.Challenge.rw_ti0052_01.prog w) A (assign target env (.str ⟨#[c]⟩ u)) (fun _ s₂ => wpAny (model PySem.Challenge.rw_ti0052_01.prog w) A (execs body env) K E' s₂) E' { s with heap := h, toks := tk })
    (done : ∀ e m ln tl led h tk, Φ e [] m → R [] led → ln = tot → Fr h₀ env.locals h m → News h₀ env.locals h (gL true I q t X ln tl k led rest) → Q .next { s with heap := h, toks := tk }) :
    wpAny (model PySem.Challenge.rw_ti0052_01.prog w) A (pyIter (.ref I)) (fun it s₂ => codeAny (model PySem.Challenge.rw_ti0052_01.prog w) A (.forLoop target it body [] env) (fun r s' => match r with | .ok f => Q f s' | .error e => cameBackBy (model PySem.Challenge.rw_ti0052_01.prog w) A env E e s') s₂) E { s with heap := hp, toks := tk0 } :=
  for_cit RD hh gf hof hlen oI oq hIq O Φ he h0 hR htot F N (fun E' c cs m ln tl led u h tk hΦ hR hln F N => turn E' _ c cs m ln tl led u h tk hR hln F N
    (fun e cs' m' ln tl led h' tk' h1 h2 h3 h4 h5 h6 h7 => ⟨e, cs', m', ln, tl, led, h', tk', h1, h2, h3, h4, h5, h6, h7, rfl⟩) (fun _ h => h) (fun _ _ h => h) hΦ) done
end
end Mine
end
section
open PySem PySem.W PyProof.Rows PySem.Calls PySem.Spec
set_option Elab.async false
set_option maxRecDepth 100000
set_option maxHeartbeats 0
namespace Mine
section
variable {w : World} {p : Program} {loose : List Str} {mean : ExcName → Option Value} {mg mb : Str → Option Value} {news : Led}
theorem c_tokP {X : LexP} {as : List Addr} {R : List Nat → Led → Prop} {ln : Int} {tl : Tok} {v : Value} {ps : List Value} {k : Nat} {rest : Led} (hps : ps.length < 1000) (D : Dist X.adr) (O : Off X.adr rest) :
    Mine.Claim w p loose mean mg mb 218 [.ref X.lx] [] (lexL X ln tl (v :: ps) k ++ rest) 5 40 (fun r n' => r = v ∧ n' = lexL X ln tl ps (k + 1) ++ rest) := by
  obtain ⟨lx, dlx, pb, st, dst, f, pb0, a1, a2, a3, a4, b1, b2, b3, b4, b5, k1, k2, k3, k4, m1, m2, m3, m4, m5, tw, tl0, tw0⟩ := X
  dsimp only [LexP.adr] at *
  simp only [Dist, List.cons_append, List.nil_append, List.pairwise_cons, List.mem_cons, forall_eq_or_imp] at D
  have offP : ∀ p ∈ rest, p.1 ≠ pb := fun p hp => O p hp _ (by simp)
  have n1 : @Ne Nat lx pb := D.1.2.1
  have n2 : @Ne Nat dlx pb := D.2.1.1
  have n3 : @Ne Nat st pb := (D.2.2.1.1).symm
  have n4 : @Ne Nat dst pb := (D.2.2.1.2.1).symm
  clear D O
  wtm_at "mIN"
  rename News _ _ _ _ => N1
  dsimp only [lexL, LexP.outer, LexP.inner, lexE, List.cons_append, List.nil_append] at N1 ⊢
  repeat' ((fail_if_success (with_reducible show wpAny _ _ (truthy (Value.ref _)) ..)); wtm_at "mNOLOOP"; wtm_at "mSTEQ")
  rename News _ _ _ _ => Nt
  refine wpAny_truthy_list ⟨_, (Nt _ (.tail _ (.tail _ (.head _)))).1, rfl, _, rfl⟩ ?fit ?_
  case fit => simp; lia
  have hne1 : (!(v :: ps).toArray.isEmpty) = true := by simp
  rw [hne1]
  try dsimp only
  wtm_at "mQ"
  refine' kl_popAt (its := (v :: ps).toArray) (k := 0) (p := []) (y := v) (q := ps) ?Fp ?Np ?fp ?kp ?ep ?Up ?zp (fun h8 F8 N8 => ?_)
  case Fp => k_asm
  case Np => k_asm
  case fp => rfl
  case kp => rw [List.size_toArray, List.length_cons]; unfold seqIndex?; simp
  case ep => rfl
  case Up => k_upd
  case zp => exact (Nat.le_trans hps (by decide) : ps.length + 1 ≤ sizeLine)
  try dsimp only
  wtm_at "mQ"
  rename Fr _ _ _ _ => Fk
  rename News _ _ _ _ => Nk
  exact hret _ _ _ _ ⟨rfl, rfl⟩ Fk Nk
theorem ws_is (c : Nat) : (!(Builtin.Str.occurrences (Str.ofString "\n\t\r ") ⟨#[c]⟩ 0 (Str.ofString "\n\t\r ").length 1).isEmpty) = isWs c := by
  rw [StrLaws.found_one]
  have e : (Str.ofString "\n\t\r ").cps.toList = [10, 9, 13, 32] := by decide
  rw [e]
  unfold isWs
  rw [Bool.eq_iff_iff]
  simp [or_assoc]
theorem ws_false {c : Nat} (h : (Builtin.Str.occurrences (Str.ofString "\n\t\r ") ⟨#[c]⟩ 0 (Str.ofString "\n\t\r ").length 1).isEmpty = true) : isWs c = false := by rw [← ws_is, h]; rfl
theorem ws_true {c : Nat} (h : (Builtin.Str.occurrences (Str.ofString "\n\t\r ") ⟨#[c]⟩ 0 (Str.ofString "\n\t\r ").length 1).isEmpty = false) : isWs c = true := by rw [← ws_is, h]; rfl
theorem sg34 (c : Nat) : ((⟨#[c]⟩ : Str) == Str.ofString "\"") = true ↔ c = 34 := sg_is c 34 _ (by decide)
theorem sg92 (c : Nat) : ((⟨#[c]⟩ : Str) == Str.ofString "\\") = true ↔ c = 92 := sg_is c 92 _ (by decide)
theorem not_of {c d : Nat} {b : Bool} (h : b = false) (e : b = true ↔ c = d) : ¬ c = d := fun z => by rw [e.mpr z] at h; cases h
theorem cat_snoc (tok : List Nat) (c : Nat) : (⟨tok.toArray⟩ : Str) ++ ⟨#[c]⟩ = ⟨(tok ++ [c]).toArray⟩ := by
  show Str.mk _ = _
  congr 1
  simp
theorem cat_snoc0 (c : Nat) : Str.ofString "" ++ (⟨#[c]⟩ : Str) = ⟨[c].toArray⟩ := by
  have e : Str.ofString "" = ⟨#[]⟩ := by decide
  rw [e]
  exact cat_snoc [] c
theorem cat_nil (tok : List Nat) : (⟨tok.toArray⟩ : Str) ++ Str.ofString "" = ⟨tok.toArray⟩ := by
  have e : Str.ofString "" = ⟨#[]⟩ := by decide
  rw [e]
  show Str.mk _ = _
  congr 1
theorem cat_nil0 : Str.ofString "" ++ Str.ofString "" = ⟨[].toArray⟩ := by decide
theorem off_iq {I q : Addr} {as : List Addr} {rest : Led} {o1 o2 : Obj} (O : Off as rest) (h1 : ∀ a ∈ as, @Ne Nat I a) (h2 : ∀ a ∈ as, @Ne Nat q a) : Off as ((I, o1) :: (q, o2) :: rest) := by
  intro p hp a ha
  rcases List.mem_cons.mp hp with rfl | hp
  · exact h1 a ha
  · rcases List.mem_cons.mp hp with rfl | hp
    · exact h2 a ha
    · exact O p hp a ha
theorem fn_of {K : Frag} {h : Heap} {g : Addr} (X : K.In h) (hf : fnIn K g = true) : ∃ o fd, h.get? g = some o ∧ o.data = .func fd := by
  unfold fnIn at hf
  split at hf
  · rename_i e
    exact ⟨_, _, X _ _ e, rfl⟩
  · cases hf
theorem fresh_adr {I : Addr} {X : LexP} {as : List Addr} {led rest : Led} (hl : led.map (·.1) = as) (h : @LT.lt Nat _ X.lx I ∧ @LT.lt Nat _ X.dlx I ∧ @LT.lt Nat _ X.pb I ∧ @LT.lt Nat _ X.st I ∧ @LT.lt Nat _ X.dst I ∧ AllLt I (led ++ rest)) :
    (∀ a ∈ X.adr ++ as, @Ne Nat I a) ∧ ∀ p ∈ rest, @Ne Nat p.1 I := by
  obtain ⟨h1, h2, h3, h4, h5, h6⟩ := h
  have h7 := lt_of_all h6
  refine ⟨fun a ha => ?_, fun p hp => Nat.ne_of_lt (h7 p (List.mem_append_right _ hp))⟩
  rcases List.mem_append.mp ha with ha | ha
  · simp only [LexP.adr, List.mem_cons, List.not_mem_nil, or_false] at ha
    rcases ha with rfl | rfl | rfl | rfl | rfl <;> (refine Nat.ne_of_gt ?_; assumption)
  · rw [← hl] at ha
    obtain ⟨p, hp, rfl⟩ := List.mem_map.mp ha
    exact Nat.ne_of_gt (h7 p (List.mem_append_left _ hp))
theorem off_both {I q : Addr} {as : List Addr} {rest : Led} (O : Off as rest) (h1 : ∀ p ∈ rest, @Ne Nat p.1 I) (h2 : ∀ p ∈ rest, @Ne Nat p.1 q) : Off (I :: q :: as) rest := by
  intro p hp a ha
  rcases List.mem_cons.mp ha with rfl | ha
  · exact h1 p hp
  · rcases List.mem_cons.mp ha with rfl | ha
    · exact h2 p hp
    · exact O p hp a ha
noncomputable def Esc (c : Nat) (cs y cs1 : List Nat) : Prop := (c = 92 ∧ cs = [] ∧ y = [] ∧ cs1 = []) ∨ (∃ d, c = 92 ∧ cs = d :: cs1 ∧ y = [d]) ∨ (¬ c = 92 ∧ y = [c] ∧ cs1 = cs)
theorem Esc.len {c : Nat} {cs y cs1 : List Nat} (h : Esc c cs y cs1) : y.length ≤ 1 ∧ y.length + cs1.length ≤ cs.length + 1 ∧ cs1.length ≤ cs.length := by
  rcases h with ⟨_, rfl, rfl, rfl⟩ | ⟨d, _, rfl, rfl⟩ | ⟨_, rfl, rfl⟩ <;> simp <;> lia
theorem Esc.q {c : Nat} {cs y cs1 tok : List Nat} (h : Esc c cs y cs1) (hc : ¬ c = 34) : tokQ tok (c :: cs) = tokQ (tok ++ y) cs1 := by
  rw [tokQ_cons, if_neg hc]
  rcases h with ⟨hd, rfl, rfl, rfl⟩ | ⟨d, hd, rfl, rfl⟩ | ⟨hd, rfl, rfl⟩
  · rw [if_pos hd, List.append_nil, tokQ_nil]
  · rw [if_pos hd]
  · rw [if_neg hd]
theorem Esc.pp {c : Nat} {cs y cs1 tok : List Nat} (h : Esc c cs y cs1) (hc : isWs c = false) : tokP tok (c :: cs) = tokP (tok ++ y) cs1 := by
  rw [tokP_cons, if_neg (by rw [hc]; decide)]
  rcases h with ⟨hd, rfl, rfl, rfl⟩ | ⟨d, hd, rfl, rfl⟩ | ⟨hd, rfl, rfl⟩
  · rw [if_pos hd, List.append_nil, tokP_nil]
  · rw [if_pos hd]
  · rw [if_neg hd]
theorem Esc.o {c : Nat} {cs y cs1 : List Nat} (h : Esc c cs y cs1) (hw : isWs c = false) (hc : ¬ c = 34) : tokO (c :: cs) = tokP y cs1 := by
  rw [tokO_cons, if_neg (by rw [hw]; decide), if_neg hc]
  rcases h with ⟨hd, rfl, rfl, rfl⟩ | ⟨d, hd, rfl, rfl⟩ | ⟨hd, rfl, rfl⟩
  · rw [if_pos hd, tokP_nil]
  · rw [if_pos hd]
  · rw [if_neg hd]
theorem after_uni {X : LexP} {R : List Nat → Led → Prop} {ln : Int} {k : Nat} {rest : Led} {cs : List Nat} {led : Led} {tl : Tok} {v : Value} {n' : Led} (hR : R cs led) (h : afterRead R X ln [] k rest cs led tl v n') :
    ∃ y cs1 u led1 ln1 tl1, v = .str ⟨y.toArray⟩ u ∧ n' = lexL X ln1 tl1 [] k ++ (led1 ++ rest) ∧ R cs1 led1 ∧ ln1 + cnt10 cs1 = ln + cnt10 cs ∧ ∀ c, c = 92 → Esc c cs y cs1 := by
  cases cs with
  | nil =>
    obtain ⟨⟨u, rfl⟩, rfl⟩ := h
    exact ⟨[], [], u, led, ln, tl, by have e : Str.ofString "" = ⟨#[]⟩ := by decide
                                      rw [e], rfl, hR, rfl, fun c hc => .inl ⟨hc, rfl, rfl, rfl⟩⟩
  | cons d cs =>
    obtain ⟨u, led', tl', rfl, hR', rfl⟩ := h
    exact ⟨[d], cs, u, led', _, tl', rfl, rfl, hR', cnt10_cons d cs ln, fun c hc => .inr (.inl ⟨d, hc, rfl, rfl⟩)⟩
theorem cat_app (a b : List Nat) : (⟨a.toArray⟩ : Str) ++ ⟨b.toArray⟩ = ⟨(a ++ b).toArray⟩ := by
  show Str.mk _ = _
  congr 1
  simp
theorem cat_app0 (b : List Nat) : Str.ofString "" ++ (⟨b.toArray⟩ : Str) = ⟨b.toArray⟩ := by
  have e : Str.ofString "" = ⟨([] : List Nat).toArray⟩ := by decide
  rw [e]
  exact cat_app [] b
theorem str_nil : Str.ofString "" = (⟨([] : List Nat).toArray⟩ : Str) := by decide
theorem esc_cut {A : Around} {h₀ : Heap} {E : Value → Shared → Prop} {s : Shared} {hp : Heap} {tk0 : Tok} {S : Sem Flow} {Q : Flow → Shared → Prop} {X : LexP} {R : List Nat → Led → Prop} {rest : Led} {k : Nat} {I q L : Addr} {t ut : Tok} {tok : Str} (c : Nat) (cs : List Nat) (tot : Int) {m0 : Str → Option Value} {ln0 : Int} {tl0 : Tok} {led0 : Led} (ht0 : m0 (Str.ofString "token") = some (.str tok ut)) (N0 : News h₀ L hp (gL false I q t X ln0 tl0 k led0 rest))
    (h1 : ∀ K : Flow → Shared → Prop, (∀ y cs1 led1 ln1 tl1 u m1 h1 tk1, Esc c cs y cs1 → R cs1 led1 → ln1 + cnt10 cs1 = tot → m1 (Str.ofString "ch") = some (.str ⟨y.toArray⟩ u) → m1 (Str.ofString "token") = some (.str tok ut) → m1 (Str.ofString "self") = some (.ref X.lx) → m1 (Str.ofString "fiter") = some (.ref I) →
      Fr h₀ L h1 m1 → News h₀ L h1 (gL false I q t X ln1 tl1 k led1 rest) → K .next { s with heap := h1, toks := tk1 }) → wpAny (model PySem.Challenge.rw_ti0052_01.prog w) A S K E { s with heap := hp, toks := tk0 })
    (h2 : ∀ y cs1 led1 ln1 tl1 u m1 h1 tk1, Esc c cs y cs1 → R cs1 led1 → ln1 + cnt10 cs1 = tot → m1 (Str.ofString "ch") = some (.str ⟨y.toArray⟩ u) → m1 (Str.ofString "token") = some (.str tok ut) → m1 (Str.ofString "self") = some (.ref X.lx) → m1 (Str.ofString "fiter") = some (.ref I) →
      Fr h₀ L h1 m1 → News h₀ L h1 (gL false I q t X ln1 tl1 k led1 rest) → Q .next { s with heap := h1, toks := tk1 }) : wpAny (model PySem.Challenge.rw_ti0052_01.prog w) A S Q E { s with heap := hp, toks := tk0 } := h1 Q h2
noncomputable def PhO (I lx : Addr) (res : List Nat × List Nat) (n : Nat) (e : Bool) (cs : List Nat) (m : Str → Option Value) : Prop :=
  (∃ tok u, m (Str.ofString "token") = some (.str ⟨tok.toArray⟩ u) ∧ tok.length + cs.length ≤ n ∧ (e = true → (tok, []) = res) ∧ (e = false → tok = [] ∧ tokO cs = res)) ∧ m (Str.ofString "self") = some (.ref lx) ∧ m (Str.ofString "fiter") = some (.ref I)
noncomputable def PhI (f : List Nat → List Nat → List Nat × List Nat) (I lx : Addr) (res : List Nat × List Nat) (n : Nat) (e : Bool) (cs : List Nat) (m : Str → Option Value) : Prop :=
  (∃ tok u, m (Str.ofString "token") = some (.str ⟨tok.toArray⟩ u) ∧ tok.length + cs.length ≤ n ∧ (e = true → (tok, []) = res) ∧ (e = false → f tok cs = res)) ∧ m (Str.ofString "self") = some (.ref lx) ∧ m (Str.ofString "fiter") = some (.ref I)
theorem c_tokL {X : LexP} {as : List Addr} {R : List Nat → Led → Prop} {ln : Int} {tl : Tok} {k : Nat} {rest : Led} {sg : List Nat} {led : Led} (Rd : Reads1 w p loose mean mg mb X.f as R) (hR : R sg led) (hsg : sg.length ≤ 4000) (D : Dist (X.adr ++ as)) (O : Off (X.adr ++ as) rest) :
    Mine.Claim w p loose mean mg mb 218 [.ref X.lx] [] (lexL X ln tl [] k ++ (led ++ rest)) 9 90 (fun r n' => (∃ u, r = .str ⟨(tokO sg).1.toArray⟩ u) ∧ ∃ ln' tl' led', R (tokO sg).2 led' ∧ ln' + cnt10 (tokO sg).2 = ln + cnt10 sg ∧ n' = lexL X ln' tl' [] k ++ (led' ++ rest)) := by
  have hl := (Rd.1 _ _ hR).1
  wtm_at "mIN"
  rename News _ _ _ _ => N1
  dsimp only [lexL, LexP.outer, LexP.inner, lexE, List.cons_append, List.nil_append] at N1
  wtm_at "mQ"
  rename News _ _ _ _ => Nq
  rename Fr _ _ _ _ => Fq
  rename _ ∧ _ ∧ _ ∧ _ ∧ _ ∧ AllLt _ (led ++ rest) => lq
  refine make_cit Fq Nq (Nq _ (.head _)).1 rfl (fun I h5 F5 N5 hI => ?_)
  clear Nq Fq
  have hI := allLt_of hI
  simp only [AllLt] at hI
  have aI := fresh_adr hl hI.2
  have aq := fresh_adr hl lq
  have O2 := off_both O aI.2 aq.2
  have hIq : @LT.lt Nat _ _ I := hI.1
  have Oiq := fun o1 o2 => off_iq (o1 := o1) (o2 := o2) O aI.1 aq.1
  obtain ⟨fo, fd, gf, hof⟩ := fn_of (g := 211) X' (by k_is)
  wtm_at "mQ"
  refine wpAny_For ?_
  wtm_at "mQ"
  rename News _ _ _ _ => Nq
  rename Fr _ _ _ _ => Fq
  try dsimp only
  refine for_cK (as := as) (R := R) (e := false) ?RD rfl gf hof (fun cs led h => (Rd.1 cs led h).1) aI.1 aq.1 (Nat.ne_of_lt hIq) O2 (PhO I X.lx (tokO sg) sg.length) (fun h => nomatch h) ⟨⟨[], _, congrArg (fun z => some (Value.str z _)) str_nil, by simp, (fun h => nomatch h), fun _ => ⟨rfl, rfl⟩⟩, rfl, rfl⟩ hR rfl Fq Nq ?turn ?done
  case RD => (intro sx mx restx csx ledx lnx tlx Qx Ex Fx Nx hRx Ox hretx; (refine' Mine.c_readc Rd hRx D Ox _ _ _ _ _ _ _ _ _ _ _ _ _ _ _ _ _ ?k1 ?k2 ?k3 ?k4 ?k5 ?kK ?kd ?ku ?kR; (case k1 => k_asm); (case k2 => exact Fx); (case k3 => k_asm); (case k4 => exact Nx); (case k5 => k_asm); (case kK => exact rfl); (case kd => wtm_at "mRM"); (case ku => wtm_at "mRU"); (case kR => exact hretx)))
  case done =>
    intro e m ln' tl' led' h tk hΦ hR' hln F6 N6
    clear Nq Fq
    try dsimp only
    (first | (with_reducible show wpAny _ _ _ _ _ _; generalize hGoal50 : wpAny _ _ _ _ _ _ = Goal50) | (dsimp only; with_reducible show wpAny _ _ _ _ _ _; generalize hGoal50 : wpAny _ _ _ _ _ _ = Goal50) | (generalize hGoal50 : True = Goal50))
    obtain ⟨⟨tok, u, ht, hlen, he1, he0⟩, hm1, hm2⟩ := hΦ
    have hres : (tok, []) = tokO sg := by
      cases e with
      | true => exact he1 rfl
      | false => obtain ⟨rfl, h⟩ := he0 rfl; exact h
    subst hGoal50
    wtm_at "mQ"
    rename Fr _ _ _ _ => Fk
    rename News _ _ _ _ => Nk
    rw [← hres] at hret
    exact hret _ _ _ _ ⟨⟨_, rfl⟩, _, _, led', hR', by rw [← hln]; simp [cnt10], rfl⟩ Fk (news_drop (news_drop Nk))
  case turn =>
    intro E' K c cs m ln' tl' led' u h tk hR' hln F6 N6 hn hc0 hr hΦ
    clear Nq Fq
    (first | (with_reducible show wpAny _ _ _ _ _ _; generalize hGoal51 : wpAny _ _ _ _ _ _ = Goal51) | (dsimp only; with_reducible show wpAny _ _ _ _ _ _; generalize hGoal51 : wpAny _ _ _ _ _ _ = Goal51) | (generalize hGoal51 : True = Goal51))
    obtain ⟨⟨tok, u', ht, hlen, he1, he0⟩, hm1, hm2⟩ := hΦ
    obtain ⟨rfl, htok⟩ := he0 rfl
    clear he1 he0
    subst hGoal51
    repeat' ((fail_if_success (with_reducible show wpAny _ _ (exec (Stmt.If _ [Stmt.Assign ..] [] _) _) ..)); wtm_at "mNOLOOP"; wtm_at "mSTEQ")
    · have hw := ws_false (by assumption)
      have hc := (sg34 c).mp (by assumption)
      have hgo : tokQ [] cs = tokO sg := by rw [← htok, tokO_cons, if_neg (by rw [hw]; decide), if_pos hc]
      refine wpAny_For ?_
      wtm_at "mQ"
      rename Fr _ _ _ _ => F7
      rename News _ _ _ _ => N7
      refine for_cK (as := as) (R := R) (e := false) (cs := cs) ?RDq rfl gf hof (fun cs led h => (Rd.1 cs led h).1) aI.1 aq.1 (Nat.ne_of_lt hIq) O2 (PhI tokQ I X.lx (tokO sg) sg.length) (fun h => nomatch h) ?iniq hR' hln F7 N7 ?turnq ?doneq
      case RDq => (intro sx mx restx csx ledx lnx tlx Qx Ex Fx Nx hRx Ox hretx; (refine' Mine.c_readc Rd hRx D Ox _ _ _ _ _ _ _ _ _ _ _ _ _ _ _ _ _ ?k1 ?k2 ?k3 ?k4 ?k5 ?kK ?kd ?ku ?kR; (case k1 => k_asm); (case k2 => exact Fx); (case k3 => k_asm); (case k4 => exact Nx); (case k5 => k_asm); (case kK => exact rfl); (case kd => wtm_at "mRM"); (case ku => wtm_at "mRU"); (case kR => exact hretx)))
      case iniq => exact ⟨⟨[], _, ht, by (simp at hlen ⊢; lia), (fun h => nomatch h), fun _ => hgo⟩, hm1, hm2⟩
      case doneq =>
        intro e m2 ln2 tl2 led2 h2 tk2 hΦ hR2 hln2 F8 N8
        clear N7 F7
        try dsimp only
        (first | (with_reducible show wpAny _ _ _ _ _ _; generalize hGoal52 : wpAny _ _ _ _ _ _ = Goal52) | (dsimp only; with_reducible show wpAny _ _ _ _ _ _; generalize hGoal52 : wpAny _ _ _ _ _ _ = Goal52) | (generalize hGoal52 : True = Goal52))
        obtain ⟨⟨tok, u2, ht2, hlen2, he1, he0⟩, hs1, hs2⟩ := hΦ
        have hres : (tok, []) = tokO sg := by
          cases e with
          | true => exact he1 rfl
          | false => rw [← he0 rfl, tokQ_nil]
        subst hGoal52
        wtm_at "mQ"
        try dsimp only
        refine hn true [] m2 ln2 tl2 led2 _ _ (Nat.zero_le _) (fun _ => rfl) ?_ hR2 (by rw [hln2]; simp [cnt10]) F8 N8
        exact ⟨⟨tok, u2, ht2, hlen2, fun _ => hres, fun h => nomatch h⟩, hs1, hs2⟩
      case turnq =>
        intro E'' K2 c2 cs2 m2 ln2 tl2 led2 u2 h2 tk2 hR2 hln2 F8 N8 hn2 hc2 hr2 hΦ
        clear N7 F7 hn hc0
        (first | (with_reducible show wpAny _ _ _ _ _ _; generalize hGoal53 : wpAny _ _ _ _ _ _ = Goal53) | (dsimp only; with_reducible show wpAny _ _ _ _ _ _; generalize hGoal53 : wpAny _ _ _ _ _ _ = Goal53) | (generalize hGoal53 : True = Goal53))
        obtain ⟨⟨tok, u3, ht2, hlen2, he1, he0⟩, hs1, hs2⟩ := hΦ
        have htok2 := he0 rfl
        have hlen3 : tok.length + 1 ≤ 4000 := by simp at hlen2; lia
        clear he0 he1
        subst hGoal53
        repeat' ((fail_if_success (with_reducible show wpAny _ _ (exec (Stmt.If _ [Stmt.Assign ..] [] _) _) ..)); wtm_at "mNOLOOP"; wtm_at "mSTEQ")
        · have hc := (sg34 c2).mp (by assumption)
          rw [tokQ_cons, if_pos hc] at htok2
          refine hr2 _ _ ?_
          try dsimp only
          try k_unfold
          try dsimp only
          refine hr _ _ ?_
          clear hr hr2 hn2 hc2
          try dsimp only
          wtm_at "mQ"
          rename Fr _ _ _ _ => Fk
          rename News _ _ _ _ => Nk
          rw [← htok2] at hret
          exact hret _ _ _ _ ⟨⟨_, rfl⟩, _, _, led2, hR2, hln2, rfl⟩ Fk (news_drop (news_drop Nk))
        · have hc := not_of (by assumption) (sg34 c2)
          rename Fr _ _ _ _ => Fa
          rename News _ _ _ _ => Na
          try dsimp only
          refine esc_cut (R := R) c2 cs2 (ln + cnt10 sg) ht2 Na ?escq ?_
          case escq =>
            clear hret
            intro K3 hK3
            wtm_at "mQ"
            · have h92 := (sg92 c2).mp (by assumption)
              try dsimp only
              (k_here; k_dflt (refine' Mine.ClaimC.claim (Mine.c_readc Rd hR2 D (Oiq _ _)) _ _ _ _ _ _ _ _ _ _ _ _ _ _ _ _ _ ?k1z59 ?k2z59 ?k3z59 ?k4z59 ?k5z59 ?kKz59 ?kdz59 ?kuz59 ?kRz59; (case k1z59 => k_asm); (case k2z59 => k_asm); (case k3z59 => k_asm); (case k4z59 => exact Mine.news_g1 (by k_asm)); (case k5z59 => k_asm); (case kKz59 => first | exact rfl | assumption); (case kdz59 => wtm_at "mRM"); (case kuz59 => wtm_at "mRU")))
              intro v9 n9 h9 tk9 hp9 F9 N9
              clear Fa Na
              try dsimp only
              (first | (with_reducible show wpAny _ _ _ _ _ _; generalize hGoal54 : wpAny _ _ _ _ _ _ = Goal54) | (dsimp only; with_reducible show wpAny _ _ _ _ _ _; generalize hGoal54 : wpAny _ _ _ _ _ _ = Goal54) | (generalize hGoal54 : True = Goal54))
              obtain ⟨y, cs1, u9, led9, ln9, tl9, rfl, rfl, hR9, hl9, hE⟩ := after_uni hR2 hp9
              have N10 := news_g2 N9
              clear N9
              subst hGoal54
              try k_fold
              wtm_at "mQ"
              rename Fr _ _ _ _ => Fk
              rename News _ _ _ _ => Nk
              refine hK3 y cs1 led9 ln9 tl9 u9 _ _ _ (hE _ h92) hR9 (hl9.trans hln2) ?_ ?_ ?_ ?_ Fk Nk
              · exact rfl
              · exact ht2
              · exact hs1
              · exact hs2
            · have h92 := not_of (by assumption) (sg92 c2)
              refine hK3 [c2] cs2 _ _ _ u2 _ _ _ (.inr (.inr ⟨h92, rfl, rfl⟩)) hR2 hln2 ?_ ?_ ?_ ?_ Fa Na
              · exact rfl
              · exact ht2
              · exact hs1
              · exact hs2
          intro y cs1 led9 ln9 tl9 u9 m9 h9 tk9 hE hR9 hln9 mc mt ms mf F9 N9
          clear Fa Na
          have hl9 := hE.len
          have z1 : (Str.mk tok.toArray).length ≤ 4000 := str_le (Nat.le_of_succ_le hlen3)
          have z2 : (Str.mk y.toArray).length ≤ 1 := str_le hl9.1
          try dsimp only
          wtm_at "mQ"
          rename Fr _ _ _ _ => Fk
          rename News _ _ _ _ => Nk
          refine hn2 false cs1 _ _ _ _ _ _ hl9.2.2 (fun h => nomatch h) ?_ hR9 hln9 Fk Nk
          exact ⟨⟨tok ++ y, _, congrArg (fun z => some (Value.str z _)) (cat_app _ _), by (simp at hlen2 ⊢; lia), (fun h => nomatch h), fun _ => by rw [← hE.q hc]; exact htok2⟩, ms, mf⟩
    · have hw := ws_false (by assumption)
      have hc := not_of (by assumption) (sg34 c)
      rename Fr _ _ _ _ => Fa
      rename News _ _ _ _ => Na
      try dsimp only
      refine esc_cut (R := R) c cs (ln + cnt10 sg) ht Na ?esco ?_
      case esco =>
        clear hret
        intro K3 hK3
        wtm_at "mQ"
        · have h92 := (sg92 c).mp (by assumption)
          try dsimp only
          (k_here; k_dflt (refine' Mine.ClaimC.claim (Mine.c_readc Rd hR' D (Oiq _ _)) _ _ _ _ _ _ _ _ _ _ _ _ _ _ _ _ _ ?k1z60 ?k2z60 ?k3z60 ?k4z60 ?k5z60 ?kKz60 ?kdz60 ?kuz60 ?kRz60; (case k1z60 => k_asm); (case k2z60 => k_asm); (case k3z60 => k_asm); (case k4z60 => exact Mine.news_g1 (by k_asm)); (case k5z60 => k_asm); (case kKz60 => first | exact rfl | assumption); (case kdz60 => wtm_at "mRM"); (case kuz60 => wtm_at "mRU")))
          intro v9 n9 h9 tk9 hp9 F9 N9
          clear Fa Na
          try dsimp only
          (first | (with_reducible show wpAny _ _ _ _ _ _; generalize hGoal55 : wpAny _ _ _ _ _ _ = Goal55) | (dsimp only; with_reducible show wpAny _ _ _ _ _ _; generalize hGoal55 : wpAny _ _ _ _ _ _ = Goal55) | (generalize hGoal55 : True = Goal55))
          obtain ⟨y, cs1, u9, led9, ln9, tl9, rfl, rfl, hR9, hl9, hE⟩ := after_uni hR' hp9
          have N10 := news_g2 N9
          clear N9
          subst hGoal55
          try k_fold
          wtm_at "mQ"
          rename Fr _ _ _ _ => Fk
          rename News _ _ _ _ => Nk
          refine hK3 y cs1 led9 ln9 tl9 u9 _ _ _ (hE _ h92) hR9 (hl9.trans hln) ?_ ?_ ?_ ?_ Fk Nk
          · exact rfl
          · exact ht
          · exact hm1
          · exact hm2
        · have h92 := not_of (by assumption) (sg92 c)
          refine hK3 [c] cs _ _ _ u _ _ _ (.inr (.inr ⟨h92, rfl, rfl⟩)) hR' hln ?_ ?_ ?_ ?_ Fa Na
          · exact rfl
          · exact ht
          · exact hm1
          · exact hm2
      intro y cs1 led9 ln9 tl9 u9 m9 h9 tk9 hE hR9 hln9 mc mt ms mf F9 N9
      clear Fa Na
      have hl9 := hE.len
      have z1 : (Str.mk #[]).length ≤ 0 := Nat.le_refl _
      have z2 : (Str.mk y.toArray).length ≤ 1 := str_le hl9.1
      have hgo : tokP y cs1 = tokO sg := by rw [← hE.o hw hc]; exact htok
      try dsimp only
      wtm_at "mQ"
      refine wpAny_For ?_
      wtm_at "mQ"
      rename Fr _ _ _ _ => F7
      rename News _ _ _ _ => N7
      refine for_cK (as := as) (R := R) (e := false) (cs := cs1) ?RDp rfl gf hof (fun cs led h => (Rd.1 cs led h).1) aI.1 aq.1 (Nat.ne_of_lt hIq) O2 (PhI tokP I X.lx (tokO sg) sg.length) (fun h => nomatch h) ?inip hR9 hln9 F7 N7 ?turnp ?donep
      case RDp => (intro sx mx restx csx ledx lnx tlx Qx Ex Fx Nx hRx Ox hretx; (refine' Mine.c_readc Rd hRx D Ox _ _ _ _ _ _ _ _ _ _ _ _ _ _ _ _ _ ?k1 ?k2 ?k3 ?k4 ?k5 ?kK ?kd ?ku ?kR; (case k1 => k_asm); (case k2 => exact Fx); (case k3 => k_asm); (case k4 => exact Nx); (case k5 => k_asm); (case kK => exact rfl); (case kd => wtm_at "mRM"); (case ku => wtm_at "mRU"); (case kR => exact hretx)))
      case inip => exact ⟨⟨y, _, congrArg (fun z => some (Value.str z _)) (cat_app [] _), by (simp at hlen ⊢; lia), (fun h => nomatch h), fun _ => hgo⟩, ms, mf⟩
      case donep =>
        intro e m2 ln2 tl2 led2 h2 tk2 hΦ hR2 hln2 F8 N8
        clear N7 F7
        try dsimp only
        (first | (with_reducible show wpAny _ _ _ _ _ _; generalize hGoal56 : wpAny _ _ _ _ _ _ = Goal56) | (dsimp only; with_reducible show wpAny _ _ _ _ _ _; generalize hGoal56 : wpAny _ _ _ _ _ _ = Goal56) | (generalize hGoal56 : True = Goal56))
        obtain ⟨⟨tok, u2, ht2, hlen2, he1, he0⟩, hs1, hs2⟩ := hΦ
        have hres : (tok, []) = tokO sg := by
          cases e with
          | true => exact he1 rfl
          | false => rw [← he0 rfl, tokP_nil]
        subst hGoal56
        wtm_at "mQ"
        try dsimp only
        refine hn true [] m2 ln2 tl2 led2 _ _ (Nat.zero_le _) (fun _ => rfl) ?_ hR2 (by rw [hln2]; simp [cnt10]) F8 N8
        exact ⟨⟨tok, u2, ht2, by (simp at hlen2 ⊢; lia), fun _ => hres, fun h => nomatch h⟩, hs1, hs2⟩
      case turnp =>
        intro E'' K2 c2 cs2 m2 ln2 tl2 led2 u2 h2 tk2 hR2 hln2 F8 N8 hn2 hc2 hr2 hΦ
        clear N7 F7 hn hc0
        (first | (with_reducible show wpAny _ _ _ _ _ _; generalize hGoal57 : wpAny _ _ _ _ _ _ = Goal57) | (dsimp only; with_reducible show wpAny _ _ _ _ _ _; generalize hGoal57 : wpAny _ _ _ _ _ _ = Goal57) | (generalize hGoal57 : True = Goal57))
        obtain ⟨⟨tok, u3, ht2, hlen2, he1, he0⟩, hs1, hs2⟩ := hΦ
        have htok2 := he0 rfl
        have hlen3 : tok.length + 1 ≤ 4000 := by simp at hlen2; lia
        clear he0 he1
        subst hGoal57
        repeat' ((fail_if_success (with_reducible show wpAny _ _ (exec (Stmt.If _ [Stmt.Assign ..] [] _) _) ..)); wtm_at "mNOLOOP"; wtm_at "mSTEQ")
        · have hw2 := ws_false (by assumption)
          rename Fr _ _ _ _ => Fa
          rename News _ _ _ _ => Na
          try dsimp only
          refine esc_cut (R := R) c2 cs2 (ln + cnt10 sg) ht2 Na ?escp ?_
          case escp =>
            clear hret
            intro K3 hK3
            wtm_at "mQ"
            · have h92 := (sg92 c2).mp (by assumption)
              try dsimp only
              (k_here; k_dflt (refine' Mine.ClaimC.claim (Mine.c_readc Rd hR2 D (Oiq _ _)) _ _ _ _ _ _ _ _ _ _ _ _ _ _ _ _ _ ?k1z61 ?k2z61 ?k3z61 ?k4z61 ?k5z61 ?kKz61 ?kdz61 ?kuz61 ?kRz61; (case k1z61 => k_asm); (case k2z61 => k_asm); (case k3z61 => k_asm); (case k4z61 => exact Mine.news_g1 (by k_asm)); (case k5z61 => k_asm); (case kKz61 => first | exact rfl | assumption); (case kdz61 => wtm_at "mRM"); (case kuz61 => wtm_at "mRU")))
              intro v9 n9 h9 tk9 hp9 F9 N9
              clear Fa Na
              try dsimp only
              (first | (with_reducible show wpAny _ _ _ _ _ _; generalize hGoal58 : wpAny _ _ _ _ _ _ = Goal58) | (dsimp only; with_reducible show wpAny _ _ _ _ _ _; generalize hGoal58 : wpAny _ _ _ _ _ _ = Goal58) | (generalize hGoal58 : True = Goal58))
              obtain ⟨y, cs1, u9, led9, ln9, tl9, rfl, rfl, hR9, hl9, hE⟩ := after_uni hR2 hp9
              have N10 := news_g2 N9
              clear N9
              subst hGoal58
              try k_fold
              wtm_at "mQ"
              rename Fr _ _ _ _ => Fk
              rename News _ _ _ _ => Nk
              refine hK3 y cs1 led9 ln9 tl9 u9 _ _ _ (hE _ h92) hR9 (hl9.trans hln2) ?_ ?_ ?_ ?_ Fk Nk
              · exact rfl
              · exact ht2
              · exact hs1
              · exact hs2
            · have h92 := not_of (by assumption) (sg92 c2)
              refine hK3 [c2] cs2 _ _ _ u2 _ _ _ (.inr (.inr ⟨h92, rfl, rfl⟩)) hR2 hln2 ?_ ?_ ?_ ?_ Fa Na
              · exact rfl
              · exact ht2
              · exact hs1
              · exact hs2
          intro y cs1 led9 ln9 tl9 u9 m9 h9 tk9 hE hR9 hln9 mc mt ms mf F9 N9
          clear Fa Na
          have hl9 := hE.len
          have z1 : (Str.mk tok.toArray).length ≤ 4000 := str_le (Nat.le_of_succ_le hlen3)
          have z2 : (Str.mk y.toArray).length ≤ 1 := str_le hl9.1
          try dsimp only
          wtm_at "mQ"
          rename Fr _ _ _ _ => Fk
          rename News _ _ _ _ => Nk
          refine hn2 false cs1 _ _ _ _ _ _ hl9.2.2 (fun h => nomatch h) ?_ hR9 hln9 Fk Nk
          exact ⟨⟨tok ++ y, _, congrArg (fun z => some (Value.str z _)) (cat_app _ _), by (simp at hlen2 ⊢; lia), (fun h => nomatch h), fun _ => by rw [← hE.pp hw2]; exact htok2⟩, ms, mf⟩
        · have hw2 := ws_true (by assumption)
          rw [tokP_cons, if_pos hw2] at htok2
          refine hr2 _ _ ?_
          try dsimp only
          try k_unfold
          try dsimp only
          refine hr _ _ ?_
          clear hr hr2 hn2 hc2
          try dsimp only
          wtm_at "mQ"
          rename Fr _ _ _ _ => Fk
          rename News _ _ _ _ => Nk
          rw [← htok2] at hret
          exact hret _ _ _ _ ⟨⟨_, rfl⟩, _, _, led2, hR2, hln2, rfl⟩ Fk (news_drop (news_drop Nk))
    · have hw := ws_true (by assumption)
      rename Fr _ _ _ _ => Fk
      rename News _ _ _ _ => Nk
      try dsimp only
      refine hc0 _ ?_
      refine hn false cs _ ln' tl' led' _ _ (Nat.le_refl _) (fun h => nomatch h) ?_ hR' hln Fk Nk
      exact ⟨⟨[], _, ht, by (first | (simp at hlen ⊢; lia) | (simp at hlen ⊢; done)), (fun h => nomatch h), fun _ => ⟨rfl, by rw [← htok, tokO_cons, if_pos hw]⟩⟩, hm1, hm2⟩
end
end Mine
end
section
open PySem PySem.W PyProof.Rows PySem.Calls PySem.Spec
set_option Elab.async false
set_option maxRecDepth 100000
set_option maxHeartbeats 0
namespace Mine
section
variable {w : World} {p : Program} {loose : List Str} {mean : ExcName → Option Value} {mg mb : Str → Option Value} {news : Led}
noncomputable def tup3 (f : Fact) (t1 t2 t3 : Tok) (n : Nat) : Obj := { cls := .type "tuple", data := .seq #[.int (f.1 : Int) t1, .int (f.2.1 : Int) t2, .int (f.2.2 : Int) t3] n }
noncomputable def tup2 (q : Nat × Nat) (t1 t2 : Tok) (n : Nat) : Obj := { cls := .type "tuple", data := .seq #[.int (q.1 : Int) t1, .int (q.2 : Int) t2] n }
structure FactsIn (rest : Led) (vs : List Value) (fs : List Fact) : Prop where
  len : vs.length = fs.length
  at_ : ∀ (i : Nat) (f : Fact), fs[i]? = some f → ∃ (t : Addr) (t1 t2 t3 : Tok) (n : Nat), vs[i]? = some (Value.ref t) ∧ (t, tup3 f t1 t2 t3 n) ∈ rest
structure TwosIn (rest : Led) (vs : List Value) (ps : List (Nat × Nat)) : Prop where
  len : vs.length = ps.length
  at_ : ∀ (i : Nat) (q : Nat × Nat), ps[i]? = some q → ∃ (t : Addr) (t1 t2 : Tok) (n : Nat), vs[i]? = some (Value.ref t) ∧ (t, tup2 q t1 t2 n) ∈ rest
theorem labGo_succ (fs : List Fact) (pr : Nat × Nat) : ∀ (n : Nat) (l : List Nat), labGo fs pr (n + 1) l = labRound fs pr (labGo fs pr n l)
  | 0, _ => rfl
  | n + 1, l => labGo_succ fs pr n (labRound fs pr l)
theorem ints_start {t t1 t2 t3 t4 : Tok} : IntsN [.int 0 t, .int 1 t1, .int 2 t2, .int 3 t3, .int 4 t4] [0, 1, 2, 3, 4] :=
  ⟨rfl, fun i n h => by
    match i, h with
    | 0, h => cases h; exact ⟨_, rfl⟩
    | 1, h => cases h; exact ⟨_, rfl⟩
    | 2, h => cases h; exact ⟨_, rfl⟩
    | 3, h => cases h; exact ⟨_, rfl⟩
    | 4, h => cases h; exact ⟨_, rfl⟩
    | i + 5, h => simp at h⟩
theorem assign_tupL {prog : Program} {w : World} {A : Around} {E : Value → Shared → Prop} {s : Shared} {h₀ : Heap} {L : Addr} {m : Str → Option Value} {news : Led} {env : Env} {elts : List Expr} {x1 : Nat} {pos : Pos} {t : Addr} {items : Array Value} {Q : Unit → Shared → Prop} (F : Fr h₀ L s.heap m) (N : News h₀ L s.heap news) (ht : s.heap.IsTuple t items)
    (hn : (assignEach elts env).length = items.size) (hstar : (assignEach elts env).findIdx? (·.1) = none)
    (h : ∀ h', Fr h₀ L h' m → News h₀ L h' news → wpAny (model prog w) A (assignInOrder ((assignEach elts env).map (·.2)) items.toList) Q E { s with heap := h' })
    (hh : A.handled = none := by rfl) :
    wpAny (model prog w) A (assign (.Tuple elts x1 pos) env (.ref t)) Q E s := by
  refine wpAny_assign_Tuple hh ht hn hstar fun h' he => h h' ?_ ?_
  · refine ⟨F.ns.extBut he (Nat.ne_of_lt F.ns.lt), fun b o e => ?_, F.above⟩
    have := F.keep b o e
    exact he b o (Nat.ne_of_lt (Heap.lt_size this)) this
  · intro p hp
    have q := N p hp
    exact ⟨he p.1 p.2 (Nat.ne_of_lt (Heap.lt_size q.1)) q.1, q.2⟩
noncomputable def IsCell (o : Obj) : Prop := ∃ x, o.data = .cell x
noncomputable def sameG (fs : List Fact) (l : List Nat) (f : Fact) : List (Nat × Nat) := (fs.filter fun g => mkk l f.1 == mkk l g.1 && mkk l f.2.1 == mkk l g.2.1).map fun g => (f.2.2, g.2.2)
theorem twos_one {pa : Addr} {pr : Nat × Nat} {u1 u2 : Tok} {n2 : Nat} {g : Fact → List (Nat × Nat)} {fs : List Fact} : TwosIn ((pa, tup2 pr u1 u2 n2) :: []) [.ref pa] (pr :: (fs.take 0).flatMap g) where
  len := rfl
  at_ := fun i q h => by
    match i, h with
    | 0, h => cases h; exact ⟨pa, u1, u2, n2, rfl, .head _⟩
    | i + 1, h => simp at h
theorem twos_nil {rest : Led} {g : Fact → Nat × Nat} {p : Fact → Bool} {fs : List Fact} : TwosIn rest [] (((fs.take 0).filter p).map g) where
  len := by simp
  at_ := fun i q h => by simp at h
theorem TwosIn.mono {r r' : Led} {vs : List Value} {ps : List (Nat × Nat)} (h : TwosIn r vs ps) (s : ∀ p ∈ r, p ∈ r') : TwosIn r' vs ps :=
  ⟨h.len, fun i q e => by obtain ⟨t, t1, t2, n, a, b⟩ := h.at_ i q e; exact ⟨t, t1, t2, n, a, s _ b⟩⟩
theorem TwosIn.app {r : Led} {vs ws : List Value} {ps qs : List (Nat × Nat)} (h : TwosIn r vs ps) (g : TwosIn r ws qs) : TwosIn r (vs ++ ws) (ps ++ qs) :=
  ⟨by rw [List.length_append, List.length_append, h.len, g.len], fun i q e => by
    rcases Nat.lt_or_ge i ps.length with hi | hi
    · rw [List.getElem?_append_left hi] at e
      obtain ⟨t, t1, t2, n, a, b⟩ := h.at_ i q e
      exact ⟨t, t1, t2, n, by rw [List.getElem?_append_left (by rw [h.len]; exact hi)]; exact a, b⟩
    · rw [List.getElem?_append_right hi] at e
      obtain ⟨t, t1, t2, n, a, b⟩ := g.at_ _ q e
      exact ⟨t, t1, t2, n, by rw [List.getElem?_append_right (by rw [h.len]; exact hi), h.len]; exact a, b⟩⟩
theorem TwosIn.one {r : Led} {t : Addr} {t1 t2 : Tok} {n : Nat} {q : Nat × Nat} (h : (t, tup2 q t1 t2 n) ∈ r) : TwosIn r [.ref t] [q] :=
  ⟨rfl, fun i x e => by
    match i, e with
    | 0, e => cases e; exact ⟨t, t1, t2, n, rfl, h⟩
    | i + 1, e => simp at e⟩
theorem take_filter {α β : Type} {l : List α} {i : Nat} {x : α} (h : l[i]? = some x) (p : α → Bool) (g : α → β) : ((l.take (i + 1)).filter p).map g = ((l.take i).filter p).map g ++ (if p x = true then [g x] else []) := by
  rw [List.take_succ, h, List.filter_append, List.map_append]
  congr 1
  by_cases e : p x = true
  · simp [e]
  · simp [e]
theorem take_flat {α β : Type} {l : List α} {i : Nat} {x : α} (h : l[i]? = some x) (g : α → List β) : (l.take (i + 1)).flatMap g = (l.take i).flatMap g ++ g x := by
  rw [List.take_succ, h, List.flatMap_append]
  simp
theorem ext_L {prog : Program} {w : World} {A : Around} {E : Value → Shared → Prop} {s : Shared} {h₀ : Heap} {L D b : Addr} {m : Str → Option Value} {news : Led} {vs ys : List Value} {n k : Nat} {nf : Nat → Led} {Q : Value → Shared → Prop} (F : Fr h₀ L s.heap m) (N : News h₀ L s.heap news) (hb : (b, listOf ys.toArray k) ∈ news)
    (U : ∀ k', Upd D (listOf vs.toArray n) (listOf (vs ++ ys).toArray k') news (nf k')) (hsz : vs.length + ys.length < 4000)
    (h : ∀ h' k', Fr h₀ L h' m → News h₀ L h' (nf k') → Q .none { s with heap := h' }) : wpAny (model prog w) A (call (.builtin "list.extend") [.ref D, .ref b]) Q E s := by
  have hd : ¬(!vs.toArray.isEmpty && Builtin.List.listTooLong (vs.toArray.size + ys.toArray.size)) = true := by
    simp [Builtin.List.listTooLong, sizeLine]; lia
  have z1 : vs.toArray.toList.length ≤ sizeLine := by rw [List.toList_toArray]; exact Nat.le_trans (Nat.le_of_lt (Nat.lt_of_le_of_lt (Nat.le_add_right ..) hsz)) (by decide)
  have z2 : vs.toArray.size + ys.toArray.size ≤ sizeLine + 1 := by rw [List.size_toArray, List.size_toArray]; exact Nat.le_trans (Nat.le_of_lt hsz) (by decide)
  by_cases e : ys = []
  · subst e
    have U' := U n
    rw [List.append_nil] at U'
    exact kxn_extend F N hb rfl U' hd z1 z2 fun h' F' N' => h h' n F' N'
  · exact kl_extend F N hb (by rw [List.toList_toArray, List.toList_toArray]) (by simp [e]) (U (n + 1)) hd z1 z2 fun h' F' N' => h h' _ F' N'
theorem sameG_all {fs : List Fact} {lab : List Nat} {f : Fact} {rest r : Led} {fvs ys : List Value} (FI : FactsIn rest fvs fs) (h : TwosIn r ys (((fs.take fvs.length).filter fun g => mkk lab f.1 == mkk lab g.1 && mkk lab f.2.1 == mkk lab g.2.1).map fun g => (f.2.2, g.2.2))) : TwosIn r ys (sameG fs lab f) := by
  rw [List.take_of_length_le (by rw [FI.len]; exact Nat.le_refl _)] at h
  exact h
theorem ints_map {ys : List Value} {l : List Nat} {i x y : Nat} {f : Nat → Nat} {t : Tok} (h : IntsN ys ((l.take i).map f)) (hx : l[i]? = some x) (e : f x = y) : IntsN (ys ++ [.int (y : Int) t]) ((l.take (i + 1)).map f) := by
  have h2 : (l.map f)[i]? = some y := by rw [List.getElem?_map, hx, ← e]; rfl
  rw [List.map_take] at h ⊢
  exact IntsN.snoc h h2
theorem get_lab {lv : List Value} {l : List Nat} {a : Nat} (h : IntsN lv l) (hl : l.length = 5) (ha : a < 5) : ∃ t, lv[a]? = some (.int ((mkk l a : Nat) : Int) t) := by
  refine h.2 a (mkk l a) ?_
  have : a < l.length := by lia
  rw [List.getElem?_eq_getElem this]
  show _ = some (l.getD a 0)
  rw [List.getD_eq_getElem?_getD, List.getElem?_eq_getElem this]
  rfl
theorem news_add {h₀ h : Heap} {L : Addr} {d i s a b c : Addr × Obj} {add tl R : Led} (N : News h₀ L h (d :: (add ++ (i :: s :: a :: b :: c :: (tl ++ R))))) : News h₀ L h (d :: s :: i :: a :: b :: c :: ((add ++ tl) ++ R)) := news_sub N fun p hp => by
  exact Mine.sub_at hp (by wtm_at "per")
theorem news_un {h₀ h : Heap} {L : Addr} {S I D x1 x2 x3 x4 x5 x6 : Addr × Obj} {tl R : Led} (N : News h₀ L h (S :: x4 :: x3 :: x2 :: (tl ++ (I :: D :: x6 :: x5 :: x1 :: R)))) : News h₀ L h (D :: x6 :: x5 :: x1 :: (S :: I :: x4 :: x3 :: x2 :: (tl ++ R))) := news_sub N fun p hp => by
  exact Mine.sub_at hp (by wtm_at "per")
theorem twos_all {fs : List Fact} {lab : List Nat} {f : Fact} {r : Led} {n : Nat} {ys : List Value} (hn : n = fs.length) (h : TwosIn r ys (((fs.take n).filter fun g => mkk lab f.1 == mkk lab g.1 && mkk lab f.2.1 == mkk lab g.2.1).map fun g => (f.2.2, g.2.2))) : TwosIn r ys (sameG fs lab f) := by
  subst hn
  rw [List.take_length] at h
  exact h
theorem q_hi {c a S : Nat} (h : c + 1 + 1 + 1 + 1 + 1 + 1 < a) (h2 : a < S) : (@Ne Nat (a) (c + 1 + 1) ∧ @Ne Nat (a) (c + 1 + 1 + 1) ∧ @Ne Nat (a) (c + 1 + 1 + 1 + 1) ∧ @Ne Nat (a) (S)) := by refine ⟨?_, ?_, ?_, ?_⟩ <;> lia
theorem q_1 {c S : Nat} (h : c + 1 + 1 + 1 + 1 + 1 + 1 < S) : (@Ne Nat (c + 1) (c + 1 + 1) ∧ @Ne Nat (c + 1) (c + 1 + 1 + 1) ∧ @Ne Nat (c + 1) (c + 1 + 1 + 1 + 1) ∧ @Ne Nat (c + 1) (S)) := by refine ⟨?_, ?_, ?_, ?_⟩ <;> lia
theorem q_5 {c S : Nat} (h : c + 1 + 1 + 1 + 1 + 1 + 1 < S) : (@Ne Nat (c + 1 + 1 + 1 + 1 + 1) (c + 1 + 1) ∧ @Ne Nat (c + 1 + 1 + 1 + 1 + 1) (c + 1 + 1 + 1) ∧ @Ne Nat (c + 1 + 1 + 1 + 1 + 1) (c + 1 + 1 + 1 + 1) ∧ @Ne Nat (c + 1 + 1 + 1 + 1 + 1) (S)) := by refine ⟨?_, ?_, ?_, ?_⟩ <;> lia
theorem q_6 {c S : Nat} (h : c + 1 + 1 + 1 + 1 + 1 + 1 < S) : (@Ne Nat (c + 1 + 1 + 1 + 1 + 1 + 1) (c + 1 + 1) ∧ @Ne Nat (c + 1 + 1 + 1 + 1 + 1 + 1) (c + 1 + 1 + 1) ∧ @Ne Nat (c + 1 + 1 + 1 + 1 + 1 + 1) (c + 1 + 1 + 1 + 1) ∧ @Ne Nat (c + 1 + 1 + 1 + 1 + 1 + 1) (S)) := by refine ⟨?_, ?_, ?_, ?_⟩ <;> lia
theorem q_lo {c a S : Nat} (h : a < c) (h2 : c + 1 + 1 + 1 + 1 + 1 + 1 < S) : (@Ne Nat (a) (c + 1 + 1) ∧ @Ne Nat (a) (c + 1 + 1 + 1) ∧ @Ne Nat (a) (c + 1 + 1 + 1 + 1) ∧ @Ne Nat (a) (S)) := by refine ⟨?_, ?_, ?_, ?_⟩ <;> lia
theorem q_top {c a S : Nat} (h : c + 1 + 1 + 1 + 1 + 1 + 1 < S) (h2 : S < a) : (@Ne Nat (a) (c + 1 + 1) ∧ @Ne Nat (a) (c + 1 + 1 + 1) ∧ @Ne Nat (a) (c + 1 + 1 + 1 + 1) ∧ @Ne Nat (a) (S)) := by refine ⟨?_, ?_, ?_, ?_⟩ <;> lia
theorem r_top {c a : Nat} (h : c + 1 + 1 + 1 + 1 + 1 + 1 < a) : (@Ne Nat (a) (c + 1) ∧ @Ne Nat (a) (c + 1 + 1 + 1 + 1 + 1) ∧ @Ne Nat (a) (c + 1 + 1 + 1 + 1 + 1 + 1)) := by refine ⟨?_, ?_, ?_⟩ <;> lia
theorem r_lo {c a : Nat} (h : a < c) : (@Ne Nat (a) (c + 1) ∧ @Ne Nat (a) (c + 1 + 1 + 1 + 1 + 1) ∧ @Ne Nat (a) (c + 1 + 1 + 1 + 1 + 1 + 1)) := by refine ⟨?_, ?_, ?_⟩ <;> lia
theorem r_2 {c : Nat} : (@Ne Nat (c + 1 + 1) (c + 1) ∧ @Ne Nat (c + 1 + 1) (c + 1 + 1 + 1 + 1 + 1) ∧ @Ne Nat (c + 1 + 1) (c + 1 + 1 + 1 + 1 + 1 + 1)) := by refine ⟨?_, ?_, ?_⟩ <;> lia
theorem r_3 {c : Nat} : (@Ne Nat (c + 1 + 1 + 1) (c + 1) ∧ @Ne Nat (c + 1 + 1 + 1) (c + 1 + 1 + 1 + 1 + 1) ∧ @Ne Nat (c + 1 + 1 + 1) (c + 1 + 1 + 1 + 1 + 1 + 1)) := by refine ⟨?_, ?_, ?_⟩ <;> lia
theorem r_4 {c : Nat} : (@Ne Nat (c + 1 + 1 + 1 + 1) (c + 1) ∧ @Ne Nat (c + 1 + 1 + 1 + 1) (c + 1 + 1 + 1 + 1 + 1) ∧ @Ne Nat (c + 1 + 1 + 1 + 1) (c + 1 + 1 + 1 + 1 + 1 + 1)) := by refine ⟨?_, ?_, ?_⟩ <;> lia
theorem b_se {a b j n : Nat} (h : a ≤ 1 + 4 * j) (hb : b ≤ 4) (hj : j < n) (h4 : n = 4) : a + b < 4000 := by lia
theorem b_sl {a b j : Nat} (h : a ≤ 1 + 4 * j) (hb : b ≤ 4) : a + b ≤ 1 + 4 * (j + 1) := by lia
inductive LabJ (fs : List Fact) (pr : Nat × Nat) (R0 : Led) (fl pa c1 c2 c3 c4 c5 c6 : Addr) (i : Nat) (mm : Str → Option Value) (nn : Led) : Prop
  | mk (D : Addr) (lv : List Value) (k : Nat) (o1 o2 o3 o4 o5 o6 : Obj) : nn = (D, listOf lv.toArray k) :: (c6, o6) :: (c5, o5) :: (c4, o4) :: (c3, o3) :: (c2, o2) :: (c1, o1) :: R0 →
    o1.data = .cell (some (.ref D)) → (IsCell o2 ∧ IsCell o3 ∧ IsCell o4 ∧ IsCell o5 ∧ IsCell o6) → IntsN lv (labGo fs pr i [0, 1, 2, 3, 4]) → LabOk (labGo fs pr i [0, 1, 2, 3, 4]) → @LT.lt Nat _ c6 D → mm (Str.ofString "facts") = some (.ref fl) → mm (Str.ofString "pair") = some (.ref pa) → LabJ fs pr R0 fl pa c1 c2 c3 c4 c5 c6 i mm nn
inductive LabS (fs : List Fact) (pr : Nat × Nat) (lab : List Nat) (R0 R1 : Led) (fl pa S c2 c3 c4 : Addr) (j : Nat) (mm : Str → Option Value) (nn : Led) : Prop
  | mk (sv : List Value) (ks : Nat) (tl : Led) (o2 o3 o4 : Obj) : nn = (S, listOf sv.toArray ks) :: (c4, o4) :: (c3, o3) :: (c2, o2) :: (tl ++ R1) →
    TwosIn (tl ++ R0) sv (pr :: (fs.take j).flatMap (sameG fs lab)) → (∀ p ∈ tl, @LT.lt Nat _ S p.1) → sv.length ≤ 1 + 4 * j → (IsCell o2 ∧ IsCell o3 ∧ IsCell o4) → mm (Str.ofString "same") = some (.ref S) → mm (Str.ofString "facts") = some (.ref fl) → mm (Str.ofString "pair") = some (.ref pa) → LabS fs pr lab R0 R1 fl pa S c2 c3 c4 j mm nn
inductive LabT (fs : List Fact) (pr : Nat × Nat) (lab : List Nat) (R3 : Led) (fl pa I c1 c5 c6 : Addr) (j : Nat) (mm : Str → Option Value) (nn : Led) : Prop
  | mk (D' : Addr) (lv' : List Value) (k' : Nat) (o1' o5' o6' : Obj) : nn = (D', listOf lv'.toArray k') :: (c6, o6') :: (c5, o5') :: (c1, o1') :: R3 →
    o1'.data = .cell (some (.ref D')) → (IsCell o5' ∧ IsCell o6') → IntsN lv' (((sameOf fs pr lab).take j).foldl labStep lab) → LabOk (((sameOf fs pr lab).take j).foldl labStep lab) → @LT.lt Nat _ c6 D' → @Ne Nat D' I → mm (Str.ofString "facts") = some (.ref fl) → mm (Str.ofString "pair") = some (.ref pa) → LabT fs pr lab R3 fl pa I c1 c5 c6 j mm nn
theorem c_labels {fl pa : Addr} {fvs : List Value} {kf n2 : Nat} {u1 u2 : Tok} {fs : List Fact} {pr : Nat × Nat} {R0 : Led} (mfl : (fl, listOf fvs.toArray kf) ∈ R0) (mpa : (pa, tup2 pr u1 u2 n2) ∈ R0) (FI : FactsIn R0 fvs fs) (h4 : fs.length = 4) (hs : Small fs) (hp : pr.1 < 5 ∧ pr.2 < 5) :
    Mine.Claim w p loose mean mg mb 322 [.ref fl, .ref pa] [] R0 5 40 (fun r n' => ∃ D lv k, r = .ref D ∧ IntsN lv (labels fs pr) ∧ (∀ p ∈ R0, @LT.lt Nat _ p.1 D) ∧ n' = (D, listOf lv.toArray k) :: R0) := by
  wtm_at "mIN"
  have lR : ∀ p ∈ R0, @LT.lt Nat _ p.1 L' := by first | exact l1 | exact fun p hp => lt_of_all l1 p hp
  have lr1 : ∀ p ∈ R0, p.1 ≠ L' + 1 := fun p hp => Nat.ne_of_lt (Nat.lt_succ_of_lt (lR p hp))
  wtm_at "mQ"
  refine wpAny_For ?_
  wtm_at "mQ"
  rename IsRange _ _ _ _ _ _ _ _ => hRg
  rename @LT.lt Nat _ _ _ ∧ @LT.lt Nat _ _ _ ∧ @LT.lt Nat _ _ _ ∧ @LT.lt Nat _ _ _ ∧ @LT.lt Nat _ _ _ ∧ @LT.lt Nat _ _ _ ∧ AllLt _ _ => lD
  rename News _ _ _ _ => N1
  rename Fr _ _ _ _ => F1
  try dsimp only
  refine for_K (n := 4) (src_range hRg (by decide) (by decide)) F1 N1 (LabJ fs pr R0 fl pa (L' + 1) (L' + 1 + 1) (L' + 1 + 1 + 1) (L' + 1 + 1 + 1 + 1) (L' + 1 + 1 + 1 + 1 + 1) (L' + 1 + 1 + 1 + 1 + 1 + 1)) ⟨_, _, _, _, _, _, _, _, _, rfl, by assumption, ⟨⟨_, by assumption⟩, ⟨_, by assumption⟩, ⟨_, by assumption⟩, ⟨_, by assumption⟩, ⟨_, by assumption⟩⟩, ints_start, labs_start, lD.1, rfl, rfl⟩ ?turn ?done
  case done =>
    intro E' mm nn h6 tk6 hJ hsub F3 N3
    clear F1 N1
    (first | (with_reducible show wpAny _ _ _ _ _ _; generalize hGoal62 : wpAny _ _ _ _ _ _ = Goal62) | (dsimp only; with_reducible show wpAny _ _ _ _ _ _; generalize hGoal62 : wpAny _ _ _ _ _ _ = Goal62) | (generalize hGoal62 : True = Goal62))
    obtain ⟨D, lv, k, o1, o2, o3, o4, o5, o6, rfl, d1, ⟨⟨g2, d2⟩, ⟨g3, d3⟩, ⟨g4, d4⟩, ⟨g5, d5⟩, ⟨g6, d6⟩⟩, hlv, hok, hD, m1, m2⟩ := hJ
    subst hGoal62
    wtm_at "mQ"
    rename Fr _ _ _ _ => Fk
    rename News _ _ _ _ => Nk
    refine' hret _ _ _ _ ⟨D, lv, k, rfl, hlv, fun p hp => Nat.lt_trans (Nat.lt_of_lt_of_le (lR p hp) (Nat.le_add_right L' 6)) hD, rfl⟩ Fk ?nk
    case nk => (refine Mine.news_sub Nk ?_; (repeat' (with_reducible first | exact Mine.mem_hd | exact Mine.sub_refl | refine Mine.sub_cons ?_ ?_ | exact Mine.sub_appR | refine Mine.sub_tail ?_ | refine Mine.mem_tl ?_)))
  case turn =>
    intro E' K I it i v mm nn h6 tk6 hi hv hsub hoff F3 N3 hn hJ
    clear F1 N1
    (first | (with_reducible show wpAny _ _ _ _ _ _; generalize hGoal63 : wpAny _ _ _ _ _ _ = Goal63) | (dsimp only; with_reducible show wpAny _ _ _ _ _ _; generalize hGoal63 : wpAny _ _ _ _ _ _ = Goal63) | (generalize hGoal63 : True = Goal63))
    obtain ⟨tv, rfl⟩ := hv
    obtain ⟨D, lv, k, o1, o2, o3, o4, o5, o6, rfl, d1, ⟨⟨g2, d2⟩, ⟨g3, d3⟩, ⟨g4, d4⟩, ⟨g5, d5⟩, ⟨g6, d6⟩⟩, hlv, hok, hD, m1, m2⟩ := hJ
    generalize hlab : labGo fs pr i [0, 1, 2, 3, 4] = lab at *
    have hID : @Ne Nat I D := fun e => hoff _ (.head _) e.symm
    have hI1 : @Ne Nat I (L' + 1) := fun e => hoff (L' + 1, o1) (mem_deep 6 (.head _)) e.symm
    have hI2 : @Ne Nat I (L' + 1 + 1) := fun e => hoff (L' + 1 + 1, o2) (mem_deep 5 (.head _)) e.symm
    have hI3 : @Ne Nat I (L' + 1 + 1 + 1) := fun e => hoff (L' + 1 + 1 + 1, o3) (mem_deep 4 (.head _)) e.symm
    have hI4 : @Ne Nat I (L' + 1 + 1 + 1 + 1) := fun e => hoff (L' + 1 + 1 + 1 + 1, o4) (mem_deep 3 (.head _)) e.symm
    have hI5 : @Ne Nat I (L' + 1 + 1 + 1 + 1 + 1) := fun e => hoff (L' + 1 + 1 + 1 + 1 + 1, o5) (mem_deep 2 (.head _)) e.symm
    have hI6 : @Ne Nat I (L' + 1 + 1 + 1 + 1 + 1 + 1) := fun e => hoff (L' + 1 + 1 + 1 + 1 + 1 + 1, o6) (mem_deep 1 (.head _)) e.symm
    have hI0 : ∀ p ∈ R0, p.1 ≠ I := fun p hp => hoff p (mem_deep 7 hp)
    clear hoff lD
    subst hGoal63
    wtm_at "mQ"
    refine wpAny_For ?_
    wtm_at "mQ"
    rename News _ _ _ _ => N4
    rename Fr _ _ _ _ => F4
    rename @LT.lt Nat _ _ _ ∧ @LT.lt Nat _ _ _ ∧ @LT.lt Nat _ _ _ ∧ @LT.lt Nat _ _ _ ∧ @LT.lt Nat _ _ _ ∧ @LT.lt Nat _ _ _ ∧ @LT.lt Nat _ _ _ ∧ @LT.lt Nat _ _ _ ∧ AllLt _ _ => lS
    rename_i S h4' t4' t5' mm5'
    have hSD : @LT.lt Nat _ D S := lS.2.1
    have hSI : @LT.lt Nat _ I S := lS.1
    clear lS
    have z1 : @LT.lt Nat _ (L' + 1 + 1 + 1 + 1 + 1 + 1) S := Nat.lt_trans hD hSD
    have N4 := news_sub (l2 := (S, listOf [Value.ref pa].toArray 0) :: (L' + 1 + 1 + 1 + 1, o4) :: (L' + 1 + 1 + 1, o3) :: (L' + 1 + 1, o2) :: ((I, it) :: (D, listOf lv.toArray k) :: (L' + 1 + 1 + 1 + 1 + 1 + 1, o6) :: (L' + 1 + 1 + 1 + 1 + 1, o5) :: (L' + 1, o1) :: R0)) N4 (by wtm_at "per")
    (first | (with_reducible show wpAny _ _ _ _ _ _; generalize hGoal64 : wpAny _ _ _ _ _ _ = Goal64) | (dsimp only; with_reducible show wpAny _ _ _ _ _ _; generalize hGoal64 : wpAny _ _ _ _ _ _ = Goal64) | (generalize hGoal64 : True = Goal64))
    obtain ⟨R1, hR1⟩ : ∃ R1 : Led, R1 = ((I, it) :: (D, listOf lv.toArray k) :: (L' + 1 + 1 + 1 + 1 + 1 + 1, o6) :: (L' + 1 + 1 + 1 + 1 + 1, o5) :: (L' + 1, o1) :: R0) := ⟨_, rfl⟩
    rw [← hR1] at N4
    have mD : (D, listOf lv.toArray k) ∈ R1 := by rw [hR1]; exact mem_deep 1 (.head _)
    have mc1 : (L' + 1, o1) ∈ R1 := by rw [hR1]; exact mem_deep 4 (.head _)
    have m0 : ∀ p ∈ R0, p ∈ R1 := fun p hp => by rw [hR1]; exact mem_deep 5 hp
    have oR1 : ∀ p ∈ R1, @Ne Nat p.1 (L' + 1 + 1) ∧ @Ne Nat p.1 (L' + 1 + 1 + 1) ∧ @Ne Nat p.1 (L' + 1 + 1 + 1 + 1) ∧ @Ne Nat p.1 S := by
      intro p hp
      rw [hR1] at hp
      simp only [List.mem_cons] at hp
      rcases hp with rfl | rfl | rfl | rfl | rfl | hp
      · exact ⟨hI2, hI3, hI4, Nat.ne_of_lt hSI⟩
      · exact q_hi hD hSD
      · exact q_6 z1
      · exact q_5 z1
      · exact q_1 z1
      · exact q_lo (lR p hp) z1
    subst hGoal64
    try dsimp only
    refine for_K (src_list N4 (mem_deep 4 (m0 _ mfl)) rfl rfl) F4 N4 (LabS fs pr lab R0 R1 fl pa S (L' + 1 + 1) (L' + 1 + 1 + 1) (L' + 1 + 1 + 1 + 1)) ⟨[.ref pa], 0, [], _, _, _, rfl, TwosIn.one mpa, (fun _ h => nomatch h), Nat.le_refl _, ⟨⟨_, d2⟩, ⟨_, d3⟩, ⟨_, d4⟩⟩, rfl, m1, m2⟩ ?turn1 ?done1
    case turn1 =>
      intro E1 K1 I1 it1 j v1 mm1 nn1 h7 tk7 hj hv1 hsub1 hoff1 F5 N5 hn1 hJ
      clear F4 N4 hn
      (first | (with_reducible show wpAny _ _ _ _ _ _; generalize hGoal65 : wpAny _ _ _ _ _ _ = Goal65) | (dsimp only; with_reducible show wpAny _ _ _ _ _ _; generalize hGoal65 : wpAny _ _ _ _ _ _ = Goal65) | (generalize hGoal65 : True = Goal65))
      obtain ⟨sv, ks, tl, o2', o3', o4', rfl, hsv, htl, hsl, ⟨⟨g2', d2'⟩, ⟨g3', d3'⟩, ⟨g4', d4'⟩⟩, q1, q2, q3⟩ := hJ
      have hj2 : j < fs.length := by rw [← FI.len]; exact hj
      obtain ⟨f, hf⟩ : ∃ f, fs[j]? = some f := ⟨_, List.getElem?_eq_getElem hj2⟩
      obtain ⟨tt, t1, t2, t3, n1, hv', hmt⟩ := FI.at_ j f hf
      obtain rfl : Value.ref tt = v1 := Option.some.inj (hv'.symm.trans hv1)
      have hf5 := hs f (List.mem_of_getElem? hf)
      have oT : ∀ p ∈ tl ++ R1, @Ne Nat p.1 (L' + 1 + 1) ∧ @Ne Nat p.1 (L' + 1 + 1 + 1) ∧ @Ne Nat p.1 (L' + 1 + 1 + 1 + 1) ∧ @Ne Nat p.1 S := by
        intro p hp
        rcases List.mem_append.mp hp with hp | hp
        · exact q_top z1 (htl p hp)
        · exact oR1 p hp
      have off2 : ∀ p ∈ tl ++ R1, p.1 ≠ L' + 1 + 1 := fun p hp => (oT p hp).1
      have off3 : ∀ p ∈ tl ++ R1, p.1 ≠ L' + 1 + 1 + 1 := fun p hp => (oT p hp).2.1
      have off4 : ∀ p ∈ tl ++ R1, p.1 ≠ L' + 1 + 1 + 1 + 1 := fun p hp => (oT p hp).2.2.1
      have x1 : @Ne Nat I1 (L' + 1 + 1) := fun e => hoff1 (L' + 1 + 1, o2') (mem_deep 3 (.head _)) e.symm
      have x2 : @Ne Nat I1 (L' + 1 + 1 + 1) := fun e => hoff1 (L' + 1 + 1 + 1, o3') (mem_deep 2 (.head _)) e.symm
      have x3 : @Ne Nat I1 (L' + 1 + 1 + 1 + 1) := fun e => hoff1 (L' + 1 + 1 + 1 + 1, o4') (mem_deep 1 (.head _)) e.symm
      subst hGoal65
      have N6 := news_more N5 (q := (tt, tup3 f t1 t2 t3 n1)) (mem_deep 5 (List.mem_append_right _ (m0 _ hmt)))
      refine assign_tupL F5 N6 ⟨_, (N6 _ (List.mem_cons_self ..)).1, rfl, _, rfl⟩ rfl rfl (fun h8 F8 N8 => ?_)
      clear N6 F5 N5
      have N8 := news_drop N8
      wtm_at "mQ"
      refine comp_open (cl := _) (by rfl) ?_
      wtm_at "mQ"
      rename News _ _ _ _ => N9
      rename Fr _ _ _ _ => F9
      try dsimp only
      refine comp_K (src_list N9 (mem_deep 5 (List.mem_append_right _ (m0 _ mfl))) rfl rfl) F9 N9 ?hn (fun i2 ys add => TwosIn add ys (((fs.take i2).filter fun g => mkk lab f.1 == mkk lab g.1 && mkk lab f.2.1 == mkk lab g.2.1).map fun g => (f.2.2, g.2.2))) twos_nil ?turn2 ?done2
      case hn => rw [FI.len, h4]; decide
      case turn2 =>
        intro E2 Ky Kn C2 R oC mc i2 v2 ys add h9 tk9 hi2 hv2 hyl hlt2 hRR hA hoffC nC F10 N10 hy hx hys
        have e1 := hRR _ (mem_deep 5 (List.mem_append_right _ mc1))
        have e2 := hRR _ (mem_deep 4 (.head _))
        have e3 := hRR _ (mem_deep 3 (.head _))
        have e4 := hRR _ (mem_deep 2 (.head _))
        have e5 := hRR _ (mem_deep 5 (List.mem_append_right _ mD))
        clear F9 N9 hn1
        (first | (with_reducible show wpAny _ _ _ _ _ _; generalize hGoal66 : wpAny _ _ _ _ _ _ = Goal66) | (dsimp only; with_reducible show wpAny _ _ _ _ _ _; generalize hGoal66 : wpAny _ _ _ _ _ _ = Goal66) | (generalize hGoal66 : True = Goal66))
        obtain ⟨g, hg⟩ : ∃ g, fs[i2]? = some g := ⟨_, List.getElem?_eq_getElem (FI.len ▸ hi2)⟩
        obtain ⟨t9, w1, w2, w3, n9, hv9, hm9⟩ := FI.at_ i2 g hg
        obtain rfl : Value.ref t9 = v2 := Option.some.inj (hv9.symm.trans hv2)
        have hg5 := hs g (List.mem_of_getElem? hg)
        have e6 := hRR _ (mem_deep 5 (List.mem_append_right _ (m0 _ hm9)))
        obtain ⟨ta, ha⟩ := get_lab hlv hok.len hf5.1
        obtain ⟨tb, hb⟩ := get_lab hlv hok.len hf5.2.1
        obtain ⟨tc, hc⟩ := get_lab hlv hok.len hg5.1
        obtain ⟨td, hd'⟩ := get_lab hlv hok.len hg5.2.1
        have hf1 := hf5.1
        have hf2 := hf5.2.1
        have hg1 := hg5.1
        have hg2 := hg5.2.1
        clear hRR hlt2 hA off2 off3 off4 oT x1 x2 x3 lr1 lR hI0 oR1 m0 hsub hsub1 hoff1 mD mc1 mfl mpa
        subst hGoal66
        have N11 := news_more N10 (.tail _ e6)
        refine assign_tupL F10 N11 ⟨_, (N11 _ (List.mem_cons_self ..)).1, rfl, _, rfl⟩ rfl rfl (fun h12 F12 N12 => ?_)
        have N13 := news_drop N12
        clear N11 F10 N10 N12
        refine assignInOrder_cons ?_
        refine own_name (o := oC) F12 N13 nC hoffC ?_
        intro oC2 h14 tk14 nC2 F14 N14
        refine assignInOrder_cons ?_
        refine own_name (o := oC2) F14 N14 nC2 hoffC ?_
        intro oC3 h15 tk15 nC3 F15 N15
        refine assignInOrder_cons ?_
        refine own_name (o := oC3) F15 N15 nC3 hoffC ?_
        intro oC4 h16 tk16 nC4 F16 N16
        refine assignInOrder_nil ?_
        clear N13 N14 N15 F12 F14 F15
        refine ifs_one ?_
        try dsimp only
        wtm_at "mQ"
        · rename @LT.lt Nat _ _ _ ∧ AllLt _ _ => lT
          rename News _ _ _ _ => N20
          rename Fr _ _ _ _ => F20
          rename_i tt hh9
          have ec : (mkk lab f.1 == mkk lab g.1 && mkk lab f.2.1 == mkk lab g.2.1) = true := by
            rw [Bool.and_eq_true, beq_iff_eq, beq_iff_eq]; exact ⟨Int.ofNat.inj (by assumption), Int.ofNat.inj (by assumption)⟩
          refine hy _ oC4 _ [(tt, tup2 (f.2.2, g.2.2) t3 w3 0)] _ _ ?_ nC4 F20 N20 (fun p hp => by rw [List.mem_singleton.mp hp]; exact lT.1)
          rw [take_filter hg, if_pos ec]; exact (hys.mono fun p hp => .tail _ hp).app (.one (.head _))
        · rename _ ≠ _ => hne
          have ec : ¬ (mkk lab f.1 == mkk lab g.1 && mkk lab f.2.1 == mkk lab g.2.1) = true := by
            rw [Bool.and_eq_true, beq_iff_eq, beq_iff_eq]; exact fun e => hne (congrArg Int.ofNat e.2)
          rename News _ _ _ _ => N20
          rename Fr _ _ _ _ => F20
          refine hx oC4 _ [] _ _ ?_ nC4 F20 N20 (fun p hp => nomatch hp)
          rw [take_filter hg, if_neg ec, List.append_nil]; exact hys
        · rename _ ≠ _ => hne
          have ec : ¬ (mkk lab f.1 == mkk lab g.1 && mkk lab f.2.1 == mkk lab g.2.1) = true := by
            rw [Bool.and_eq_true, beq_iff_eq, beq_iff_eq]; exact fun e => hne (congrArg Int.ofNat e.1)
          rename News _ _ _ _ => N20
          rename Fr _ _ _ _ => F20
          refine hx oC4 _ [] _ _ ?_ nC4 F20 N20 (fun p hp => nomatch hp)
          rw [take_filter hg, if_neg ec, List.append_nil]; exact hys
      case done2 =>
        intro D2 ys yk add h9 tk9 hys hyl hD2 hfr hlt2 F10 N10
        clear F9 N9
        have N10 := news_add N10
        have hSD2 : @Ne Nat D2 S := Nat.ne_of_gt (hlt2 (S, listOf sv.toArray ks) (mem_deep 1 (.head _)))
        have hS1 : @Ne Nat I1 S := fun e => hoff1 (S, listOf sv.toArray ks) (.head _) e.symm
        have hfS : ∀ p ∈ add, @LT.lt Nat _ S p.1 := fun p hp => hfr p hp (S, listOf sv.toArray ks) (mem_deep 1 (.head _))
        have hfI : ∀ p ∈ add, @LT.lt Nat _ I1 p.1 := fun p hp => hfr p hp (I1, it1) (.head _)
        have hyl2 : ys.length ≤ 4 := by rw [← h4, ← FI.len]; exact hyl
        (first | (with_reducible show wpAny _ _ _ _ _ _; generalize hGoal67 : wpAny _ _ _ _ _ _ = Goal67) | (dsimp only; with_reducible show wpAny _ _ _ _ _ _; generalize hGoal67 : wpAny _ _ _ _ _ _ = Goal67) | (generalize hGoal67 : True = Goal67))
        obtain ⟨R2, hR2⟩ : ∃ R2 : Led, R2 = (add ++ tl) ++ R1 := ⟨_, rfl⟩
        rw [← hR2] at N10
        have offS : ∀ p ∈ R2, p.1 ≠ S := fun p hp => by
          rw [hR2] at hp
          rcases List.mem_append.mp hp with hp | hp
          · rcases List.mem_append.mp hp with hp | hp
            · exact Nat.ne_of_gt (hfS p hp)
            · exact Nat.ne_of_gt (htl p hp)
          · exact (oR1 p hp).2.2.2
        subst hGoal67
        wtm_at "mQ"
        refine' ext_L ?Fe ?Ne ?be ?Ue ?se (fun h8 k8 F8 N8 => ?_)
        case Fe => k_asm
        case Ne => k_asm
        case be => k_mem
        case Ue => intro k'; k_upd
        case se => exact b_se hsl hyl2 hj2 h4
        try dsimp only
        wtm_at "mQ"
        try dsimp only
        rename News _ _ _ _ => N20
        rename Fr _ _ _ _ => F20
        have hJ9 : TwosIn ((add ++ tl) ++ R0) (sv ++ ys) (pr :: (fs.take (j + 1)).flatMap (sameG fs lab)) := by
          rw [take_flat hf, ← List.cons_append]
          refine (hsv.mono ?_).app (TwosIn.mono (twos_all FI.len hys) ?_)
          · intro p hp
            rw [List.append_assoc]
            exact List.mem_append_right _ hp
          · intro p hp
            rw [List.append_assoc]
            exact List.mem_append_left _ hp
        refine hn1 _ ((S, listOf (sv ++ ys).toArray k8) :: (L' + 1 + 1 + 1 + 1, _) :: (L' + 1 + 1 + 1, _) :: (L' + 1 + 1, _) :: R2) _ _ ?jj (fun p hp => by rw [List.mem_singleton.mp hp, hR2]; exact mem_deep 4 (List.mem_append_right _ (m0 _ mfl))) F20 (news_sub N20 (by wtm_at "per")) ?off4
        case jj =>
          refine ⟨sv ++ ys, k8, add ++ tl, _, _, _, by rw [hR2], hJ9, ?_, ?_, ⟨⟨_, by assumption⟩, ⟨_, by assumption⟩, ⟨_, by assumption⟩⟩, q1, q2, q3⟩
          · intro p hp
            rcases List.mem_append.mp hp with hp | hp
            · exact hfS p hp
            · exact htl p hp
          · rw [List.length_append]; exact b_sl hsl hyl2
        case off4 =>
          intro p hp
          rw [hR2] at hp
          simp only [List.mem_cons, List.mem_append] at hp
          rcases hp with rfl | rfl | rfl | rfl | (hp | hp) | hp
          · exact fun e => hS1 e.symm
          · exact fun e => x3 e.symm
          · exact fun e => x2 e.symm
          · exact fun e => x1 e.symm
          · exact Nat.ne_of_gt (hfI p hp)
          · exact hoff1 p (mem_deep 4 (List.mem_append_left _ hp))
          · exact hoff1 p (mem_deep 4 (List.mem_append_right _ hp))
    case done1 =>
      intro E1 mm1 nn1 h7 tk7 hJ hsub1 F5 N5
      clear F4 N4
      (first | (with_reducible show wpAny _ _ _ _ _ _; generalize hGoal68 : wpAny _ _ _ _ _ _ = Goal68) | (dsimp only; with_reducible show wpAny _ _ _ _ _ _; generalize hGoal68 : wpAny _ _ _ _ _ _ = Goal68) | (generalize hGoal68 : True = Goal68))
      obtain ⟨sv, ks, tl, o2', o3', o4', rfl, hsv, htl, hsl, ⟨⟨g2', d2'⟩, ⟨g3', d3'⟩, ⟨g4', d4'⟩⟩, q1, q2, q3⟩ := hJ
      rw [hR1] at N5
      have N5 := news_un N5
      clear mD mc1 m0 oR1 hsub1
      clear hR1 R1
      rw [List.take_of_length_le (by rw [FI.len]; exact Nat.le_refl _)] at hsv
      have hps := same_lt hs hp lab
      obtain ⟨R3, hR3⟩ : ∃ R3 : Led, R3 = ((S, listOf sv.toArray ks) :: (I, it) :: (L' + 1 + 1 + 1 + 1, o4') :: (L' + 1 + 1 + 1, o3') :: (L' + 1 + 1, o2') :: (tl ++ R0)) := ⟨_, rfl⟩
      rw [← hR3] at N5
      have mS : (S, listOf sv.toArray ks) ∈ R3 := by rw [hR3]; exact .head _
      have mT : ∀ p ∈ tl ++ R0, p ∈ R3 := fun p hp => by rw [hR3]; exact mem_deep 5 hp
      have oR3 : ∀ p ∈ R3, @Ne Nat p.1 (L' + 1) ∧ @Ne Nat p.1 (L' + 1 + 1 + 1 + 1 + 1) ∧ @Ne Nat p.1 (L' + 1 + 1 + 1 + 1 + 1 + 1) := by
        intro p hp
        rw [hR3] at hp
        simp only [List.mem_cons, List.mem_append] at hp
        rcases hp with rfl | rfl | rfl | rfl | rfl | hp | hp
        · exact r_top z1
        · exact ⟨hI1, hI5, hI6⟩
        · exact r_4
        · exact r_3
        · exact r_2
        · exact r_top (Nat.lt_trans z1 (htl p hp))
        · exact r_lo (lR p hp)
      have off1 : ∀ p ∈ R3, p.1 ≠ L' + 1 := fun p hp => (oR3 p hp).1
      have off5 : ∀ p ∈ R3, p.1 ≠ L' + 1 + 1 + 1 + 1 + 1 := fun p hp => (oR3 p hp).2.1
      have off6 : ∀ p ∈ R3, p.1 ≠ L' + 1 + 1 + 1 + 1 + 1 + 1 := fun p hp => (oR3 p hp).2.2
      subst hGoal68
      wtm_at "mQ"
      refine wpAny_For ?_
      wtm_at "mQ"
      rename News _ _ _ _ => N6
      rename Fr _ _ _ _ => F6
      try dsimp only
      refine for_K (src_list N6 (mem_deep 4 mS) rfl rfl) F6 N6 (LabT fs pr lab R3 fl pa I (L' + 1) (L' + 1 + 1 + 1 + 1 + 1) (L' + 1 + 1 + 1 + 1 + 1 + 1)) ⟨D, lv, k, _, _, _, rfl, d1, ⟨⟨_, d5⟩, ⟨_, d6⟩⟩, hlv, hok, hD, fun e => hID e.symm, q2, q3⟩ ?turn3 ?done3
      case turn3 =>
        intro E2 K2 I2 it2 j v2 mm2 nn2 h8 tk8 hj hv2 hsub2 hoff2 F7 N7 hn2 hJ
        clear F6 N6 hn
        (first | (with_reducible show wpAny _ _ _ _ _ _; generalize hGoal69 : wpAny _ _ _ _ _ _ = Goal69) | (dsimp only; with_reducible show wpAny _ _ _ _ _ _; generalize hGoal69 : wpAny _ _ _ _ _ _ = Goal69) | (generalize hGoal69 : True = Goal69))
        obtain ⟨D', lv', k', o1', o5', o6', rfl, d1', ⟨⟨g5', d5'⟩, ⟨g6', d6'⟩⟩, hlv', hok', hD', hne', q2', q3'⟩ := hJ
        have hj2 : j < (sameOf fs pr lab).length := by show j < (pr :: fs.flatMap (sameG fs lab)).length; rw [← hsv.len]; exact hj
        obtain ⟨q, hq⟩ : ∃ q, (sameOf fs pr lab)[j]? = some q := ⟨_, List.getElem?_eq_getElem hj2⟩
        obtain ⟨tt, t1, t2, n1, hv', hmt⟩ := hsv.at_ j q hq
        obtain rfl : Value.ref tt = v2 := Option.some.inj (hv'.symm.trans hv2)
        have hq5 := hps q (List.mem_of_getElem? hq)
        have x1 : @Ne Nat I2 (L' + 1) := fun e => hoff2 (L' + 1, o1') (mem_deep 3 (.head _)) e.symm
        have x5 : @Ne Nat I2 (L' + 1 + 1 + 1 + 1 + 1) := fun e => hoff2 (L' + 1 + 1 + 1 + 1 + 1, o5') (mem_deep 2 (.head _)) e.symm
        have x6 : @Ne Nat I2 (L' + 1 + 1 + 1 + 1 + 1 + 1) := fun e => hoff2 (L' + 1 + 1 + 1 + 1 + 1 + 1, o6') (mem_deep 1 (.head _)) e.symm
        have oI2 : ∀ p ∈ R3, p.1 ≠ I2 := fun p hp => hoff2 p (mem_deep 4 hp)
        clear hoff2
        subst hGoal69
        have N8 := news_more N7 (q := (tt, tup2 q t1 t2 n1)) (mem_deep 5 (mT _ hmt))
        refine assign_tupL F7 N8 ⟨_, (N8 _ (List.mem_cons_self ..)).1, rfl, _, rfl⟩ rfl rfl (fun h9 F9 N9 => ?_)
        have N9 := news_drop N9
        clear N8 F7 N7
        wtm_at "mQ"
        refine wpAny_Assign_Name ?_ ?_
        rotate_left
        with_unfolding_all rfl
        refine comp_open (cl := _) (by rfl) ?_
        wtm_at "mQ"
        rename News _ _ _ _ => N9
        rename Fr _ _ _ _ => F9
        generalize hl' : ((sameOf fs pr lab).take j).foldl labStep lab = l' at *
        have hln : lv'.length = 5 := by rw [hlv'.1, hok'.len]
        try dsimp only
        refine comp_K0 (src_list N9 (by k_mem) rfl rfl) F9 N9 (by rw [hln]; decide) (fun i2 ys => IntsN ys ((l'.take i2).map fun x => if x = mkk l' q.2 then mkk l' q.1 else x)) (by simp [IntsN]) ?turn4 ?done4
        case turn4 =>
          intro E3 Ky Kn C3 R oC mc i3 v3 ys h10 tk10 hi3 hv3 hyl hRR hoffC nC F10 N10 hy hx hys
          have e1 := hRR _ (mem_deep 4 (.head _))
          have e5 := hRR _ (mem_deep 3 (.head _))
          have e6 := hRR _ (mem_deep 2 (.head _))
          have e7 := hRR _ (mem_deep 1 (.head _))
          clear F9 N9 hRR hn2 hx x1 x5 x6 off1 off5 off6 oR3 oI2 mT mS lR lr1 hI0 mfl mpa
          (first | (with_reducible show wpAny _ _ _ _ _ _; generalize hGoal70 : wpAny _ _ _ _ _ _ = Goal70) | (dsimp only; with_reducible show wpAny _ _ _ _ _ _; generalize hGoal70 : wpAny _ _ _ _ _ _ = Goal70) | (generalize hGoal70 : True = Goal70))
          have hi4 : i3 < l'.length := by rw [hok'.len, ← hln]; exact hi3
          obtain ⟨x, hx⟩ : ∃ x, l'[i3]? = some x := ⟨_, List.getElem?_eq_getElem hi4⟩
          obtain ⟨tx, hx2⟩ := hlv'.2 i3 x hx
          obtain rfl : Value.int (x : Int) tx = v3 := Option.some.inj (hx2.symm.trans hv3)
          obtain ⟨ta, ha⟩ := get_lab hlv' hok'.len hq5.1
          obtain ⟨tb, hb⟩ := get_lab hlv' hok'.len hq5.2
          have hq1 := hq5.1
          have hq2 := hq5.2
          subst hGoal70
          refine own_name (o := oC) F10 N10 nC hoffC ?_
          intro oC2 h14 tk14 nC2 F14 N14
          clear F10 N10
          refine ifs_nil ?_
          try dsimp only
          wtm_at "mQ"
          · rename _ = _ => hxe
            have hxe : x = mkk l' q.2 := Int.ofNat.inj hxe
            rename News _ _ _ _ => N20
            rename Fr _ _ _ _ => F20
            exact hy _ oC2 _ _ _ (ints_map hys hx (if_pos hxe)) nC2 F20 N20
          · rename _ ≠ _ => hxe
            have hxe : ¬ x = mkk l' q.2 := fun e => hxe (congrArg Int.ofNat e)
            rename News _ _ _ _ => N20
            rename Fr _ _ _ _ => F20
            exact hy _ oC2 _ _ _ (ints_map hys hx (if_neg hxe)) nC2 F20 N20
        case done4 =>
          intro D3 ys yk h10 tk10 hys hyl hlt3 F10 N10
          clear F9 N9
          rw [hln, ← hok'.len, List.take_length] at hys
          have eL : ((sameOf fs pr lab).take (j + 1)).foldl labStep lab = labStep l' q := by
            rw [List.take_succ, hq, List.foldl_append, hl']; rfl
          have zI2 : @LT.lt Nat _ I2 D3 := hlt3 (I2, it2) (.head _)
          have zD6 : @LT.lt Nat _ D' D3 := hlt3 (D', listOf lv'.toArray k') (mem_deep 1 (.head _))
          have zS : @LT.lt Nat _ S D3 := hlt3 _ (mem_deep 5 mS)
          have zD' : @Ne Nat D' (L' + 1) := (r_top hD').1
          wtm_at "mQ"
          try dsimp only
          rename News _ _ _ _ => N20
          rename Fr _ _ _ _ => F20
          refine hn2 _ ((D3, listOf ys.toArray yk) :: (L' + 1 + 1 + 1 + 1 + 1 + 1, _) :: (L' + 1 + 1 + 1 + 1 + 1, _) :: (L' + 1, _) :: R3) _ _ ?jj (fun p hp => by rw [List.mem_singleton.mp hp]; exact mem_deep 4 mS) F20 (news_sub N20 (by wtm_at "per")) ?off9
          case jj =>
            refine ⟨D3, ys, yk, _, _, _, rfl, by assumption, ⟨⟨_, by assumption⟩, ⟨_, by assumption⟩⟩, by rw [eL]; exact hys, by rw [eL]; exact labStep_ok hok' hq5.1 hq5.2, ?_, ?_, q2', q3'⟩
            · exact Nat.lt_trans hD' zD6
            · exact Nat.ne_of_gt (Nat.lt_trans hSI zS)
          case off9 =>
            intro p hp
            simp only [List.mem_cons] at hp
            rcases hp with rfl | rfl | rfl | rfl | hp
            · exact Nat.ne_of_gt zI2
            · exact fun e => x6 e.symm
            · exact fun e => x5 e.symm
            · exact fun e => x1 e.symm
            · exact oI2 p hp
      case done3 =>
        intro E2 mm2 nn2 h8 tk8 hJ hsub2 F7 N7
        clear F6 N6
        (first | (with_reducible show wpAny _ _ _ _ _ _; generalize hGoal71 : wpAny _ _ _ _ _ _ = Goal71) | (dsimp only; with_reducible show wpAny _ _ _ _ _ _; generalize hGoal71 : wpAny _ _ _ _ _ _ = Goal71) | (generalize hGoal71 : True = Goal71))
        obtain ⟨D', lv', k', o1', o5', o6', rfl, d1', ⟨⟨g5', d5'⟩, ⟨g6', d6'⟩⟩, hlv', hok', hD', hne', q2', q3'⟩ := hJ
        rw [hR3] at N7
        rw [List.take_of_length_le (by rw [hsv.len]; exact Nat.le_refl _)] at hlv' hok'
        subst hGoal71
        wtm_at "mQ"
        try dsimp only
        rename News _ _ _ _ => N20
        rename Fr _ _ _ _ => F20
        have eg : labGo fs pr (i + 1) [0, 1, 2, 3, 4] = (sameOf fs pr lab).foldl labStep lab := by rw [labGo_succ, hlab]; rfl
        refine hn _ ((D', listOf lv'.toArray k') :: (L' + 1 + 1 + 1 + 1 + 1 + 1, o6') :: (L' + 1 + 1 + 1 + 1 + 1, o5') :: (L' + 1 + 1 + 1 + 1, o4') :: (L' + 1 + 1 + 1, o3') :: (L' + 1 + 1, o2') :: (L' + 1, o1') :: R0) _ _ ?jj (fun p hp => nomatch hp) F20 ?nn5 ?off5
        case jj => exact ⟨D', lv', k', o1', o2', o3', o4', o5', o6', rfl, d1', ⟨⟨_, d2'⟩, ⟨_, d3'⟩, ⟨_, d4'⟩, ⟨_, d5'⟩, ⟨_, d6'⟩⟩, by rw [eg]; exact hlv', by rw [eg]; exact hok', hD', q2', q3'⟩
        case nn5 => exact news_sub N20 (by wtm_at "per")
        case off5 =>
          intro p hp
          simp only [List.mem_cons] at hp
          rcases hp with rfl | rfl | rfl | rfl | rfl | rfl | rfl | hp
          · exact hne'
          · exact fun e => hI6 e.symm
          · exact fun e => hI5 e.symm
          · exact fun e => hI4 e.symm
          · exact fun e => hI3 e.symm
          · exact fun e => hI2 e.symm
          · exact fun e => hI1 e.symm
          · exact hI0 p hp
end
end Mine
end
section
open PySem PySem.W PyProof.Rows PySem.Calls PySem.Spec
set_option Elab.async false
set_option maxRecDepth 100000
namespace Mine
section
variable {prog : Program} {w : World} {A : Around} {E : Value → Shared → Prop} {s : Shared} {h₀ : Heap} {L : Addr} {m : Str → Option Value} {news : Led}
theorem cut2_bounds : (match Builtin.Slice.sliceAdjust none (some 2) 1 (3 : Int) with | (lo, hi) => (lo, (1 : Int), Builtin.Slice.slicePlaces lo hi 1)) = ((0 : Int), (1 : Int), 2) := by decide +kernel
theorem sliceApplied_cut2 {sl : Addr} {u : Tok} {Q : Int × Int × Nat → Shared → Prop} (hs : s.heap.IsSliceOf sl .none (.int 2 u) .none) (h : Q (0, 1, 2) s) :
    wpAny (model prog w) A (Builtin.Slice.sliceApplied (.ref sl) (pure (3 : Int))) Q E s := by
  obtain ⟨os, hos, hcs, hds⟩ := id hs
  unfold Builtin.Slice.sliceApplied Builtin.Slice.sliceFields
  refine wpAny_bind (wpAny_bind (wpAny_field hos hds (x := .none) rfl (wpAny_bind (wpAny_field hos hds (x := .int 2 u) rfl (wpAny_bind (wpAny_field hos hds (x := .none) rfl (wpAny_pure ?_)))))))
  refine wpAny_bind (slicePart_none ?_)
  show wpAny _ _ (if ((1 : Int) == 0) = true then _ else _) _ _ s
  rw [if_neg (by decide)]
  refine wpAny_bind (slicePart_none (wpAny_bind (slicePart_int (wpAny_bind (wpAny_pure ?_)))))
  show wpAny _ _ (pure (match Builtin.Slice.sliceAdjust none (some 2) 1 (3 : Int) with | (lo, hi) => (lo, (1 : Int), Builtin.Slice.slicePlaces lo hi 1))) _ _ s
  rw [cut2_bounds]
  exact wpAny_pure h
theorem getItem_cut2 {t sl : Addr} {a b c : Value} {u : Tok} {Q : Value → Shared → Prop} (ht : IsTup s.heap t #[a, b, c]) (hs : s.heap.IsSliceOf sl .none (.int 2 u) .none)
    (h : Q (.ref s.heap.objs.size) { s with heap := s.heap.push { cls := .type "tuple", data := .seq #[a, b] } }) : wpAny (model prog w) A (getItem (.ref t) (.ref sl)) Q E s := by
  have hdrop : sizeOk (.seq #[a, b]) := by
    show (#[a, b] : Array Value).size ≤ sizeLine
    exact Nat.le_trans (Nat.le_refl 2) (by decide)
  obtain ⟨os, hos, hcs, hds⟩ := id hs
  have hTs : s.TypeIs (.ref sl) "slice" := ⟨os, hos, hcs⟩
  unfold getItem
  try with_reducible refine wpAny_holding ?_
  first | refine wpAny_bind (wpAny_pure ?_) | skip
  refine wpAny_bind (wpAny_sequenceKey ht.typeIs (by decide) ?_)
  refine wpAny_bind (wpAny_callSpecial?_slot (name := Str.ofString "__getitem__") ht.typeIs slot_tuple_getitem
    (wpAny_call_entry slot_tuple_getitem ht.typeIs entry_tuple_getitem ?_ (args_tuple_getitem _ _)))
  show wpAny _ _ (Builtin.Tuple.tupleItemsOf (.ref t) >>= _) _ _ s
  refine wpAny_bind (tupleItemsOf_ ht ?_)
  refine wpAny_bind (wpAny_typeOf hTs ?_)
  rw [if_pos (by decide)]
  refine wpAny_bind (sliceApplied_cut2 hs ?_)
  show wpAny _ _ (if ((0 : Int) == 0 && (1 : Int) == 1 && ((2 : Nat) == (3 : Nat))) = true then _ else _) _ _ s
  rw [if_neg (by decide)]
  have e : ((List.range 2).filterMap fun (k : Nat) => (#[a, b, c] : Array Value)[((0 : Int) + (k : Int) * 1).toNat]?).toArray = #[a, b] := rfl
  rw [e]
  first
    | exact wpAny_bind (m := Builtin.Tuple.tupleExact _) (wpAny_newObj_type (wpAny_pure ⟨_, rfl, wpAny_pure h⟩) hdrop)
    | exact wpAny_bind (m := Builtin.Tuple.tupleExact _) (wpAny_newObj_type (wpAny_bind (wpAny_pure (wpAny_pure ⟨_, rfl, wpAny_pure h⟩))) hdrop)
    | exact wpAny_bind (wpAny_bind (m := Builtin.Tuple.tupleExact _) (wpAny_newObj_type (wpAny_pure (wpAny_pure ⟨_, rfl, wpAny_pure h⟩)) hdrop))
theorem cut2_tuple {hp : Heap} {tk : Tok} {value slice : PySem.Expr} {t : Addr} {a b c : Value} {n : Nat} {u : Tok} {ops : List Value} {Q : Value → Shared → Prop} (F : Fr h₀ L hp m) (N : News h₀ L hp news) (ht : (t, ({ cls := .type "tuple", data := .seq #[a, b, c] n } : Obj)) ∈ news)
    (h : ∀ h' q, Fr h₀ L h' m → News h₀ L h' ((q, { cls := .type "tuple", data := .seq #[a, b] }) :: news) → (∀ p ∈ news, @LT.lt Nat _ p.1 q) → Q (.ref q) { s with heap := h', toks := tk })
    (hs : subscripted slice false (.ref t) (.ref hp.objs.size) = operate ops (getItem (.ref t) (.ref hp.objs.size)) := by with_unfolding_all rfl) :
    wpAny (model prog w) A (subscriptTail value slice (.ref t) (.ref hp.objs.size)) Q E { s with heap := hp.push { cls := .type "slice", data := .fields #[.none, .int 2 u, .none] }, toks := tk } := by
  have hT : IsTup (hp.push { cls := .type "slice", data := .fields #[.none, .int 2 u, .none] }) t #[a, b, c] := ⟨_, Heap.get?_push_of_some _ (N _ ht).1, rfl, _, rfl⟩
  have F2 := F.push { cls := .type "slice", data := .fields #[.none, .int 2 u, .none] }
  have N2 := N.push F { cls := .type "slice", data := .fields #[.none, .int 2 u, .none] } rfl
  have hS : (hp.push { cls := .type "slice", data := .fields #[.none, .int 2 u, .none] }).IsSliceOf hp.objs.size .none (.int 2 u) .none := Heap.IsSliceOf.new ..
  refine tail_any (T := "tuple") (IsTup.typeIs (s := { s with heap := hp.push { cls := .type "slice", data := .fields #[.none, .int 2 u, .none] }, toks := tk }) hT) slot_tuple_getitem.lookup (getItem_cut2 (s := { s with heap := hp.push { cls := .type "slice", data := .fields #[.none, .int 2 u, .none] }, toks := tk }) hT hS ?_) hs
  have N3 := N2.push F2 { cls := .type "tuple", data := .seq #[a, b] } rfl
  refine h _ _ (F2.push _) (fun p hp => N3 p ?_) (fun p hp => Heap.lt_size (N2 p (.tail _ hp)).1)
  rcases List.mem_cons.mp hp with rfl | hp
  · exact .head _
  · exact .tail _ (.tail _ hp)

noncomputable abbrev dStrs (xs : List Str) : List PyData := xs.map PyData.str
noncomputable abbrev dInts (xs : List Nat) : List PyData := xs.map fun (n : Nat) => PyData.int (n : Int)
noncomputable abbrev dPairs (xs : List (Str × Str)) : List PyData := xs.map fun kv => PyData.tuple [.str kv.1, .str kv.2]
theorem can_strs : ∀ {xs : List Str}, (∀ x ∈ xs, PyData.strOk x = true) → PyData.canLayAll0 (dStrs xs) = true
  | [], _ => by simp [PyData.canLayAll0]
  | x :: xs, h => by
    show PyData.canLayAll0 (.str x :: dStrs xs) = true
    rw [PyData.canLayAll0, PyData.canLay0, h x (List.mem_cons_self ..), can_strs fun y hy => h y (List.mem_cons_of_mem _ hy)]; rfl
theorem can_ints : ∀ xs : List Nat, PyData.canLayAll0 (dInts xs) = true
  | [] => by simp [PyData.canLayAll0]
  | x :: xs => by
    show PyData.canLayAll0 (.int x :: dInts xs) = true
    rw [PyData.canLayAll0, PyData.canLay0, can_ints xs]; rfl
theorem can_pairs : ∀ {xs : List (Str × Str)}, (∀ x ∈ xs, PyData.strOk x.1 = true ∧ PyData.strOk x.2 = true) → PyData.canLayAll0 (dPairs xs) = true
  | [], _ => by simp [PyData.canLayAll0]
  | x :: xs, h => by
    show PyData.canLayAll0 (.tuple [.str x.1, .str x.2] :: dPairs xs) = true
    have := h x (List.mem_cons_self ..)
    simp only [PyData.canLayAll0, PyData.canLay0, this.1, this.2, can_pairs fun y hy => h y (List.mem_cons_of_mem _ hy), Bool.and_true]
theorem dep_strs : ∀ xs : List Str, PyData.depthAll (dStrs xs) = 0
  | [] => by simp [PyData.depthAll]
  | x :: xs => by
    show PyData.depthAll (.str x :: dStrs xs) = 0
    rw [PyData.depthAll, PyData.depth, dep_strs xs]; rfl
theorem dep_ints : ∀ xs : List Nat, PyData.depthAll (dInts xs) = 0
  | [] => by simp [PyData.depthAll]
  | x :: xs => by
    show PyData.depthAll (.int x :: dInts xs) = 0
    rw [PyData.depthAll, PyData.depth, dep_ints xs]; rfl
theorem dep_pairs : ∀ xs : List (Str × Str), PyData.depthAll (dPairs xs) ≤ 1
  | [] => by simp [PyData.depthAll]
  | x :: xs => by
    show PyData.depthAll (.tuple [.str x.1, .str x.2] :: dPairs xs) ≤ 1
    have := dep_pairs xs
    simp only [PyData.depthAll, PyData.depth]
    lia
theorem eqv_strs : ∀ xs ys : List Str, PyData.eqvAll (dStrs xs) (dStrs ys) = decide (xs = ys)
  | [], [] => by simp [PyData.eqvAll]
  | [], _ :: _ => by simp [PyData.eqvAll]
  | _ :: _, [] => by simp [PyData.eqvAll]
  | x :: xs, y :: ys => by
    show PyData.eqvAll (.str x :: dStrs xs) (.str y :: dStrs ys) = _
    rw [PyData.eqvAll, PyData.eqv, eqv_strs xs ys, Bool.eq_iff_iff]
    simp
theorem eqv_ints : ∀ xs ys : List Nat, PyData.eqvAll (dInts xs) (dInts ys) = decide (xs = ys)
  | [], [] => by simp [PyData.eqvAll]
  | [], _ :: _ => by simp [PyData.eqvAll]
  | _ :: _, [] => by simp [PyData.eqvAll]
  | x :: xs, y :: ys => by
    show PyData.eqvAll (.int x :: dInts xs) (.int y :: dInts ys) = _
    rw [PyData.eqvAll, PyData.eqv, eqv_ints xs ys, Bool.eq_iff_iff]
    simp only [Bool.and_eq_true, beq_iff_eq, decide_eq_true_eq, List.cons.injEq, Int.natCast_inj]
theorem eqv_pairs : ∀ xs ys : List (Str × Str), PyData.eqvAll (dPairs xs) (dPairs ys) = decide (xs = ys)
  | [], [] => by simp [PyData.eqvAll]
  | [], _ :: _ => by simp [PyData.eqvAll]
  | _ :: _, [] => by simp [PyData.eqvAll]
  | x :: xs, y :: ys => by
    show PyData.eqvAll (.tuple [.str x.1, .str x.2] :: dPairs xs) (.tuple [.str y.1, .str y.2] :: dPairs ys) = _
    rw [PyData.eqvAll, PyData.eqv, eqv_pairs xs ys, Bool.eq_iff_iff]
    obtain ⟨x1, x2⟩ := x
    obtain ⟨y1, y2⟩ := y
    simp [PyData.eqvAll, PyData.eqv]
theorem read_ints (h : Heap) : ∀ {us : List Value} {xs : List Nat}, IntsN us xs → ReadsAll h us (dInts xs) []
  | [], [], _ => .nil
  | [], _ :: _, H => by cases H.1
  | _ :: _, [], H => by cases H.1
  | u :: us, x :: xs, H => by
    obtain ⟨t, ht⟩ := H.2 0 x rfl
    cases ht
    exact .cons (.int _ t) (read_ints h (us := us) (xs := xs) ⟨by simpa using H.1, fun i n hi => H.2 (i + 1) n hi⟩)
theorem read_pairs {hp : Heap} (N : News h₀ L hp news) : ∀ {us : List Value} {xs : List (Str × Str)}, PairsIn news us xs → ∃ as, ReadsAll hp us (dPairs xs) as
  | [], [], _ => ⟨_, .nil⟩
  | [], _ :: _, H => by cases H.len
  | _ :: _, [], H => by cases H.len
  | u :: us, x :: xs, H => by
    obtain ⟨t, tk, tv, n, ht, hm⟩ := H.at_ 0 x.1 x.2 rfl
    cases ht
    obtain ⟨as, h⟩ := read_pairs N (us := us) (xs := xs) ⟨by simpa using H.len, fun i k v hi => H.at_ (i + 1) k v hi⟩
    exact ⟨_, .cons (.tuple (N _ hm).1 rfl rfl (.cons (.str _ _) (.cons (.str _ _) .nil))) h⟩
theorem eq_strs {D1 D2 : Addr} {us vs : List Value} {xs ys : List Str} {k j : Nat} {Q : Value → Shared → Prop} (N : News h₀ L s.heap news) (m1 : (D1, listOf us.toArray k) ∈ news) (m2 : (D2, listOf vs.toArray j) ∈ news) (h1 : StrsAre us xs) (h2 : StrsAre vs ys)
    (o1 : ∀ x ∈ xs, PyData.strOk x = true) (o2 : ∀ x ∈ ys, PyData.strOk x = true) (hu : A.units + 8 < cLine) (h : Q (.bool (decide (xs = ys))) s) : wpAny (model prog w) A (compareOp .Eq (.ref D1) (.ref D2)) Q E s := by
  refine SeqAt.compareEq_reads (.list (N _ m1).1 rfl rfl (strs_readAll _ h1)) (.list (N _ m2).1 rfl rfl (strs_readAll _ h2)) (by rw [PyData.canLay0]; exact can_strs o1) (by rw [PyData.canLay0]; exact can_strs o2) ?_ ?_
  · simp only [PyData.depth, dep_strs]; lia
  · rw [PyData.eqv, eqv_strs]; exact h
theorem eq_ints {D1 D2 : Addr} {us vs : List Value} {xs ys : List Nat} {k j : Nat} {Q : Value → Shared → Prop} (N : News h₀ L s.heap news) (m1 : (D1, listOf us.toArray k) ∈ news) (m2 : (D2, listOf vs.toArray j) ∈ news) (h1 : IntsN us xs) (h2 : IntsN vs ys)
    (hu : A.units + 8 < cLine) (h : Q (.bool (decide (xs = ys))) s) : wpAny (model prog w) A (compareOp .Eq (.ref D1) (.ref D2)) Q E s := by
  refine SeqAt.compareEq_reads (.list (N _ m1).1 rfl rfl (read_ints _ h1)) (.list (N _ m2).1 rfl rfl (read_ints _ h2)) (by rw [PyData.canLay0]; exact can_ints xs) (by rw [PyData.canLay0]; exact can_ints ys) ?_ ?_
  · simp only [PyData.depth, dep_ints]; lia
  · rw [PyData.eqv, eqv_ints]; exact h
theorem eq_pairs {D1 D2 : Addr} {us vs : List Value} {xs ys : List (Str × Str)} {k j : Nat} {Q : Value → Shared → Prop} (N : News h₀ L s.heap news) (m1 : (D1, listOf us.toArray k) ∈ news) (m2 : (D2, listOf vs.toArray j) ∈ news) (h1 : PairsIn news us xs) (h2 : PairsIn news vs ys)
    (o1 : ∀ x ∈ xs, PyData.strOk x.1 = true ∧ PyData.strOk x.2 = true) (o2 : ∀ x ∈ ys, PyData.strOk x.1 = true ∧ PyData.strOk x.2 = true) (hu : A.units + 8 < cLine) (h : Q (.bool (decide (xs = ys))) s) : wpAny (model prog w) A (compareOp .Eq (.ref D1) (.ref D2)) Q E s := by
  obtain ⟨as, r1⟩ := read_pairs N h1
  obtain ⟨bs, r2⟩ := read_pairs N h2
  refine SeqAt.compareEq_reads (.list (N _ m1).1 rfl rfl r1) (.list (N _ m2).1 rfl rfl r2) (by rw [PyData.canLay0]; exact can_pairs o1) (by rw [PyData.canLay0]; exact can_pairs o2) ?_ ?_
  · have d1 := dep_pairs xs
    simp only [PyData.depth]; lia
  · rw [PyData.eqv, eqv_pairs]; exact h

theorem flow_cut {M : Model} {hp : Heap} {tk0 : Tok} {S : Sem Flow} {Q : Flow → Shared → Prop} (T : Heap → Tok → Prop)
    (h1 : ∀ K : Flow → Shared → Prop, (∀ h' tk, T h' tk → K .next { s with heap := h', toks := tk }) → wpAny M A S K E { s with heap := hp, toks := tk0 })
    (h2 : ∀ h' tk, T h' tk → Q .next { s with heap := h', toks := tk }) : wpAny M A S Q E { s with heap := hp, toks := tk0 } := h1 Q h2
theorem str_cut {M : Model} {hp : Heap} {tk0 : Tok} {S : Sem Value} {Q : Value → Shared → Prop} (x : Str) (F : Fr h₀ L hp m) (N : News h₀ L hp news)
    (h1 : ∀ K : Value → Shared → Prop, (∀ u h' tk, Fr h₀ L h' m → News h₀ L h' news → K (.str x u) { s with heap := h', toks := tk }) → wpAny M A S K E { s with heap := hp, toks := tk0 })
    (h2 : ∀ u h' tk, Fr h₀ L h' m → News h₀ L h' news → Q (.str x u) { s with heap := h', toks := tk }) : wpAny M A S Q E { s with heap := hp, toks := tk0 } := h1 Q h2
theorem int_cut {M : Model} {hp : Heap} {tk0 : Tok} {S : Sem Value} {Q : Value → Shared → Prop} (x : Nat) (F : Fr h₀ L hp m) (N : News h₀ L hp news)
    (h1 : ∀ K : Value → Shared → Prop, (∀ u h' tk, Fr h₀ L h' m → News h₀ L h' news → K (.int (x : Int) u) { s with heap := h', toks := tk }) → wpAny M A S K E { s with heap := hp, toks := tk0 })
    (h2 : ∀ u h' tk, Fr h₀ L h' m → News h₀ L h' news → Q (.int (x : Int) u) { s with heap := h', toks := tk }) : wpAny M A S Q E { s with heap := hp, toks := tk0 } := h1 Q h2
end
end Mine
end
section
open PySem PySem.W PyProof.Rows PySem.Calls PySem.Spec
set_option Elab.async false
set_option maxRecDepth 100000
namespace Mine
theorem FactsIn.mono {r r' : Led} {vs : List Value} {fs : List Fact} (h : FactsIn r vs fs) (s : ∀ p ∈ r, p ∈ r') : FactsIn r' vs fs :=
  ⟨h.len, fun i f e => by obtain ⟨t, t1, t2, t3, n, a, b⟩ := h.at_ i f e; exact ⟨t, t1, t2, t3, n, a, s _ b⟩⟩
theorem strsAre_get {vs : List Value} {ys : List Str} (h : StrsAre vs ys) {i : Nat} {y : Str} (e : ys[i]? = some y) : ∃ t, vs[i]? = some (.str y t) := by
  induction h generalizing i with
  | nil => simp at e
  | cons z u r ih =>
    cases i with
    | zero => cases e; exact ⟨u, rfl⟩
    | succ i => exact ih (by simpa using e)
structure Tells5 (kvs : List (Str × Str)) (W : List Str) (N : Nat → Nat) : Prop where
  len : W.length = 5
  ok : ∀ (j : Nat) (x : Str), W[j]? = some x → okStr (Txt.lower x) ∧ (Txt.lower x).length < 2 ^ 20 ∧ x.length < 2 ^ 20
  keys : ∀ kv ∈ kvs, (Txt.lower kv.1).length < 2 ^ 20 ∧ kv.1.length < 2 ^ 20
  tell : ∀ (j : Nat) (x : Str), W[j]? = some x → ∃ n0 ns, hget kvs (Txt.lower x) = some ⟨(n0 :: ns).toArray⟩ ∧ contOk n0 ns ∧ ns.length ≤ 8 ∧ vGo (n0 % 64) ns = N j
  lt : ∀ j, j < 5 → N j < 2 ^ 40
noncomputable def toldOf (N : Nat → Nat) (j : Nat) : Str := Txt.join (Str.ofString ", ") (pGo 32 0 (N j : Int) [])
noncomputable def cased (up : Bool) (s : Str) : Str := if up = true then Txt.upper s else Txt.lower s
noncomputable def nmOf (N : Nat → Nat) (i j : Nat) : Str := toldOf N i ++ Str.ofString ": " ++ toldOf N j
noncomputable def lwOf (W : List Str) (z : Nat) : Str := Txt.lower (W.getD z Str.empty)
noncomputable def kvsAt (W : List Str) (N : Nat → Nat) (M : List Nat) (fs : List Fact) (t : Nat) : List (Str × Str) :=
  ((List.range t).filter fun s => firstOf M fs s == s).map fun s => (cased (s % 2 == 1) (nmOf N (at4 fs s).1 (at4 fs s).2.1), lwOf W (at4 fs s).2.2)
noncomputable def foundAt (W : List Str) (M : List Nat) (fs : List Fact) (t : Nat) : List Str := (List.range t).map fun s => lwOf W (at4 fs (firstOf M fs s)).2.2
noncomputable def firstsAt (M : List Nat) (fs : List Fact) (t : Nat) : List Nat := (List.range t).map (firstOf M fs)
noncomputable def pushL (W : List Str) (ps : List (Nat × Nat)) : List Str := ps.flatMap fun q => [lwOf W q.1, lwOf W q.2]
noncomputable def pushAt (W : List Str) (M : List Nat) (fs : List Fact) (t : Nat) : List Str := pushL W ((List.range t).flatMap (pushOne M fs))
theorem small4 : ∀ t : Fin 4, Builtin.Range.small 0 ((t : Nat) : Int) 1 = true ∧ Builtin.Range.rangeSize 0 ((t : Nat) : Int) 1 = ((t : Nat) : Int) := by decide +kernel
theorem nm_len1 {a : Str} (h : a.length ≤ 400) : (a ++ Str.ofString ": ").length ≤ 1000 := by
  have e : (a ++ Str.ofString ": ").length = a.length + (Str.ofString ": ").length := Array.size_append ..
  have e2 : (Str.ofString ": ").length = 2 := by decide
  lia
theorem IntsN.push {us : List Value} {xs : List Nat} {x : Nat} {t : Tok} (h : IntsN us xs) : IntsN (us ++ [.int (x : Int) t]) (xs ++ [x]) :=
  ⟨by rw [List.length_append, List.length_append, h.1]; rfl, fun i n e => by
    rcases Nat.lt_trichotomy i xs.length with hi | hi | hi
    · rw [List.getElem?_append_left hi] at e
      rw [List.getElem?_append_left (by rw [h.1]; exact hi)]
      exact h.2 i n e
    · subst hi
      rw [List.getElem?_append_right (Nat.le_refl _), Nat.sub_self] at e
      cases e
      rw [← h.1, List.getElem?_append_right (Nat.le_refl _), Nat.sub_self]
      exact ⟨_, rfl⟩
    · rw [List.getElem?_eq_none (by rw [List.length_append]; simp; lia)] at e; cases e⟩
theorem at4_get {fs : List Fact} {i : Nat} {f : Fact} (h : fs[i]? = some f) : at4 fs i = f := by
  unfold at4; rw [List.getD_eq_getElem?_getD, h]; rfl
theorem kvsAt_skip {W : List Str} {N : Nat → Nat} {M : List Nat} {fs : List Fact} {t : Nat} (h : firstOf M fs t ≠ t) : kvsAt W N M fs (t + 1) = kvsAt W N M fs t := by
  unfold kvsAt
  rw [List.range_succ, List.filter_append, List.filter_cons_of_neg (by simpa using h), List.filter_nil, List.append_nil]
theorem kvsAt_take {W : List Str} {N : Nat → Nat} {M : List Nat} {fs : List Fact} {t : Nat} (h : firstOf M fs t = t) : kvsAt W N M fs (t + 1) = kvsAt W N M fs t ++ [(cased (t % 2 == 1) (nmOf N (at4 fs t).1 (at4 fs t).2.1), lwOf W (at4 fs t).2.2)] := by
  unfold kvsAt
  rw [List.range_succ, List.filter_append, List.filter_cons_of_pos (by simpa using h), List.filter_nil, List.map_append]
  rfl
theorem first_ne {t a : Nat} {r : List Nat} {p : Nat → Bool} (h : (List.range t).filter p = a :: r) : (a :: r).head?.getD t ≠ t := by
  have hm : a ∈ (List.range t).filter p := by rw [h]; exact List.mem_cons_self ..
  have := List.mem_range.mp (List.mem_filter.mp hm).1
  show a ≠ t
  lia
theorem nm_len {N : Nat → Nat} {i j : Nat} (h1 : (toldOf N i).length ≤ 400) (h2 : (toldOf N j).length ≤ 400) : (nmOf N i j).length ≤ 802 := by
  have e : (nmOf N i j).length = (toldOf N i).length + (Str.ofString ": ").length + (toldOf N j).length := by
    unfold nmOf
    show ((_ ++ _ : Str)).cps.size = _
    exact (Array.size_append ..).trans (congrArg (· + _) (Array.size_append ..))
  have e2 : (Str.ofString ": ").length = 2 := by decide
  lia
theorem odd_of {t : Nat} (h : ((t : Nat) : Int).fmod 2 ≠ 0) : (t % 2 == 1) = true := by
  rcases Nat.mod_two_eq_zero_or_one t with e | e
  · rw [Int.fmod_eq_emod_of_nonneg _ (by decide)] at h
    exact absurd (congrArg Int.ofNat e) h
  · rw [e]; rfl
theorem even_of {t : Nat} (h : ((t : Nat) : Int).fmod 2 = 0) : (t % 2 == 1) = false := by
  rw [Int.fmod_eq_emod_of_nonneg _ (by decide)] at h
  rw [beq_eq_false_iff_ne]; lia
theorem kvsAt_len (W : List Str) (N : Nat → Nat) (M : List Nat) (fs : List Fact) (t : Nat) : (kvsAt W N M fs t).length ≤ t := by
  unfold kvsAt
  rw [List.length_map]
  exact Nat.le_trans (List.length_filter_le _ _) (by rw [List.length_range]; exact Nat.le_refl _)
theorem pushAt_succ (W : List Str) (M : List Nat) (fs : List Fact) (t : Nat) : pushAt W M fs (t + 1) = pushAt W M fs t ++ pushL W (pushOne M fs t) := by
  unfold pushAt pushL
  rw [List.range_succ, List.flatMap_append, List.flatMap_append]
  simp
theorem pushAt_len (W : List Str) (M : List Nat) (fs : List Fact) : ∀ t, (pushAt W M fs t).length ≤ 2 * t
  | 0 => Nat.le_refl _
  | t + 1 => by
    rw [pushAt_succ, List.length_append]
    have := pushAt_len W M fs t
    have h2 : (pushL W (pushOne M fs t)).length ≤ 2 := by
      unfold pushOne
      split
      · exact Nat.zero_le _
      · exact Nat.le_refl _
    lia
theorem PairsIn.snoc {r r' : Led} {vs : List Value} {kvs : List (Str × Str)} {d : Addr} {k v : Str} {tk tv : Tok} {n : Nat} (h : PairsIn r vs kvs) (hm : (d, tupO k tk v tv n) ∈ r') (hs : ∀ p ∈ r, p ∈ r') : PairsIn r' (vs ++ [Value.ref d]) (kvs ++ [(k, v)]) :=
  ⟨by rw [List.length_append, List.length_append, h.len]; rfl, fun i a b e => by
    rcases Nat.lt_trichotomy i kvs.length with hi | hi | hi
    · rw [List.getElem?_append_left hi] at e
      obtain ⟨t, t1, t2, n, h1, h2⟩ := h.at_ i a b e
      exact ⟨t, t1, t2, n, by rw [List.getElem?_append_left (by rw [h.len]; exact hi)]; exact h1, hs _ h2⟩
    · subst hi
      rw [List.getElem?_append_right (Nat.le_refl _), Nat.sub_self] at e
      cases e
      exact ⟨d, tk, tv, n, by rw [← h.len, List.getElem?_append_right (Nat.le_refl _), Nat.sub_self]; rfl, hm⟩
    · rw [List.getElem?_eq_none (by rw [List.length_append]; simp; lia)] at e; cases e⟩
structure RoundOk (W : List Str) (Nn : Nat → Nat) (M : List Nat) : Prop where
  eqv : ∀ i j, i < 5 → j < 5 → (toldOf Nn i = toldOf Nn j ↔ mkk M i = mkk M j)
  inj : ∀ i j i' j', i < 5 → j < 5 → i' < 5 → j' < 5 → Txt.lower (nmOf Nn i j) = Txt.lower (nmOf Nn i' j') → toldOf Nn i = toldOf Nn i' ∧ toldOf Nn j = toldOf Nn j'
  low : ∀ up i j, i < 5 → j < 5 → Txt.lower (cased up (nmOf Nn i j)) = Txt.lower (nmOf Nn i j)
  ok : ∀ up i j, i < 5 → j < 5 → okStr (cased up (nmOf Nn i j)) ∧ (cased up (nmOf Nn i j)).length < 2 ^ 20
  okl : ∀ i j, i < 5 → j < 5 → okStr (Txt.lower (nmOf Nn i j)) ∧ (Txt.lower (nmOf Nn i j)).length < 2 ^ 20
  tlen : ∀ i, i < 5 → (toldOf Nn i).length ≤ 400
  sok : ∀ i, i < 5 → PyData.strOk (toldOf Nn i) = true
  wsok : ∀ z, z < 5 → PyData.strOk (lwOf W z) = true
  nsok : ∀ up i j, i < 5 → j < 5 → PyData.strOk (cased up (nmOf Nn i j)) = true
  wok : ∀ z, z < 5 → okStr (lwOf W z) ∧ (lwOf W z).length < 2 ^ 20 ∧ (W.getD z Str.empty).length < 2 ^ 20

theorem find_and {p q : Nat → Bool} {n : Nat} (h : ∀ i, (List.range n).find? q = some i → p i = true) : (List.range n).find? (fun i => p i && q i) = (List.range n).find? q := by
  cases e : (List.range n).find? q with
  | none =>
    rw [List.find?_eq_none] at e ⊢
    intro x hx
    have := e x hx
    simp only [Bool.and_eq_true, not_and]
    exact fun _ => this
  | some i =>
    have hp := h i e
    rw [List.find?_range_eq_some] at e ⊢
    refine ⟨by rw [hp, e.1]; rfl, e.2.1, fun j hj => ?_⟩
    have := e.2.2 j hj
    rw [Bool.not_and, this, Bool.or_true]
theorem like_trans {M : List Nat} {f g k : Fact} (h1 : like M f g = true) (h2 : like M g k = true) : like M f k = true := by
  rw [like_iff] at *
  exact ⟨h1.1.trans h2.1, h1.2.trans h2.2⟩
theorem first_first {M : List Nat} {fs : List Fact} {t i : Nat} (h : (List.range t).find? (fun s => like M (at4 fs s) (at4 fs t)) = some i) : firstOf M fs i = i := by
  rw [List.find?_range_eq_some] at h
  unfold firstOf
  rw [List.find?_eq_none.mpr fun j hj => ?_]
  · rfl
  · intro hl
    have := h.2.2 j (List.mem_range.mp hj)
    rw [like_trans hl h.1] at this
    cases this
theorem at4_small {fs : List Fact} (hs : Small fs) (i : Nat) : (at4 fs i).1 < 5 ∧ (at4 fs i).2.1 < 5 ∧ (at4 fs i).2.2 < 5 := by
  unfold at4
  rw [List.getD_eq_getElem?_getD]
  cases e : fs[i]? with
  | none => decide
  | some f => exact hs f (List.mem_of_getElem? e)
theorem hget_kvs {W : List Str} {N : Nat → Nat} {M : List Nat} {fs : List Fact} (RO : RoundOk W N M) (hs : Small fs) (t : Nat) :
    hget (kvsAt W N M fs t) (Txt.lower (nmOf N (at4 fs t).1 (at4 fs t).2.1)) = ((List.range t).find? fun s => like M (at4 fs s) (at4 fs t)).map fun s => lwOf W (at4 fs s).2.2 := by
  unfold hget kvsAt
  rw [List.find?_map, List.find?_filter, Option.map_map]
  simp only [Bool.decide_and, Bool.decide_eq_true, Function.comp_def]
  have e2 : (fun s => (firstOf M fs s == s) && (Txt.lower (cased (s % 2 == 1) (nmOf N (at4 fs s).1 (at4 fs s).2.1)) == Txt.lower (nmOf N (at4 fs t).1 (at4 fs t).2.1))) = fun s => (firstOf M fs s == s) && like M (at4 fs s) (at4 fs t) := by
    funext s
    have a := at4_small hs s
    have b := at4_small hs t
    congr 1
    rw [RO.low _ _ _ a.1 a.2.1, Bool.eq_iff_iff, beq_iff_eq, like_iff]
    constructor
    · intro h
      have := RO.inj _ _ _ _ a.1 a.2.1 b.1 b.2.1 h
      exact ⟨(RO.eqv _ _ a.1 b.1).mp this.1, (RO.eqv _ _ a.2.1 b.2.1).mp this.2⟩
    · intro h
      have h1 := (RO.eqv _ _ a.1 b.1).mpr h.1
      have h2 := (RO.eqv _ _ a.2.1 b.2.1).mpr h.2
      unfold nmOf
      rw [h1, h2]
  rw [e2, find_and fun i hi => by rw [beq_iff_eq]; exact first_first hi]
theorem kvs_keys {W : List Str} {N : Nat → Nat} {M : List Nat} {fs : List Fact} (RO : RoundOk W N M) (hs : Small fs) (t : Nat) : ∀ kv ∈ kvsAt W N M fs t, (Txt.lower kv.1).length < 2 ^ 20 ∧ kv.1.length < 2 ^ 20 := by
  intro kv hkv
  obtain ⟨s, _, rfl⟩ := List.mem_map.mp hkv
  have a := at4_small hs s
  exact ⟨by rw [RO.low _ _ _ a.1 a.2.1]; exact (RO.okl _ _ a.1 a.2.1).2, (RO.ok _ _ _ a.1 a.2.1).2⟩
theorem first_le (M : List Nat) (fs : List Fact) (t : Nat) : firstOf M fs t ≤ t := by
  unfold firstOf
  cases e : (List.range t).find? fun s => like M (at4 fs s) (at4 fs t) with
  | none => exact Nat.le_refl _
  | some i => exact Nat.le_of_lt (List.mem_range.mp (List.mem_of_find?_eq_some e))
theorem get_last {α : Type} {l : List α} {x : α} {t : Nat} (h : l.length = t) : (l ++ [x])[t]? = some x := by
  subst h
  rw [List.getElem?_append_right (Nat.le_refl _), Nat.sub_self]
  rfl
theorem strsAre_app {us vs : List Value} {xs ys : List Str} (h1 : StrsAre us xs) (h2 : StrsAre vs ys) : StrsAre (us ++ vs) (xs ++ ys) := by
  induction h1 with
  | nil => exact h2
  | cons y t r ih => exact .cons y t ih
theorem foundAt_succ (W : List Str) (M : List Nat) (fs : List Fact) (t : Nat) : foundAt W M fs (t + 1) = foundAt W M fs t ++ [lwOf W (at4 fs (firstOf M fs t)).2.2] := by
  unfold foundAt; rw [List.range_succ, List.map_append]; rfl
theorem firstsAt_succ (M : List Nat) (fs : List Fact) (t : Nat) : firstsAt M fs (t + 1) = firstsAt M fs t ++ [firstOf M fs t] := by
  unfold firstsAt; rw [List.range_succ, List.map_append]; rfl
theorem round_un {h₀ h : Heap} {L : Addr} {x1 x2 x3 x4 x5 x6 x7 y1 y2 y3 y4 y5 y6 y7 pb : Addr × Obj} {tl rest : Led} (N : News h₀ L h (x1 :: x2 :: x3 :: x4 :: x5 :: x6 :: x7 :: (tl ++ (y1 :: y2 :: y3 :: y4 :: y5 :: y6 :: y7 :: pb :: rest)))) :
    News h₀ L h (pb :: (x1 :: x2 :: x3 :: x4 :: x5 :: y1 :: y2 :: y5 :: y6 :: (tl ++ rest))) := news_sub N fun p hp => by
  exact Mine.sub_at hp (by wtm_at "per")
theorem PairsIn.only {r r' : Led} {vs : List Value} {kvs : List (Str × Str)} (h : PairsIn r vs kvs) (s : ∀ (t : Addr) (k : Str) (tk : Tok) (v : Str) (tv : Tok) (n : Nat), (t, tupO k tk v tv n) ∈ r → (t, tupO k tk v tv n) ∈ r') : PairsIn r' vs kvs :=
  ⟨h.len, fun i k v e => by obtain ⟨t, tk, tv, n, a, b⟩ := h.at_ i k v e; exact ⟨t, tk, tv, n, a, s _ _ _ _ _ _ b⟩⟩
theorem tup_not_list {k v : Str} {tk tv : Tok} {n m : Nat} {xs : Array Value} (h : tupO k tk v tv n = listOf xs m) : False := by
  have h3 : Value.type "tuple" = Value.type "list" := congrArg Obj.cls h
  injection h3 with h4
  exact absurd h4 (by decide)
theorem tup_not_cell {k v : Str} {tk tv : Tok} {n : Nat} {o : Obj} {x : Option Value} (d : o.data = .cell x) (h : tupO k tk v tv n = o) : False := by
  have h3 : (tupO k tk v tv n).data = o.data := congrArg Obj.data h
  rw [d] at h3
  cases h3
theorem tup_not_inst {k v : Str} {tk tv : Tok} {n : Nat} {c d : Addr} (h : tupO k tk v tv n = instObj c d) : False := by
  have h3 : (tupO k tk v tv n).cls = (instObj c d).cls := congrArg Obj.cls h
  cases h3
theorem tup_not_dict {k v : Str} {tk tv : Tok} {n m : Nat} {es : List DictEntry} (h : tupO k tk v tv n = dictOf es m) : False := by
  have h3 : (tupO k tk v tv n).data = (dictOf es m).data := congrArg Obj.data h
  cases h3
theorem kvs_sok {W : List Str} {N : Nat → Nat} {M : List Nat} {fs : List Fact} (RO : RoundOk W N M) (hs : Small fs) (t : Nat) : ∀ kv ∈ kvsAt W N M fs t, PyData.strOk kv.1 = true ∧ PyData.strOk kv.2 = true := by
  intro kv hkv
  obtain ⟨s, _, rfl⟩ := List.mem_map.mp hkv
  have a := at4_small hs s
  exact ⟨RO.nsok _ _ _ a.1 a.2.1, RO.wsok _ a.2.2⟩
theorem found_sok {W : List Str} {N : Nat → Nat} {M : List Nat} {fs : List Fact} (RO : RoundOk W N M) (hs : Small fs) (t : Nat) : ∀ x ∈ foundAt W M fs t, PyData.strOk x = true := by
  intro x hx
  obtain ⟨s, _, rfl⟩ := List.mem_map.mp hx
  exact RO.wsok _ (at4_small hs _).2.2
theorem setd_uni {l : Addr} {vs : List Value} {k : Nat} {R Rs : Led} {kvs : List (Str × Str)} {x y lx : Str} {t1 t2 : Tok} {v : Value} {n' : Led} (P : PairsIn Rs vs kvs)
    (h : (∃ val tv, hget kvs lx = some val ∧ v = .str val tv ∧ n' = (l, listOf vs.toArray k) :: R) ∨
      (hget kvs lx = none ∧ v = .str y t2 ∧ ∃ tt, (∀ p ∈ (l, listOf vs.toArray k) :: R, p.1 < tt) ∧ n' = (l, listOf (vs ++ [Value.ref tt]).toArray (k + 1)) :: (tt, tupO x t1 y t2 0) :: R)) :
    ∃ tv vs' k' add, v = .str ((hget kvs lx).getD y) tv ∧ n' = (l, listOf vs'.toArray k') :: (add ++ R) ∧ PairsIn (add ++ Rs) vs' (if (hget kvs lx).isNone = true then kvs ++ [(x, y)] else kvs) ∧ ∀ p ∈ add, ∀ q ∈ (l, listOf vs.toArray k) :: R, @LT.lt Nat _ q.1 p.1 := by
  rcases h with ⟨val, tv, h, rfl, rfl⟩ | ⟨h, rfl, tt, hlt, rfl⟩
  · refine ⟨tv, vs, k, [], ?_, rfl, ?_, fun p hp => nomatch hp⟩
    · rw [h]; rfl
    · rw [h]; exact P
  · refine ⟨t2, _, k + 1, [(tt, tupO x t1 y t2 0)], ?_, rfl, ?_, fun p hp q hq => by rw [List.mem_singleton.mp hp]; exact hlt q hq⟩
    · rw [h]; rfl
    · rw [h]; exact P.snoc (.head _) (fun p hp => .tail _ hp)
theorem news_mid {h₀ h : Heap} {L : Addr} {a : Addr × Obj} {xs add R : Led} (N : News h₀ L h (a :: (add ++ (xs ++ R)))) : News h₀ L h (a :: (xs ++ (add ++ R))) := news_sub N fun p hp => by
  simp only [List.mem_cons, List.mem_append] at hp ⊢
  rcases hp with h | h | h | h <;> simp only [h, true_or, or_true]
theorem kvs_step {W : List Str} {N : Nat → Nat} {M : List Nat} {fs : List Fact} (RO : RoundOk W N M) (hs : Small fs) (t : Nat) :
    (if (hget (kvsAt W N M fs t) (Txt.lower (nmOf N (at4 fs t).1 (at4 fs t).2.1))).isNone = true then kvsAt W N M fs t ++ [(cased (t % 2 == 1) (nmOf N (at4 fs t).1 (at4 fs t).2.1), lwOf W (at4 fs t).2.2)] else kvsAt W N M fs t) = kvsAt W N M fs (t + 1) := by
  rw [hget_kvs RO hs]
  cases e : (List.range t).find? fun s => like M (at4 fs s) (at4 fs t) with
  | none => exact (kvsAt_take (by unfold firstOf; rw [e]; rfl)).symm
  | some s =>
    have hm := List.mem_range.mp (List.mem_of_find?_eq_some e)
    exact (kvsAt_skip (by unfold firstOf; rw [e]; show s ≠ t; lia)).symm
theorem found_step {W : List Str} {N : Nat → Nat} {M : List Nat} {fs : List Fact} (RO : RoundOk W N M) (hs : Small fs) (t : Nat) :
    (hget (kvsAt W N M fs t) (Txt.lower (nmOf N (at4 fs t).1 (at4 fs t).2.1))).getD (lwOf W (at4 fs t).2.2) = lwOf W (at4 fs (firstOf M fs t)).2.2 := by
  rw [hget_kvs RO hs]
  unfold firstOf
  cases (List.range t).find? fun s => like M (at4 fs s) (at4 fs t) with
  | none => rfl
  | some s => rfl
end Mine
end
section
open PySem PySem.W PyProof.Rows PySem.Calls PySem.Spec
set_option Elab.async false
set_option maxRecDepth 100000
set_option maxHeartbeats 0
namespace Mine
section
variable {w : World} {p : Program} {loose : List Str} {mean : ExcName → Option Value} {mg mb : Str → Option Value} {news : Led}
theorem b_one {t n : Nat} (h : n ≤ t) (ht : t < 4) : n < 900 := Nat.lt_of_le_of_lt h (Nat.lt_trans ht (by decide))
theorem b_two {t n : Nat} (h : n ≤ 2 * t) (ht : t < 4) : n < 900 := by lia
theorem b_take {p n t : Nat} (hp : p < 900) (hn : n < 100) : p + min t n < 1000 := by lia
inductive RoundJ (W : List Str) (Nn : Nat → Nat) (M : List Nat) (fs : List Fact) (R1 : Led) (kx kl la fo fi pu lx c5 c6 : Addr) (t : Nat) (mm : Str → Option Value) (nn : Led) : Prop
  | mk (kvv lav fov fiv puv : List Value) (kk lak fok fik puk : Nat) (tl : Led) (ox oy : Obj) :
    nn = (kl, listOf kvv.toArray kk) :: (la, listOf lav.toArray lak) :: (fo, listOf fov.toArray fok) :: (fi, listOf fiv.toArray fik) :: (pu, listOf puv.toArray puk) :: (c6, oy) :: (c5, ox) :: (tl ++ R1) →
    PairsIn (tl ++ R1) kvv (kvsAt W Nn M fs t) → PairsIn (tl ++ R1) lav (kvsAt W Nn M fs t) → StrsAre fov (foundAt W M fs t) → IntsN fiv (firstsAt M fs t) → StrsAre puv (pushAt W M fs t) → IsCell ox → IsCell oy → (∀ p ∈ tl, @LT.lt Nat _ pu p.1) →
    mm (Str.ofString "known") = some (.ref kx) → mm (Str.ofString "laid") = some (.ref la) → mm (Str.ofString "found") = some (.ref fo) → mm (Str.ofString "firsts") = some (.ref fi) → mm (Str.ofString "pushed") = some (.ref pu) → mm (Str.ofString "line") = some (.ref lx) →
    RoundJ W Nn M fs R1 kx kl la fo fi pu lx c5 c6 t mm nn
inductive RoundC (g' : Heap) (L' : Addr) (W : List Str) (Nn : Nat → Nat) (M : List Nat) (fs : List Fact) (R2 : Led) (H Z : Led) (kx la fo fi pu lx lk lo c5 c6 : Addr) (t : Nat) (f : Fact) (t3 : Tok) (h' : Heap) : Prop
  | mk (lav' : List Value) (lak' : Nat) (tl' : Led) (ox' oy' : Obj) (mm' : Str → Option Value) (ua ub : Tok) : Fr g' L' h' mm' → News g' L' h' (H ++ (la, listOf lav'.toArray lak') :: (Z ++ (c6, oy') :: (c5, ox') :: (tl' ++ R2))) → IsCell ox' → IsCell oy' →
    PairsIn (tl' ++ R2) lav' (kvsAt W Nn M fs (t + 1)) → (∀ p ∈ tl', @LT.lt Nat _ lo p.1) → mm' (Str.ofString "known") = some (.ref kx) → mm' (Str.ofString "laid") = some (.ref la) → mm' (Str.ofString "found") = some (.ref fo) → mm' (Str.ofString "firsts") = some (.ref fi) → mm' (Str.ofString "pushed") = some (.ref pu) → mm' (Str.ofString "line") = some (.ref lx) →
    mm' (Str.ofString "t") = some (.int (t : Int) ua) → mm' (Str.ofString "z") = some (.int (f.2.2 : Int) t3) → mm' (Str.ofString "both") = some (.str (nmOf Nn f.1 f.2.1) ub) → mm' (Str.ofString "like") = some (.ref lk) →
    RoundC g' L' W Nn M fs R2 H Z kx la fo fi pu lx lk lo c5 c6 t f t3 h'
inductive RoundP (W : List Str) (M : List Nat) (fs : List Fact) (pb : Addr) (ps : List Value) (led R0 : Led) (r : Value) (n' : Led) : Prop
  | mk (T pu : Addr) (puv : List Value) (puk kp' n : Nat) : r = .ref T → StrsAre puv (pushAt W M fs 4) → (∀ p ∈ led, @LT.lt Nat _ p.1 pu) → @LT.lt Nat _ pu T → n' = (T, ({ cls := .type "tuple", data := .seq #[.bool true, .ref pu] n } : Obj)) :: (pu, listOf puv.toArray puk) :: (pb, listOf (ps ++ puv).toArray kp') :: R0 → RoundP W M fs pb ps led R0 r n'
theorem c_round {b l : Addr} {vs : List Value} {k : Nat} {kvs : List (Str × Str)} {wl fl : Addr} {ws fvs : List Value} {kw kf : Nat} {W : List Str} {Nn : Nat → Nat} {fs : List Fact} {X : LexP} {ln : Int} {tl : Tok} {ps : List Value} {kp : Nat} {R0 : Led}
    (B : IsBook R0 b l) (ml : (l, listOf vs.toArray k) ∈ R0) (P : PairsIn R0 vs kvs) (mw : (wl, listOf ws.toArray kw) ∈ R0) (mf : (fl, listOf fvs.toArray kf) ∈ R0) (FI : FactsIn R0 fvs fs) (h4 : fs.length = 4) (hsm : Small fs) (HW : StrsAre ws W) (HT : Tells5 kvs W Nn) {M : List Nat} (RO : RoundOk W Nn M)
    (mlx : (X.lx, instObj 228 X.dlx) ∈ R0) (mdl : (X.dlx, X.outer ln tl) ∈ R0) (hoff : ∀ p ∈ R0, p.1 ≠ X.pb) (hps : ps.length < 900) :
    Mine.Claim w p loose mean mg mb 317 [.ref b, .ref wl, .ref fl, .ref X.lx] [] ((X.pb, listOf ps.toArray kp) :: R0) 14 200 (RoundP W M fs X.pb ps ((X.pb, listOf ps.toArray kp) :: R0) R0) := by
  wtm_at "mIN"
  rename_i o6 o5 o4 o3 o2 o1 d6 d5 d4 d3 d2 d1
  have lpb : @LT.lt Nat _ X.pb L' := l1.1
  have lR : ∀ p ∈ R0, @LT.lt Nat _ p.1 L' := fun p hp => lt_of_all l1.2 p hp
  have lr4 : ∀ p ∈ R0, p.1 ≠ L' + 1 + 1 + 1 + 1 := fun p hp => Nat.ne_of_lt (Nat.lt_of_lt_of_le (lR p hp) (Nat.le_add_right _ 4))
  have hsz : fvs.toArray.size = 4 := by rw [List.size_toArray, FI.len, h4]
  have d1 : o1.data = .cell (some (.ref b)) := d1
  have d2 : o2.data = .cell (some (.ref wl)) := d2
  have d3 : o3.data = .cell (some (.ref fl)) := d3
  (first | (with_reducible show wpAny _ _ _ _ _ _; generalize hGoal72 : wpAny _ _ _ _ _ _ = Goal72) | (dsimp only; with_reducible show wpAny _ _ _ _ _ _; generalize hGoal72 : wpAny _ _ _ _ _ _ = Goal72) | (generalize hGoal72 : True = Goal72))
  obtain ⟨g4, d4⟩ : IsCell o4 := ⟨_, d4⟩
  obtain ⟨g5, d5⟩ : IsCell o5 := ⟨_, d5⟩
  obtain ⟨g6, d6⟩ : IsCell o6 := ⟨_, d6⟩
  subst hGoal72
  wtm_at "mQ"
  refine wpAny_Assign_Name ?_ ?_
  rotate_left
  with_unfolding_all rfl
  refine comp_open (cl := _) (by rfl) ?_
  wtm_at "mQ"
  rename News _ _ _ _ => N9
  rename Fr _ _ _ _ => F9
  try dsimp only
  refine comp_K0 (src_list N9 (mem_deep 7 mw) rfl rfl) F9 N9 ?hn (fun i ys => StrsAre ys ((List.range i).map (toldOf Nn))) .nil ?turn ?done
  case hn => rw [strsAre_len HW, HT.len]; decide
  case turn =>
    intro E2 Ky Kn C R oC mc i v ys h9 tk9 hi hv hyl hRR hoffC nC F10 N10 hy hx hys
    have e1 := hRR _ (mem_deep 5 (.head _))
    have sR : ∀ (o : Obj), ∀ p ∈ R0, p ∈ ((C, o) :: R : Led) := fun o p hp => .tail _ (hRR p (mem_deep 7 hp))
    clear F9 N9 hx hRR
    have hi5 : i < 5 := by rw [strsAre_len HW, HT.len] at hi; exact hi
    (first | (with_reducible show wpAny _ _ _ _ _ _; generalize hGoal73 : wpAny _ _ _ _ _ _ = Goal73) | (dsimp only; with_reducible show wpAny _ _ _ _ _ _; generalize hGoal73 : wpAny _ _ _ _ _ _ = Goal73) | (generalize hGoal73 : True = Goal73))
    obtain ⟨x, hx⟩ : ∃ x, W[i]? = some x := ⟨_, List.getElem?_eq_getElem (by rw [HT.len]; exact hi5)⟩
    obtain ⟨tx, hx2⟩ := strsAre_get HW hx
    obtain rfl : Value.str x tx = v := Option.some.inj (hx2.symm.trans hv)
    obtain ⟨ok1, ok2, ok3⟩ := HT.ok i x hx
    obtain ⟨n0, ns, hg, hc1, hc2, hvg⟩ := HT.tell i x hx
    subst hGoal73
    refine own_name (o := oC) F10 N10 nC hoffC ?_
    intro oC2 h14 tk14 nC2 F14 N14
    try clear F10; try clear N10
    refine ifs_nil ?_
    try dsimp only
    wtm_at "mQ"
    (k_here; k_dflt (refine' Mine.c_flags (B.mono (sR oC2)) (sR oC2 _ ml) (P.mono (sR oC2)) ok1 ok2 ok3 HT.keys hg hc1 hc2 _ _ _ _ _ _ _ _ _ _ _ _ _ _ _ _ _ ?k1z88 ?k2z88 ?k3z88 ?k4z88 ?k5z88 ?kKz88 ?kdz88 ?kuz88 ?kRz88; (case k1z88 => k_asm); (case k2z88 => k_asm); (case k3z88 => k_asm); (case k4z88 => k_asm); (case k5z88 => k_asm); (case kKz88 => first | exact rfl | assumption); (case kdz88 => wtm_at "mRM"); (case kuz88 => wtm_at "mRU")))
    refine Mine.out1 ?_
    intro tv h9 tk9 F9 N9
    try clear N14
    rw [hvg]
    try dsimp only
    try k_fold
    have hN0 : 0 ≤ ((Nn i : Nat) : Int) := Int.natCast_nonneg _
    have hN1 : ((Nn i : Nat) : Int) < 2 ^ 40 := by have := HT.lt i hi5; exact_mod_cast this
    wtm_at "mQ"
    (k_here; k_dflt (refine' Mine.c_pretty hN0 hN1 _ _ _ _ _ _ _ _ _ _ _ _ _ _ _ _ _ ?k1z89 ?k2z89 ?k3z89 ?k4z89 ?k5z89 ?kKz89 ?kdz89 ?kuz89 ?kRz89; (case k1z89 => k_asm); (case k2z89 => k_asm); (case k3z89 => k_asm); (case k4z89 => k_asm); (case k5z89 => k_asm); (case kKz89 => first | exact rfl | assumption); (case kdz89 => wtm_at "mRM"); (case kuz89 => wtm_at "mRU")))
    refine Mine.out1 ?_
    intro tv h9 tk9 F9 N9
    try dsimp only
    try k_fold
    wtm_at "mQ"
    rename Fr _ _ _ _ => F20
    rename News _ _ _ _ => N20
    refine hy _ oC2 _ _ _ ?_ nC2 F20 N20
    rw [List.range_succ, List.map_append]
    exact strsAre_snoc hys
  case done =>
    intro D ys yk h9 tk9 hys hyl hlt F10 N10
    try clear F9; try clear N9
    rw [strsAre_len HW, HT.len] at hys
    try dsimp only
    have lD : @LT.lt Nat _ (L' + 1 + 1 + 1 + 1 + 1 + 1) D := hlt (L' + 1 + 1 + 1 + 1 + 1 + 1, o6) (.head _)
    wtm_at "mQ"
    (k_here; k_dflt (refine' Mine.c_new0 _ _ _ _ _ _ _ _ _ _ _ _ _ _ _ _ _ ?k1z90 ?k2z90 ?k3z90 ?k4z90 ?k5z90 ?kKz90 ?kdz90 ?kuz90 ?kRz90; (case k1z90 => k_asm); (case k2z90 => k_asm); (case k3z90 => k_asm); (case k4z90 => k_asm); (case k5z90 => k_asm); (case kKz90 => first | exact rfl | assumption); (case kdz90 => wtm_at "mRM"); (case kuz90 => wtm_at "mRU")))
    intro v9 n9 h9 tk9 hp9 F9 N9
    (first | (with_reducible show wpAny _ _ _ _ _ _; generalize hGoal74 : wpAny _ _ _ _ _ _ = Goal74) | (dsimp only; with_reducible show wpAny _ _ _ _ _ _; generalize hGoal74 : wpAny _ _ _ _ _ _ = Goal74) | (generalize hGoal74 : True = Goal74))
    obtain ⟨kx, kd, kl, hs9, t9, rfl, lk1, lk2, lk3, rfl⟩ := hp9
    subst hGoal74
    try dsimp only
    try k_fold
    wtm_at "mQ"
    rename_i hT oT dT _ _ _ _ la h1 q1 _ fo h2 q2 _ fi h3 q3 pu h4' q4 tu h5 F5 N5 q5
    refine assign_tup (items := #[.ref kx, .ref la, .ref fo, .ref fi, .ref pu]) F5 N5 ⟨_, (N5 _ (List.mem_cons_self ..)).1, rfl, _, rfl⟩ rfl rfl (fun h6 F6 N6 => ?_)
    clear N5 F5 q5
    wtm_at "mQ"
    refine wpAny_For ?_
    wtm_at "mQ"
    rename IsRange _ _ _ _ _ _ _ _ => hRg
    rename News _ _ _ _ => N4
    rename Fr _ _ _ _ => F4
    have y1 : @LT.lt Nat _ kl la := q1.1
    have y2 : @LT.lt Nat _ la fo := q2.1
    have y3 : @LT.lt Nat _ fo fi := q3.1
    have y4 : @LT.lt Nat _ fi pu := q4.1
    have y5 : @LT.lt Nat _ D kd := lk3 _ (.head _)
    clear q1 q2 q3 q4 lk3 hlt
    have zkd := Nat.lt_trans lD y5
    have zkx := Nat.lt_trans zkd lk2
    have zkl := Nat.lt_trans zkx lk1
    have zpu := Nat.lt_trans (Nat.lt_trans (Nat.lt_trans (Nat.lt_trans zkl y1) y2) y3) y4
    have wpb : @LT.lt Nat _ X.pb (L' + 1 + 1 + 1 + 1 + 1 + 1) := Nat.lt_of_lt_of_le lpb (Nat.le_add_right _ 6)
    have N4 := news_sub (l2 := (kl, listOf #[] 0) :: (la, listOf #[] 0) :: (fo, listOf #[] 0) :: (fi, listOf #[] 0) :: (pu, listOf #[] 0) :: (L' + 1 + 1 + 1 + 1 + 1 + 1, o6) :: (L' + 1 + 1 + 1 + 1 + 1, o5) :: ((kx, instObj 171 kd) :: (kd, dictOf [⟨hs9, .str (Str.ofString "_headers") t9, .ref kl⟩] 1) :: (D, listOf ys.toArray yk) :: (L' + 1 + 1 + 1 + 1, oT) :: (L' + 1 + 1 + 1, o3) :: (L' + 1 + 1, o2) :: (L' + 1, o1) :: (X.pb, listOf ps.toArray kp) :: R0)) N4 (by wtm_at "per")
    (first | (with_reducible show wpAny _ _ _ _ _ _; generalize hGoal75 : wpAny _ _ _ _ _ _ = Goal75) | (dsimp only; with_reducible show wpAny _ _ _ _ _ _; generalize hGoal75 : wpAny _ _ _ _ _ _ = Goal75) | (generalize hGoal75 : True = Goal75))
    obtain ⟨R1, hR1⟩ : ∃ R1 : Led, R1 = ((kx, instObj 171 kd) :: (kd, dictOf [⟨hs9, .str (Str.ofString "_headers") t9, .ref kl⟩] 1) :: (D, listOf ys.toArray yk) :: (L' + 1 + 1 + 1 + 1, oT) :: (L' + 1 + 1 + 1, o3) :: (L' + 1 + 1, o2) :: (L' + 1, o1) :: (X.pb, listOf ps.toArray kp) :: R0) := ⟨_, rfl⟩
    rw [← hR1] at N4
    have mkx : (kx, instObj 171 kd) ∈ R1 := by rw [hR1]; exact .head _
    have mkd : (kd, dictOf [⟨hs9, .str (Str.ofString "_headers") t9, .ref kl⟩] 1) ∈ R1 := by rw [hR1]; exact mem_deep 1 (.head _)
    have mD : (D, listOf ys.toArray yk) ∈ R1 := by rw [hR1]; exact mem_deep 2 (.head _)
    have mc4 : (L' + 1 + 1 + 1 + 1, oT) ∈ R1 := by rw [hR1]; exact mem_deep 3 (.head _)
    have mc3 : (L' + 1 + 1 + 1, o3) ∈ R1 := by rw [hR1]; exact mem_deep 4 (.head _)
    have mc2 : (L' + 1 + 1, o2) ∈ R1 := by rw [hR1]; exact mem_deep 5 (.head _)
    have m0 : ∀ p ∈ R0, p ∈ R1 := fun p hp => by rw [hR1]; exact mem_deep 8 hp
    have hRt : ∀ (t : Addr) (k : Str) (tk : Tok) (v : Str) (tv : Tok) (n : Nat), (t, tupO k tk v tv n) ∈ R1 → (t, tupO k tk v tv n) ∈ R0 := by
      intro t k tk v tv n h
      rw [hR1] at h
      simp only [List.mem_cons, Prod.mk.injEq] at h
      rcases h with ⟨_, h⟩ | ⟨_, h⟩ | ⟨_, h⟩ | ⟨_, h⟩ | ⟨_, h⟩ | ⟨_, h⟩ | ⟨_, h⟩ | ⟨_, h⟩ | h
      · exact (tup_not_inst h).elim
      · exact (tup_not_dict h).elim
      · exact (tup_not_list h).elim
      · exact (tup_not_cell dT h).elim
      · exact (tup_not_cell d3 h).elim
      · exact (tup_not_cell d2 h).elim
      · exact (tup_not_cell d1 h).elim
      · exact (tup_not_list h).elim
      · exact h
    have oR1 : ∀ p ∈ R1, @Ne Nat p.1 (L' + 1 + 1 + 1 + 1 + 1) ∧ @Ne Nat p.1 (L' + 1 + 1 + 1 + 1 + 1 + 1) ∧ @LT.lt Nat _ p.1 kl := by
      intro p hp
      rw [hR1] at hp
      simp only [List.mem_cons] at hp
      have z3 : @LT.lt Nat _ kd kl := Nat.lt_trans lk2 lk1
      have z4 : @LT.lt Nat _ D kl := Nat.lt_trans y5 z3
      rcases hp with rfl | rfl | rfl | rfl | rfl | rfl | rfl | rfl | hp
      · exact o3_hi zkx lk1
      · exact o3_hi zkd z3
      · exact o3_hi lD z4
      · exact o3_lo (Nat.lt_succ_self _) zkl
      · exact o3_lo (Nat.lt_succ_of_lt (Nat.lt_succ_self _)) zkl
      · exact o3_lo (Nat.lt_succ_of_lt (Nat.lt_succ_of_lt (Nat.lt_succ_self _))) zkl
      · exact o3_lo (Nat.lt_succ_of_lt (Nat.lt_succ_of_lt (Nat.lt_succ_of_lt (Nat.lt_succ_self _)))) zkl
      · exact o3_lo (Nat.lt_of_lt_of_le lpb (Nat.le_add_right _ 5)) zkl
      · exact o3_lo (Nat.lt_of_lt_of_le (lR p hp) (Nat.le_add_right _ 5)) zkl
    subst hGoal75
    try dsimp only
    refine for_K (n := 4) (src_range hRg (by decide) (by decide)) F4 N4 (RoundJ W Nn M fs R1 kx kl la fo fi pu X.lx (L' + 1 + 1 + 1 + 1 + 1) (L' + 1 + 1 + 1 + 1 + 1 + 1))
      ⟨[], [], [], [], [], 0, 0, 0, 0, 0, [], _, _, rfl, ⟨rfl, fun i k v h => by simp [kvsAt] at h⟩, ⟨rfl, fun i k v h => by simp [kvsAt] at h⟩, .nil, ⟨rfl, fun i n h => by simp [firstsAt] at h⟩, .nil, ⟨_, d5⟩, ⟨_, d6⟩, (fun _ h => nomatch h), rfl, rfl, rfl, rfl, rfl, rfl⟩ ?turn ?done
    case turn =>
      intro E1 K I it t v mm nn h7 tk7 ht hv hsub hoffI F5 N5 hn hJ
      try clear F4; try clear N4
      (first | (with_reducible show wpAny _ _ _ _ _ _; generalize hGoal76 : wpAny _ _ _ _ _ _ = Goal76) | (dsimp only; with_reducible show wpAny _ _ _ _ _ _; generalize hGoal76 : wpAny _ _ _ _ _ _ = Goal76) | (generalize hGoal76 : True = Goal76))
      obtain ⟨tv, rfl⟩ := hv
      obtain ⟨kvv, lav, fov, fiv, puv, kk, lak, fok, fik, puk, tl, ox, oy, rfl, hkv, hla, hfo, hfi, hpu, ⟨gx, dx⟩, ⟨gy, dy⟩, htl, n1, n2, n3, n4, n5, n6⟩ := hJ
      obtain ⟨f, hf⟩ : ∃ f, fs[t]? = some f := ⟨_, List.getElem?_eq_getElem (by rw [h4]; exact ht)⟩
      obtain ⟨tt, t1, t2, t3, z1, hv', hmt⟩ := FI.at_ t f hf
      have hf5 := hsm f (List.mem_of_getElem? hf)
      have told_at : ∀ i, i < 5 → ∃ tz, ys[i]? = some (.str (toldOf Nn i) tz) := fun i hi => strsAre_get hys (by rw [List.getElem?_map, List.getElem?_range hi]; rfl)
      obtain ⟨tz1, hz1⟩ := told_at f.1 hf5.1
      obtain ⟨tz2, hz2⟩ := told_at f.2.1 hf5.2.1
      obtain ⟨tz3, hz3⟩ := told_at f.2.2 hf5.2.2
      have hf1 := hf5.1
      have hf2 := hf5.2.1
      have hf3 := hf5.2.2
      have off5 : ∀ p ∈ tl ++ R1, p.1 ≠ L' + 1 + 1 + 1 + 1 + 1 := fun p hp => by
        rcases List.mem_append.mp hp with hp | hp
        · exact Nat.ne_of_gt (Nat.lt_trans (Nat.lt_of_succ_lt zpu) (htl p hp))
        · exact (oR1 p hp).1
      have off6 : ∀ p ∈ tl ++ R1, p.1 ≠ L' + 1 + 1 + 1 + 1 + 1 + 1 := fun p hp => by
        rcases List.mem_append.mp hp with hp | hp
        · exact Nat.ne_of_gt (Nat.lt_trans zpu (htl p hp))
        · exact (oR1 p hp).2.1
      have x5 : @Ne Nat I (L' + 1 + 1 + 1 + 1 + 1) := fun e => hoffI (L' + 1 + 1 + 1 + 1 + 1, ox) (mem_deep 6 (.head _)) e.symm
      have x6 : @Ne Nat I (L' + 1 + 1 + 1 + 1 + 1 + 1) := fun e => hoffI (L' + 1 + 1 + 1 + 1 + 1 + 1, oy) (mem_deep 5 (.head _)) e.symm
      obtain ⟨R2, hR2⟩ : ∃ R2 : Led, R2 = tl ++ R1 := ⟨_, rfl⟩
      rw [← hR2] at N5 off5 off6 hkv hla
      have r1 : ∀ p ∈ R1, p ∈ R2 := fun p hp => by rw [hR2]; exact List.mem_append_right _ hp
      have eD := r1 _ mD
      have e4 := r1 _ mc4
      have e3 := r1 _ mc3
      have e2 := r1 _ mc2
      have eF := r1 _ (m0 _ mf)
      have eT := r1 _ (m0 _ hmt)
      have eW := r1 _ (m0 _ mw)
      have eKx := r1 _ mkx
      have eKd := r1 _ mkd
      have oR2 : ∀ p ∈ R2, @LT.lt Nat _ p.1 kl ∨ @LT.lt Nat _ pu p.1 := fun p hp => by
        rw [hR2] at hp
        rcases List.mem_append.mp hp with hp | hp
        · exact .inr (htl p hp)
        · exact .inl (oR1 p hp).2.2
      have offkl : ∀ p ∈ R2, p.1 ≠ kl := fun p hp => (oR2 p hp).elim (fun h => Nat.ne_of_lt h) (fun h => Nat.ne_of_gt (Nat.lt_trans (Nat.lt_trans (Nat.lt_trans (Nat.lt_trans y1 y2) y3) y4) h))
      have offla : ∀ p ∈ R2, p.1 ≠ la := fun p hp => (oR2 p hp).elim (fun h => Nat.ne_of_lt (Nat.lt_trans h y1)) (fun h => Nat.ne_of_gt (Nat.lt_trans (Nat.lt_trans (Nat.lt_trans y2 y3) y4) h))
      have offfo : ∀ p ∈ R2, p.1 ≠ fo := fun p hp => (oR2 p hp).elim (fun h => Nat.ne_of_lt (Nat.lt_trans h (Nat.lt_trans y1 y2))) (fun h => Nat.ne_of_gt (Nat.lt_trans (Nat.lt_trans y3 y4) h))
      have offfi : ∀ p ∈ R2, p.1 ≠ fi := fun p hp => (oR2 p hp).elim (fun h => Nat.ne_of_lt (Nat.lt_trans h (Nat.lt_trans (Nat.lt_trans y1 y2) y3))) (fun h => Nat.ne_of_gt (Nat.lt_trans y4 h))
      have offpu : ∀ p ∈ R2, p.1 ≠ pu := fun p hp => (oR2 p hp).elim (fun h => Nat.ne_of_lt (Nat.lt_trans h (Nat.lt_trans (Nat.lt_trans (Nat.lt_trans y1 y2) y3) y4))) (fun h => Nat.ne_of_gt h)
      have hkvl : kvv.length < 900 := b_one (hkv.len ▸ kvsAt_len W Nn M fs t) ht
      have hlavl : lav.length < 900 := b_one (hla.len ▸ kvsAt_len W Nn M fs t) ht
      have hfovl : fov.length < 900 := by rw [strsAre_len hfo, foundAt, List.length_map, List.length_range]; exact b_one (Nat.le_refl _) ht
      have hfivl : fiv.length < 900 := by rw [hfi.1, firstsAt, List.length_map, List.length_range]; exact b_one (Nat.le_refl _) ht
      have hpuvl : puv.length < 900 := by rw [strsAre_len hpu]; exact b_two (pushAt_len W M fs t) ht
      have xkl : @Ne Nat I kl := fun e => hoffI (kl, listOf kvv.toArray kk) (.head _) e.symm
      have xla : @Ne Nat I la := fun e => hoffI (la, listOf lav.toArray lak) (mem_deep 1 (.head _)) e.symm
      have xfo : @Ne Nat I fo := fun e => hoffI (fo, listOf fov.toArray fok) (mem_deep 2 (.head _)) e.symm
      have xfi : @Ne Nat I fi := fun e => hoffI (fi, listOf fiv.toArray fik) (mem_deep 3 (.head _)) e.symm
      have xpu : @Ne Nat I pu := fun e => hoffI (pu, listOf puv.toArray puk) (mem_deep 4 (.head _)) e.symm
      subst hGoal76
      rw [Int.zero_add]
      wtm_at "mQ"
      rename Fr _ _ _ _ => F6
      rename News _ _ _ _ => N6
      have N7 := news_more N6 (q := (tt, tup3 f t1 t2 t3 z1)) (mem_deep 8 eT)
      refine assign_tupL F6 N7 ⟨_, (N7 _ (List.mem_cons_self ..)).1, rfl, _, rfl⟩ rfl rfl (fun h8 F8 N8 => ?_)
      have N8 := news_drop N8
      try clear N7; try clear F6; try clear N6; try clear N5; try clear F5
      have z6 := zkl
      wtm_at "mQ"
      (k_here; k_dflt (refine' Mine.c_cat (Nat.le_trans (RO.tlen _ hf1) (by decide)) (by decide) _ _ _ _ _ _ _ _ _ _ _ _ _ _ _ _ _ ?k1z91 ?k2z91 ?k3z91 ?k4z91 ?k5z91 ?kKz91 ?kdz91 ?kuz91 ?kRz91; (case k1z91 => k_asm); (case k2z91 => k_asm); (case k3z91 => k_asm); (case k4z91 => k_asm); (case k5z91 => k_asm); (case kKz91 => first | exact rfl | assumption); (case kdz91 => wtm_at "mRM"); (case kuz91 => wtm_at "mRU")))
      refine Mine.out1 ?_
      intro tb1 h9 tk9 F9 N9
      try dsimp only
      try k_fold
      wtm_at "mQ"
      (k_here; k_dflt (refine' Mine.c_cat (nm_len1 (RO.tlen _ hf1)) (Nat.le_trans (RO.tlen _ hf2) (by decide)) _ _ _ _ _ _ _ _ _ _ _ _ _ _ _ _ _ ?k1z92 ?k2z92 ?k3z92 ?k4z92 ?k5z92 ?kKz92 ?kdz92 ?kuz92 ?kRz92; (case k1z92 => k_asm); (case k2z92 => k_asm); (case k3z92 => k_asm); (case k4z92 => k_asm); (case k5z92 => k_asm); (case kKz92 => first | exact rfl | assumption); (case kdz92 => wtm_at "mRM"); (case kuz92 => wtm_at "mRU")))
      refine Mine.out1 ?_
      intro tb2 h9 tk9 F9 N9
      try dsimp only
      try k_fold
      wtm_at "mQ"
      refine comp_assign (cl := _) (by with_unfolding_all rfl) (by rfl) ?_
      wtm_at "mQ"
      rename IsRange _ _ _ _ _ _ _ _ => hRt
      rename News _ _ _ _ => N10
      rename Fr _ _ _ _ => F10
      have hsmall := small4 ⟨t, ht⟩
      try dsimp only
      refine comp_KL0 (src_range hRt hsmall.1 hsmall.2) F10 N10 (Nat.le_trans (Nat.le_of_lt ht) (by decide)) (fun i zs => IntsN zs ((List.range i).filter fun s => like M (at4 fs s) (at4 fs t))) ⟨rfl, fun i n h => by simp at h⟩ ?turn5 ?done5
      case turn5 =>
        intro E2 Ky Kn C5 R5 oC mc i v zs h11 tk11 hi hv hzl hRR hoffC nC F11 N11 hy hx hzs
        have g5 := hRR _ (mem_deep 7 (.head _))
        have g6 := hRR _ (mem_deep 6 (.head _))
        have gD := hRR _ (mem_deep 8 eD)
        have g4 := hRR _ (mem_deep 8 e4)
        have g3 := hRR _ (mem_deep 8 e3)
        have gF := hRR _ (mem_deep 8 eF)
        (first | (with_reducible show wpAny _ _ _ _ _ _; generalize hGoal77 : wpAny _ _ _ _ _ _ = Goal77) | (dsimp only; with_reducible show wpAny _ _ _ _ _ _; generalize hGoal77 : wpAny _ _ _ _ _ _ = Goal77) | (generalize hGoal77 : True = Goal77))
        obtain ⟨tv2, rfl⟩ := hv
        have hi4 : i < 4 := Nat.lt_trans hi ht
        obtain ⟨e, he⟩ : ∃ e, fs[i]? = some e := ⟨_, List.getElem?_eq_getElem (by rw [h4]; exact hi4)⟩
        obtain ⟨tt2, s1, s2, s3, z2, hv2, hmt2⟩ := FI.at_ i e he
        have he5 := hsm e (List.mem_of_getElem? he)
        have gT := hRR _ (mem_deep 8 (r1 _ (m0 _ hmt2)))
        obtain ⟨tz4, hz4⟩ := told_at e.1 he5.1
        obtain ⟨tz5, hz5⟩ := told_at e.2.1 he5.2.1
        have he1 := he5.1
        have he2 := he5.2.1
        clear hRR
        subst hGoal77
        rw [Int.zero_add]
        refine own_name (o := oC) F11 N11 nC hoffC ?_
        intro oC2 h12 tk12 nC2 F12 N12
        clear F11 N11 F10 N10 hn
        refine ifs_one ?_
        try dsimp only
        wtm_at "mQ"
        refine comp_open (cl := _) (by rfl) ?_
        wtm_at "mQX"
        try dsimp only
        refine cut2_tuple F12 N12 (.tail _ gT) (fun h13 q13 F13 N13 l13 => ?_) (by with_unfolding_all rfl)
        try clear F12; try clear N12
        try (k_unfold; (try dsimp only))
        have hI2 : IntsN [Value.int (e.1 : Int) s1, Value.int (e.2.1 : Int) s2] [e.1, e.2.1] := ⟨rfl, fun i n h => by
          match i, h with
          | 0, h => cases h; exact ⟨_, rfl⟩
          | 1, h => cases h; exact ⟨_, rfl⟩
          | i + 2, h => simp at h⟩
        refine comp_K0 (src_tup (vs := [Value.int (e.1 : Int) s1, Value.int (e.2.1 : Int) s2]) N13 (.head _) rfl rfl) F13 N13 (Nat.le_trans (Nat.le_refl 2) (by decide)) (fun i2 us => StrsAre us ((([e.1, e.2.1] : List Nat).take i2).map (toldOf Nn))) .nil ?turn6 ?done6
        case turn6 =>
          intro E3 Kz Kw C6 R6 oC6 mc6 i2 v2 us h14 tk14 hi2 hv2 hul hR6 hoffC6 nC6 F14 N14 hz hw hus
          have k4 := hR6 _ (mem_deep 2 g4)
          have kD := hR6 _ (mem_deep 2 gD)
          clear hR6 F13 N13 hy hx hw
          (first | (with_reducible show wpAny _ _ _ _ _ _; generalize hGoal78 : wpAny _ _ _ _ _ _ = Goal78) | (dsimp only; with_reducible show wpAny _ _ _ _ _ _; generalize hGoal78 : wpAny _ _ _ _ _ _ = Goal78) | (generalize hGoal78 : True = Goal78))
          obtain ⟨x, hx⟩ : ∃ x, ([e.1, e.2.1] : List Nat)[i2]? = some x := ⟨_, List.getElem?_eq_getElem (show i2 < ([e.1, e.2.1] : List Nat).length from hi2)⟩
          obtain ⟨tx, hx2⟩ := hI2.2 i2 x hx
          obtain rfl : Value.int (x : Int) tx = v2 := Option.some.inj (hx2.symm.trans hv2)
          have hx5 : x < 5 := by
            have := List.mem_of_getElem? hx
            simp only [List.mem_cons, List.not_mem_nil, or_false] at this
            rcases this with rfl | rfl
            · exact he1
            · exact he2
          obtain ⟨tz6, hz6⟩ := told_at x hx5
          subst hGoal78
          refine own_name (o := oC6) F14 N14 nC6 hoffC6 ?_
          intro oC7 h15 tk15 nC7 F15 N15
          try clear F14; try clear N14
          refine ifs_nil ?_
          try dsimp only
          wtm_at "mQ"
          rename Fr _ _ _ _ => F20
          rename News _ _ _ _ => N20
          refine hz _ oC7 _ _ _ ?_ nC7 F20 N20
          rw [List.take_succ, hx, List.map_append]
          exact strsAre_snoc hus
        case done6 =>
          intro D6 us uk h14 tk14 hus hul hlt6 F14 N14
          try clear F13; try clear N13
          try dsimp only
          wtm_at "mQX"
          rename_i l8 h8' q8
          rename Fr _ _ _ _ => F15
          rename News _ _ _ _ => N15
          have hlk : like M (at4 fs i) (at4 fs t) = decide ([toldOf Nn e.1, toldOf Nn e.2.1] = [toldOf Nn f.1, toldOf Nn f.2.1]) := by
            rw [at4_get he, at4_get hf, Bool.eq_iff_iff, like_iff, decide_eq_true_eq]
            simp only [List.cons.injEq, and_true]
            exact and_congr (RO.eqv _ _ he5.1 hf5.1).symm (RO.eqv _ _ he5.2.1 hf5.2.1).symm
          refine eq_strs N15 (.tail _ (.head _)) (.head _) hus (.cons _ _ (.cons _ _ .nil)) ?oa ?ob ?ou ?_
          case oa =>
            intro x hx
            obtain ⟨y, hy, rfl⟩ := List.mem_map.mp hx
            have := List.mem_of_mem_take hy
            simp only [List.mem_cons, List.not_mem_nil, or_false] at this
            rcases this with rfl | rfl
            · exact RO.sok _ he5.1
            · exact RO.sok _ he5.2.1
          case ob =>
            intro x hx
            simp only [List.mem_cons, List.not_mem_nil, or_false] at hx
            rcases hx with rfl | rfl
            · exact RO.sok _ hf5.1
            · exact RO.sok _ hf5.2.1
          case ou => wtm_at "mRU"
          have hlk2 : like M (at4 fs i) (at4 fs t) = decide (List.map (toldOf Nn) (List.take [Value.int (e.1 : Int) s1, Value.int (e.2.1 : Int) s2].length [e.1, e.2.1]) = [toldOf Nn f.1, toldOf Nn f.2.1]) := hlk
          rw [← hlk2]
          have N15 := news_sub (l2 := (C5, oC2) :: R5) N15 (fun p hp => .tail _ (.tail _ (.tail _ hp)))
          try dsimp only
          cases hb : like M (at4 fs i) (at4 fs t) with
          | true =>
            wtm_at "mQX"
            rename Fr _ _ _ _ => F20
            rename News _ _ _ _ => N20
            refine hy _ oC2 _ _ _ ?_ nC2 F20 N20
            rw [List.range_succ, List.filter_append, List.filter_cons_of_pos (by exact hb)]
            exact hzs.push
          | false =>
            wtm_at "mQX"
            try dsimp only
            rename Fr _ _ _ _ => F20
            rename News _ _ _ _ => N20
            refine hx oC2 _ _ _ ?_ nC2 F20 N20
            rw [List.range_succ, List.filter_append, List.filter_cons_of_neg (by rw [hb]; exact Bool.false_ne_true)]
            rw [List.filter_nil, List.append_nil]
            exact hzs
      case done5 =>
        intro Lk zs zk h11 tk11 hzs hzl hlt5 F11 N11
        have zLk : @LT.lt Nat _ pu Lk := hlt5 (pu, listOf puv.toArray puk) (mem_deep 5 (.head _))
        have zI : @LT.lt Nat _ I Lk := hlt5 (I, it) (.head _)
        try clear F10; try clear N10
        try dsimp only
        repeat' ((fail_if_success (with_reducible show wpAny _ _ (exec (Stmt.If ..) _) ..)); (fail_if_success (with_reducible show wpAny _ _ (eval (Expr.IfExp ..) _) ..)); (fail_if_success (with_reducible show wpAny _ _ (compareOp _ (Value.ref _) (Value.ref _)) ..)); wtm_at "mNOLOOP"; wtm_at "mSTEQ")
        rename Fr _ _ _ _ => F12
        rename News _ _ _ _ => N12
        obtain ⟨LS, hLS⟩ : ∃ LS, (List.range t).filter (fun s => like M (at4 fs s) (at4 fs t)) = LS := ⟨_, rfl⟩
        rw [hLS] at hzs
        have hfirst : firstOf M fs t = LS.head?.getD t := by
          unfold firstOf
          rw [← hLS, List.head?_filter]
        obtain ⟨wz, hwz⟩ : ∃ wz, W[f.2.2]? = some wz := ⟨_, List.getElem?_eq_getElem (by rw [HT.len]; exact hf3)⟩
        obtain ⟨twz, hwz2⟩ := strsAre_get HW hwz
        have hwzl : wz.length < 2 ^ 20 := by
          have := (RO.wok _ hf3).2.2
          rw [List.getD_eq_getElem?_getD, hwz] at this; exact this
        have elw : Txt.lower wz = lwOf W f.2.2 := by unfold lwOf; rw [List.getD_eq_getElem?_getD, hwz]; rfl
        refine flow_cut (fun h' tk => RoundC g' L' W Nn M fs R2 [(Lk, listOf zs.toArray zk), (I, it), (kl, listOf kvv.toArray kk)] [(fo, listOf fov.toArray fok), (fi, listOf fiv.toArray fik), (pu, listOf puv.toArray puk)] kx la fo fi pu X.lx Lk Lk (L' + 1 + 1 + 1 + 1 + 1) (L' + 1 + 1 + 1 + 1 + 1 + 1) t f t3 h') ?ways ?cont
        case ways =>
          intro K7 hK7
          wtm_at "mQX"
          rename_i l9 h9' q9
          rename Fr _ _ _ _ => F13
          rename News _ _ _ _ => N13
          refine eq_ints (vs := []) (ys := []) N13 (.tail _ (.head _)) (.head _) hzs ⟨rfl, fun i n h => by simp at h⟩ ?ou2 ?_
          case ou2 => wtm_at "mRU"
          have N13 := news_drop N13
          try clear N11
          try dsimp only
          cases LS with
          | nil =>
            rw [show decide (([] : List Nat) = []) = true from rfl]
            have hl1 := RO.tlen _ hf1
            have hl2 := RO.tlen _ hf2
            wtm_at "mQX"
            rename Fr _ _ _ _ => F14
            rename News _ _ _ _ => N14
            have hnl : (toldOf Nn f.1 ++ Str.ofString ": " ++ toldOf Nn f.2.1).length < 2 ^ 20 := Nat.lt_of_le_of_lt (nm_len hl1 hl2) (by decide)
            refine str_cut (cased (t % 2 == 1) (nmOf Nn f.1 f.2.1)) F14 N14 ?if1 (fun u8 h16 tk16 F16 N16 => ?_)
            case if1 =>
              intro K8 hK8
              wtm_at "mQ"
              · have hodd : (t % 2 == 1) = true := odd_of (by assumption)
                rename Fr _ _ _ _ => F20
                rename News _ _ _ _ => N20
                have e8 : cased (t % 2 == 1) (nmOf Nn f.1 f.2.1) = Txt.upper (toldOf Nn f.1 ++ Str.ofString ": " ++ toldOf Nn f.2.1) := by rw [hodd]; rfl
                rw [← e8]
                exact hK8 _ _ _ F20 N20
              · have hodd : (t % 2 == 1) = false := even_of (by assumption)
                rename Fr _ _ _ _ => F20
                rename News _ _ _ _ => N20
                have e8 : cased (t % 2 == 1) (nmOf Nn f.1 f.2.1) = Txt.lower (toldOf Nn f.1 ++ Str.ofString ": " ++ toldOf Nn f.2.1) := by rw [hodd]; rfl
                rw [← e8]
                exact hK8 _ _ _ F20 N20
            try clear F14; try clear N14; try clear F13; try clear N13
            wtm_at "mQX"
            try dsimp only
            rename_i D9 h17 q17 h18 F20 N20
            rw [List.push_toArray] at N20
            refine' hK7 _ _ ⟨lav ++ [.ref D9], lak + 1, [(D9, ?o9)], _, _, _, _, _, F20, ?nn, ?ix, ?iy, ?pp, ?fr, n1, n2, n3, n4, n5, n6, rfl, rfl, rfl, rfl⟩
            case nn =>
              simp only [List.cons_append, List.nil_append]
              exact news_sub N20 (by wtm_at "per")
            case ix => exact ⟨_, by assumption⟩
            case iy => exact ⟨_, by assumption⟩
            case pp =>
              rw [kvsAt_take (by rw [hfirst]; rfl), at4_get hf, ← elw]
              exact hla.snoc (.head _) (fun p hp => .tail _ hp)
            case fr => exact fun p hp => by rw [List.mem_singleton.mp hp]; exact q17.1
          | cons a r =>
            rw [show decide (a :: r = []) = false from decide_eq_false (by simp)]
            wtm_at "mQX"
            rename Fr _ _ _ _ => F20
            rename News _ _ _ _ => N20
            refine hK7 _ _ ⟨lav, lak, [], _, _, _, _, _, F20, N20, ⟨_, by assumption⟩, ⟨_, by assumption⟩, ?pp, (fun _ h => nomatch h), n1, n2, n3, n4, n5, n6, rfl, rfl, rfl, rfl⟩
            rw [kvsAt_skip (by rw [hfirst]; exact first_ne hLS)]
            exact hla
        case cont =>
          intro h20 tk20 hT
          try clear F12; try clear N12
          (first | (with_reducible show wpAny _ _ _ _ _ _; generalize hGoal79 : wpAny _ _ _ _ _ _ = Goal79) | (dsimp only; with_reducible show wpAny _ _ _ _ _ _; generalize hGoal79 : wpAny _ _ _ _ _ _ = Goal79) | (generalize hGoal79 : True = Goal79))
          obtain ⟨lav', lak', tl', ox', oy', mm', ua, ub, F13, N13, ⟨gx', dx'⟩, ⟨gy', dy'⟩, hla', htl', p1, p2, p3, p4, p5, p6, p7, p8, p9, p10⟩ := hT
          simp only [List.cons_append, List.nil_append] at N13
          obtain ⟨R3, hR3⟩ : ∃ R3 : Led, R3 = tl' ++ R2 := ⟨_, rfl⟩
          rw [← hR3] at N13 hla'
          have r3 : ∀ p ∈ R2, p ∈ R3 := fun p hp => by rw [hR3]; exact List.mem_append_right _ hp
          have eD := r3 _ eD
          have e4 := r3 _ e4
          have e3 := r3 _ e3
          have e2 := r3 _ e2
          have eF := r3 _ eF
          have eW := r3 _ eW
          have eKx := r3 _ eKx
          have eKd := r3 _ eKd
          have oR3 : ∀ p ∈ R3, @LT.lt Nat _ p.1 kl ∨ @LT.lt Nat _ pu p.1 := fun p hp => by
            rw [hR3] at hp
            rcases List.mem_append.mp hp with hp | hp
            · exact .inr (Nat.lt_trans zLk (htl' p hp))
            · exact oR2 p hp
          have offkl : ∀ p ∈ R3, p.1 ≠ kl := fun p hp => (oR3 p hp).elim (fun h => Nat.ne_of_lt h) (fun h => Nat.ne_of_gt (Nat.lt_trans (Nat.lt_trans (Nat.lt_trans (Nat.lt_trans y1 y2) y3) y4) h))
          have offfo : ∀ p ∈ R3, p.1 ≠ fo := fun p hp => (oR3 p hp).elim (fun h => Nat.ne_of_lt (Nat.lt_trans h (Nat.lt_trans y1 y2))) (fun h => Nat.ne_of_gt (Nat.lt_trans (Nat.lt_trans y3 y4) h))
          have offfi : ∀ p ∈ R3, p.1 ≠ fi := fun p hp => (oR3 p hp).elim (fun h => Nat.ne_of_lt (Nat.lt_trans h (Nat.lt_trans (Nat.lt_trans y1 y2) y3))) (fun h => Nat.ne_of_gt (Nat.lt_trans y4 h))
          have offpu : ∀ p ∈ R3, p.1 ≠ pu := fun p hp => (oR3 p hp).elim (fun h => Nat.ne_of_lt (Nat.lt_trans h (Nat.lt_trans (Nat.lt_trans (Nat.lt_trans y1 y2) y3) y4))) (fun h => Nat.ne_of_gt h)
          subst hGoal79
          try dsimp only
          repeat' ((fail_if_success (with_reducible show wpAny _ _ (exec (Stmt.If ..) _) ..)); (fail_if_success (with_reducible show wpAny _ _ (eval (Expr.IfExp ..) _) ..)); (fail_if_success (with_reducible show wpAny _ _ (compareOp _ (Value.ref _) (Value.ref _)) ..)); wtm_at "mNOLOOP"; wtm_at "mSTEQ")
          rename Fr _ _ _ _ => F14
          rename News _ _ _ _ => N14
          refine int_cut (firstOf M fs t) F14 N14 ?fi1 (fun u8 h21 tk21 F15 N15 => ?_)
          case fi1 =>
            intro K8 hK8
            cases LS with
            | nil =>
              obtain rfl : zs = [] := List.length_eq_zero_iff.mp hzs.1
              repeat' ((fail_if_success (with_reducible show wpAny _ _ (truthy (Value.ref _)) ..)); wtm_at "mNOLOOP"; wtm_at "mSTEQ")
              refine wpAny_truthy_list ⟨_, (N14 _ (.head _)).1, rfl, _, rfl⟩ (by decide) ?_
              rw [show (!([] : List Value).toArray.isEmpty) = false from rfl]
              try dsimp only
              wtm_at "mQ"
              rw [show firstOf M fs t = t from hfirst] at hK8
              exact hK8 _ _ _ F14 N14
            | cons a r =>
              obtain ⟨ta, zs', rfl⟩ : ∃ ta zs', zs = Value.int (a : Int) ta :: zs' := by
                cases zs with
                | nil => cases hzs.1
                | cons z zs' =>
                  obtain ⟨ta, h⟩ := hzs.2 0 a rfl
                  cases h
                  exact ⟨ta, zs', rfl⟩
              repeat' ((fail_if_success (with_reducible show wpAny _ _ (truthy (Value.ref _)) ..)); wtm_at "mNOLOOP"; wtm_at "mSTEQ")
              refine wpAny_truthy_list ⟨_, (N14 _ (.head _)).1, rfl, _, rfl⟩ ?fitz ?_
              case fitz => rw [List.size_toArray]; simp only [List.length_cons] at hzl ⊢; lia
              rw [show (!(Value.int (a : Int) ta :: zs').toArray.isEmpty) = true by simp]
              rw [if_pos rfl]
              try dsimp only
              have hz0 : (Value.int (a : Int) ta :: zs')[0]? = some (Value.int (a : Int) ta) := rfl
              repeat' ((fail_if_success (with_reducible show wpAny _ _ (subscriptTail _ _ (Value.ref _) (Value.int 0 _)) ..)); wtm_at "mNOLOOP"; wtm_at "mSTEQ")
              refine itemT_L (i := 0) (by with_unfolding_all rfl) N14 (.head _) hz0 (by decide) ?_
              rw [show firstOf M fs t = a from hfirst] at hK8
              exact hK8 _ _ _ F14 N14
          try clear F14; try clear N14
          have N15 := news_more (news_more N15 (mem_deep 9 eKd)) (mem_deep 10 eKx)
          repeat' ((fail_if_success (with_reducible show wpAny _ _ (exec (Stmt.If ..) _) ..)); (fail_if_success (with_reducible show wpAny _ _ (eval (Expr.IfExp ..) _) ..)); (fail_if_success (with_reducible show wpAny _ _ (compareOp _ (Value.ref _) (Value.ref _)) ..)); wtm_at "mNOLOOP"; wtm_at "mSTEQ")
          rename Fr _ _ _ _ => F16
          rename News _ _ _ _ => N16
          have hnl : (nmOf Nn f.1 f.2.1).length < 2 ^ 20 := Nat.lt_of_le_of_lt (nm_len (RO.tlen _ hf1) (RO.tlen _ hf2)) (by decide)
          refine str_cut (cased (t % 2 == 1) (nmOf Nn f.1 f.2.1)) F16 N16 ?if2 (fun u9 h22 tk22 F17 N17 => ?_)
          case if2 =>
            intro K8 hK8
            wtm_at "mQ"
            · have hodd : (t % 2 == 1) = true := odd_of (by assumption)
              rename Fr _ _ _ _ => F20
              rename News _ _ _ _ => N20
              have e8 : cased (t % 2 == 1) (nmOf Nn f.1 f.2.1) = Txt.upper (nmOf Nn f.1 f.2.1) := by rw [hodd]; rfl
              rw [← e8]
              exact hK8 _ _ _ F20 N20
            · have hodd : (t % 2 == 1) = false := even_of (by assumption)
              rename Fr _ _ _ _ => F20
              rename News _ _ _ _ => N20
              have e8 : cased (t % 2 == 1) (nmOf Nn f.1 f.2.1) = Txt.lower (nmOf Nn f.1 f.2.1) := by rw [hodd]; rfl
              rw [← e8]
              exact hK8 _ _ _ F20 N20
          try clear F16; try clear N16
          repeat' ((fail_if_success (with_reducible show wpAny _ _ (exec (Stmt.If ..) _) ..)); (fail_if_success (with_reducible show wpAny _ _ (eval (Expr.IfExp ..) _) ..)); (fail_if_success (with_reducible show wpAny _ _ (compareOp _ (Value.ref _) (Value.ref _)) ..)); wtm_at "mNOLOOP"; wtm_at "mSTEQ")
          rename Fr _ _ _ _ => F18
          rename News _ _ _ _ => N18
          rw [List.push_toArray] at N18
          have N18 := news_sub (l2 := (kl, listOf kvv.toArray kk) :: (Lk, listOf zs.toArray zk) :: (I, it) :: (la, listOf lav'.toArray lak') :: (fo, listOf fov.toArray fok) :: (fi, listOf (fiv ++ [Value.int ((firstOf M fs t : Nat) : Int) u8]).toArray (fik + 1)) :: (pu, listOf puv.toArray puk) :: (L' + 1 + 1 + 1 + 1 + 1 + 1, oy') :: (L' + 1 + 1 + 1 + 1 + 1, ox') :: R3) N18 (by wtm_at "per")
          have B4 : IsBook ((Lk, listOf zs.toArray zk) :: (I, it) :: (la, listOf lav'.toArray lak') :: (fo, listOf fov.toArray fok) :: (fi, listOf (fiv ++ [Value.int ((firstOf M fs t : Nat) : Int) u8]).toArray (fik + 1)) :: (pu, listOf puv.toArray puk) :: (L' + 1 + 1 + 1 + 1 + 1 + 1, oy') :: (L' + 1 + 1 + 1 + 1 + 1, ox') :: R3) kx kl := ⟨kd, hs9, t9, 1, mem_deep 8 eKx, mem_deep 8 eKd⟩
          have hoff4 : ∀ p ∈ ((Lk, listOf zs.toArray zk) :: (I, it) :: (la, listOf lav'.toArray lak') :: (fo, listOf fov.toArray fok) :: (fi, listOf (fiv ++ [Value.int ((firstOf M fs t : Nat) : Int) u8]).toArray (fik + 1)) :: (pu, listOf puv.toArray puk) :: (L' + 1 + 1 + 1 + 1 + 1 + 1, oy') :: (L' + 1 + 1 + 1 + 1 + 1, ox') :: R3 : Led), p.1 ≠ kl := by
            intro p hp
            simp only [List.mem_cons] at hp
            rcases hp with rfl | rfl | rfl | rfl | rfl | rfl | rfl | rfl | hp
            · exact Nat.ne_of_gt (Nat.lt_trans (Nat.lt_trans (Nat.lt_trans (Nat.lt_trans y1 y2) y3) y4) zLk)
            · exact xkl
            · exact Nat.ne_of_gt y1
            · exact Nat.ne_of_gt (Nat.lt_trans y1 y2)
            · exact Nat.ne_of_gt (Nat.lt_trans (Nat.lt_trans y1 y2) y3)
            · exact Nat.ne_of_gt (Nat.lt_trans (Nat.lt_trans (Nat.lt_trans y1 y2) y3) y4)
            · exact Nat.ne_of_lt z6
            · exact Nat.ne_of_lt (Nat.lt_of_succ_lt z6)
            · exact offkl p hp
          have low9 := RO.low (t % 2 == 1) _ _ hf1 hf2
          have ok9 := RO.ok (t % 2 == 1) _ _ hf1 hf2
          have okl9 := RO.okl _ _ hf1 hf2
          have wok9 := RO.wok _ hf3
          (k_here; k_dflt (refine' Mine.c_setdefault B4 (hkv.mono (fun p hp => mem_deep 8 (r3 p hp))) (by rw [low9]; exact okl9.1) (by rw [low9]; exact okl9.2) ok9.2 ok9.1 (by rw [elw]; exact wok9.1) (by rw [elw]; exact wok9.2.1) (kvs_keys RO hsm t) (Nat.lt_trans hkvl (by decide)) hoff4 _ _ _ _ _ _ _ _ _ _ _ _ _ _ _ _ _ ?k1z93 ?k2z93 ?k3z93 ?k4z93 ?k5z93 ?kKz93 ?kdz93 ?kuz93 ?kRz93; (case k1z93 => k_asm); (case k2z93 => k_asm); (case k3z93 => k_asm); (case k4z93 => k_asm); (case k5z93 => k_asm); (case kKz93 => first | exact rfl | assumption); (case kdz93 => wtm_at "mRM"); (case kuz93 => wtm_at "mRU")))
          intro v9 n9 h9 tk9 hp9 F9 N9
          clear N18 F18 B4 hoff4
          (first | (with_reducible show wpAny _ _ _ _ _ _; generalize hGoal80 : wpAny _ _ _ _ _ _ = Goal80) | (dsimp only; with_reducible show wpAny _ _ _ _ _ _; generalize hGoal80 : wpAny _ _ _ _ _ _ = Goal80) | (generalize hGoal80 : True = Goal80))
          have hp9 := setd_uni (hkv.mono r3) hp9
          have hstep := kvs_step RO hsm t
          have hfnd := found_step RO hsm t
          rw [at4_get hf] at hstep hfnd
          rw [low9, elw, hstep, hfnd] at hp9
          have hfst : firstOf M fs t < 4 := Nat.lt_of_le_of_lt (first_le M fs t) ht
          obtain ⟨g, hg⟩ : ∃ g, fs[firstOf M fs t]? = some g := ⟨_, List.getElem?_eq_getElem (by rw [h4]; exact hfst)⟩
          rw [at4_get hg] at hp9
          obtain ⟨tv9, kvv', kk', add, rfl, rfl, hkv', hadd⟩ := hp9
          obtain ⟨tg, g1, g2, g3, ng, hvg, hmg⟩ := FI.at_ _ g hg
          have hg5 := hsm g (List.mem_of_getElem? hg)
          have hg3 := hg5.2.2
          obtain ⟨tz9, hz9⟩ := told_at g.2.2 hg3
          have N9 := news_mid (xs := [(Lk, listOf zs.toArray zk), (I, it), (la, listOf lav'.toArray lak'), (fo, listOf fov.toArray fok), (fi, listOf (fiv ++ [Value.int ((firstOf M fs t : Nat) : Int) u8]).toArray (fik + 1)), (pu, listOf puv.toArray puk), (L' + 1 + 1 + 1 + 1 + 1 + 1, oy'), (L' + 1 + 1 + 1 + 1 + 1, ox')]) N9
          simp only [List.cons_append, List.nil_append] at N9
          have hpadd : ∀ p ∈ add, @LT.lt Nat _ pu p.1 := fun p hp => hadd p hp (pu, listOf puv.toArray puk) (mem_deep 6 (.head _))
          have hIadd : ∀ p ∈ add, @LT.lt Nat _ I p.1 := fun p hp => hadd p hp (I, it) (mem_deep 2 (.head _))
          obtain ⟨R5, hR5⟩ : ∃ R5 : Led, R5 = add ++ R3 := ⟨_, rfl⟩
          rw [← hR5] at N9 hkv'
          have r5 : ∀ p ∈ R3, p ∈ R5 := fun p hp => by rw [hR5]; exact List.mem_append_right _ hp
          have eD := r5 _ eD
          have e4 := r5 _ e4
          have e3 := r5 _ e3
          have e2 := r5 _ e2
          have eF := r5 _ eF
          have eW := r5 _ eW
          have eG : (tg, tup3 g g1 g2 g3 ng) ∈ R5 := r5 _ (r3 _ (r1 _ (m0 _ hmg)))
          have oR5 : ∀ p ∈ R5, @LT.lt Nat _ p.1 kl ∨ @LT.lt Nat _ pu p.1 := fun p hp => by
            rw [hR5] at hp
            rcases List.mem_append.mp hp with hp | hp
            · exact .inr (hpadd p hp)
            · exact oR3 p hp
          have offfo : ∀ p ∈ R5, p.1 ≠ fo := fun p hp => (oR5 p hp).elim (fun h => Nat.ne_of_lt (Nat.lt_trans h (Nat.lt_trans y1 y2))) (fun h => Nat.ne_of_gt (Nat.lt_trans (Nat.lt_trans y3 y4) h))
          have offpu : ∀ p ∈ R5, p.1 ≠ pu := fun p hp => (oR5 p hp).elim (fun h => Nat.ne_of_lt (Nat.lt_trans h (Nat.lt_trans (Nat.lt_trans (Nat.lt_trans y1 y2) y3) y4))) (fun h => Nat.ne_of_gt h)
          have hfil : fiv.length = t := by rw [hfi.1]; unfold firstsAt; rw [List.length_map, List.length_range]
          have hfol : fov.length = t := by rw [strsAre_len hfo]; unfold foundAt; rw [List.length_map, List.length_range]
          have hfi9 : (fiv ++ [Value.int ((firstOf M fs t : Nat) : Int) u8])[t]? = some (.int ((firstOf M fs t : Nat) : Int) u8) := get_last hfil
          have hfo9 : (fov ++ [Value.str (lwOf W g.2.2) tv9])[t]? = some (.str (lwOf W g.2.2) tv9) := get_last hfol
          subst hGoal80
          try dsimp only
          try k_fold
          repeat' ((fail_if_success (with_reducible show wpAny _ _ (exec (Stmt.If ..) _) ..)); (fail_if_success (with_reducible show wpAny _ _ (eval (Expr.IfExp ..) _) ..)); (fail_if_success (with_reducible show wpAny _ _ (compareOp _ (Value.ref _) (Value.ref _)) ..)); wtm_at "mNOLOOP"; wtm_at "mSTEQ")
          rename News _ _ _ _ => N21
          rw [List.push_toArray] at N21
          rename Fr _ _ _ _ => F21
          have fin : ∀ (puv' : List Value) (puk' : Nat) (h : Heap) (tk : Nat), Fr g' L' h mm' → News g' L' h ((kl, listOf kvv'.toArray kk') :: (Lk, listOf zs.toArray zk) :: (I, it) :: (la, listOf lav'.toArray lak') :: (fo, listOf (fov ++ [Value.str (lwOf W g.2.2) tv9]).toArray (fok + 1)) :: (fi, listOf (fiv ++ [Value.int ((firstOf M fs t : Nat) : Int) u8]).toArray (fik + 1)) :: (pu, listOf puv'.toArray puk') :: (L' + 1 + 1 + 1 + 1 + 1 + 1, oy') :: (L' + 1 + 1 + 1 + 1 + 1, ox') :: R5) → StrsAre puv' (pushAt W M fs (t + 1)) → K .next { s with heap := h, toks := tk } := by
            intro puv' puk' h tk Fx Nx hpx
            have e5 : R5 = (add ++ (tl' ++ tl)) ++ R1 := by rw [hR5, hR3, hR2, List.append_assoc, List.append_assoc]
            refine hn mm' ((kl, listOf kvv'.toArray kk') :: (la, listOf lav'.toArray lak') :: (fo, listOf (fov ++ [Value.str (lwOf W g.2.2) tv9]).toArray (fok + 1)) :: (fi, listOf (fiv ++ [Value.int ((firstOf M fs t : Nat) : Int) u8]).toArray (fik + 1)) :: (pu, listOf puv'.toArray puk') :: (L' + 1 + 1 + 1 + 1 + 1 + 1, oy') :: (L' + 1 + 1 + 1 + 1 + 1, ox') :: R5) h tk ?jj (fun p hp => nomatch hp) Fx (news_sub Nx (by wtm_at "per")) ?oo
            case jj =>
              refine ⟨kvv', lav', _, _, puv', kk', lak', _, _, puk', add ++ (tl' ++ tl), ox', oy', by rw [e5], by rw [← e5]; exact hkv', by rw [← e5]; exact hla'.mono r5, ?_, ?_, hpx, ⟨gx', dx'⟩, ⟨gy', dy'⟩, ?_, p1, p2, p3, p4, p5, p6⟩
              · rw [foundAt_succ, at4_get hg]; exact strsAre_snoc hfo
              · rw [firstsAt_succ]; exact hfi.push
              · intro p hp
                rcases List.mem_append.mp hp with hp | hp
                · exact hpadd p hp
                · rcases List.mem_append.mp hp with hp | hp
                  · exact Nat.lt_trans zLk (htl' p hp)
                  · exact htl p hp
            case oo =>
              intro p hp
              simp only [List.mem_cons] at hp
              rcases hp with rfl | rfl | rfl | rfl | rfl | rfl | rfl | hp
              · exact fun e => xkl e.symm
              · exact fun e => xla e.symm
              · exact fun e => xfo e.symm
              · exact fun e => xfi e.symm
              · exact fun e => xpu e.symm
              · exact fun e => x6 e.symm
              · exact fun e => x5 e.symm
              · rw [hR5] at hp
                rcases List.mem_append.mp hp with hp | hp
                · exact Nat.ne_of_gt (hIadd p hp)
                · rw [hR3] at hp
                  rcases List.mem_append.mp hp with hp | hp
                  · exact Nat.ne_of_gt (Nat.lt_trans zI (htl' p hp))
                  · rw [hR2] at hp
                    exact hoffI p (mem_deep 7 hp)
          have hps : pushAt W M fs (t + 1) = pushAt W M fs t ++ pushL W (if mkk M g.2.2 = mkk M f.2.2 then [] else [(g.2.2, f.2.2)]) := by
            rw [pushAt_succ]; unfold pushOne; rw [at4_get hg, at4_get hf]
          ((repeat' ((fail_if_success (with_reducible show wpAny _ _ (subscriptTail (Expr.Subscript _ _ _) _ _ _) ..)); wtm_at "mNOLOOP"; wtm_at "mSTEQ")); refine item_tupleT (News.isTup (by k_asm) (by k_mem)) (by decide) (by decide) (by exact rfl) (by exact rfl) ?_; k_whole)
          wtm_at "mQX"
          · rename_i l9 h30 F30 N30 q30
            have hne : ¬ mkk M g.2.2 = mkk M f.2.2 := fun e => by
              rename (toldOf Nn g.2.2 != toldOf Nn f.2.2) = true => hb
              rw [(RO.eqv _ _ hg3 hf3).mpr e, bne_self_eq_false] at hb
              cases hb
            refine' ext_L (D := pu) ?Fe ?Ne ?be ?Ue ?se (fun h8 k8 F8 N8 => ?_)
            case Fe => exact F30
            case Ne => exact N30
            case be => k_mem
            case Ue => intro k'; k_upd
            case se => exact Nat.lt_trans (Nat.add_lt_add_right hpuvl 2) (by decide)
            try dsimp only
            wtm_at "mQX"
            try dsimp only
            rename Fr _ _ _ _ => F31
            rename News _ _ _ _ => N31
            refine fin _ _ _ _ F31 (news_drop N31) ?_
            rw [hps, if_neg hne]
            exact strsAre_app hpu (.cons _ _ (by rw [elw]; exact .cons _ _ .nil))
          · have heq : mkk M g.2.2 = mkk M f.2.2 := by
              rename (toldOf Nn g.2.2 != toldOf Nn f.2.2) = false => hb
              exact (RO.eqv _ _ hg3 hf3).mp (by simpa using hb)
            try dsimp only
            refine fin _ _ _ _ F21 N21 ?_
            rw [hps, if_pos heq]
            show StrsAre puv (pushAt W M fs t ++ [])
            rw [List.append_nil]
            exact hpu
    case done =>
      intro E1 mm nn h7 tk7 hJ hsub F5 N5
      try clear F4; try clear N4
      (first | (with_reducible show wpAny _ _ _ _ _ _; generalize hGoal81 : wpAny _ _ _ _ _ _ = Goal81) | (dsimp only; with_reducible show wpAny _ _ _ _ _ _; generalize hGoal81 : wpAny _ _ _ _ _ _ = Goal81) | (generalize hGoal81 : True = Goal81))
      obtain ⟨kvv, lav, fov, fiv, puv, kk, lak, fok, fik, puk, tl, ox, oy, rfl, hkv, hla, hfo, hfi, hpu, ⟨gx, dx⟩, ⟨gy, dy⟩, htl, n1, n2, n3, n4, n5, n6⟩ := hJ
      have wkl := Nat.lt_trans wpb zkl
      have wla := Nat.lt_trans wkl y1
      have wfo := Nat.lt_trans wla y2
      have wfi := Nat.lt_trans wfo y3
      have zpb := Nat.lt_trans wfi y4
      have hpuvl : puv.length < 100 := by rw [strsAre_len hpu]; exact Nat.lt_of_le_of_lt (pushAt_len W M fs 4) (by decide)
      have N5 := round_un (rest := R0) (by rw [hR1] at N5; exact N5)
      have only : ∀ (t : Addr) (k : Str) (tk : Tok) (v : Str) (tv : Tok) (n : Nat), (t, tupO k tk v tv n) ∈ tl ++ R1 → (t, tupO k tk v tv n) ∈ tl ++ R0 := fun t k tk v tv n h => (List.mem_append.mp h).elim (fun h => List.mem_append_left _ h) (fun h => List.mem_append_right _ (hRt _ _ _ _ _ _ h))
      have hkv := hkv.only only
      have hla := hla.only only
      clear only hRt
      clear mkx mkd mD mc4 mc3 mc2 oR1 m0 hsub
      obtain ⟨R6, hR6⟩ : ∃ R6 : Led, R6 = (kl, listOf kvv.toArray kk) :: (la, listOf lav.toArray lak) :: (fo, listOf fov.toArray fok) :: (fi, listOf fiv.toArray fik) :: (pu, listOf puv.toArray puk) :: (kx, instObj 171 kd) :: (kd, dictOf [⟨hs9, .str (Str.ofString "_headers") t9, .ref kl⟩] 1) :: (L' + 1 + 1 + 1, o3) :: (L' + 1 + 1, o2) :: (tl ++ R0) := ⟨_, rfl⟩
      rw [← hR6] at N5
      have q1 : (kl, listOf kvv.toArray kk) ∈ R6 := by rw [hR6]; exact .head _
      have q2 : (la, listOf lav.toArray lak) ∈ R6 := by rw [hR6]; exact mem_deep 1 (.head _)
      have q3 : (fo, listOf fov.toArray fok) ∈ R6 := by rw [hR6]; exact mem_deep 2 (.head _)
      have q4 : (fi, listOf fiv.toArray fik) ∈ R6 := by rw [hR6]; exact mem_deep 3 (.head _)
      have q5 : (pu, listOf puv.toArray puk) ∈ R6 := by rw [hR6]; exact mem_deep 4 (.head _)
      have q6 : (kx, instObj 171 kd) ∈ R6 := by rw [hR6]; exact mem_deep 5 (.head _)
      have q7 : (kd, dictOf [⟨hs9, .str (Str.ofString "_headers") t9, .ref kl⟩] 1) ∈ R6 := by rw [hR6]; exact mem_deep 6 (.head _)
      have q8 : (L' + 1 + 1 + 1, o3) ∈ R6 := by rw [hR6]; exact mem_deep 7 (.head _)
      have q9 : (L' + 1 + 1, o2) ∈ R6 := by rw [hR6]; exact mem_deep 8 (.head _)
      have qt : ∀ p ∈ tl ++ R0, p ∈ R6 := fun p hp => by rw [hR6]; exact mem_deep 9 hp
      have q0 : ∀ p ∈ R0, p ∈ R6 := fun p hp => qt p (List.mem_append_right _ hp)
      have offpb : ∀ p ∈ R6, p.1 ≠ X.pb := by
        intro p hp
        rw [hR6] at hp
        simp only [List.mem_cons, List.mem_append] at hp
        rcases hp with rfl | rfl | rfl | rfl | rfl | rfl | rfl | rfl | rfl | hp | hp
        · exact Nat.ne_of_gt wkl
        · exact Nat.ne_of_gt wla
        · exact Nat.ne_of_gt wfo
        · exact Nat.ne_of_gt wfi
        · exact Nat.ne_of_gt zpb
        · exact Nat.ne_of_gt (Nat.lt_trans wpb zkx)
        · exact Nat.ne_of_gt (Nat.lt_trans wpb zkd)
        · exact Nat.ne_of_gt (Nat.lt_of_lt_of_le lpb (Nat.le_add_right _ 3))
        · exact Nat.ne_of_gt (Nat.lt_of_lt_of_le lpb (Nat.le_add_right _ 2))
        · exact Nat.ne_of_gt (Nat.lt_trans zpb (htl p hp))
        · exact hoff p hp
      subst hGoal81
      wtm_at "mQ"
      refine wpAny_For ?_
      wtm_at "mQ"
      rename Fr _ _ _ _ => F6
      rename News _ _ _ _ => N6
      try dsimp only
      refine for_K (src_list N6 (.tail _ q5) rfl rfl) F6 N6 (fun t mm nn => ∃ kp', nn = (X.pb, listOf (ps ++ puv.take t).toArray kp') :: R6 ∧ mm (Str.ofString "known") = some (.ref kx) ∧ mm (Str.ofString "laid") = some (.ref la) ∧ mm (Str.ofString "found") = some (.ref fo) ∧ mm (Str.ofString "firsts") = some (.ref fi) ∧ mm (Str.ofString "pushed") = some (.ref pu) ∧ mm (Str.ofString "line") = some (.ref X.lx)) ⟨kp, by rw [List.take_zero, List.append_nil], n1, n2, n3, n4, n5, n6⟩ ?turn7 ?done7
      case turn7 =>
        intro E2 K I it t v mm nn h8 tk8 ht hv hsub hoffI F7 N7 hn hJ
        try clear F6; try clear N6
        (first | (with_reducible show wpAny _ _ _ _ _ _; generalize hGoal82 : wpAny _ _ _ _ _ _ = Goal82) | (dsimp only; with_reducible show wpAny _ _ _ _ _ _; generalize hGoal82 : wpAny _ _ _ _ _ _ = Goal82) | (generalize hGoal82 : True = Goal82))
        obtain ⟨kp', rfl, n1, n2, n3, n4, n5, n6⟩ := hJ
        have mdl2 := q0 _ mdl
        dsimp only [LexP.outer, lexE, List.cons_append, List.nil_append] at mdl2
        subst hGoal82
        have N7 := news_more (news_more N7 (.tail _ (.tail _ mdl2))) (.tail _ (.tail _ (.tail _ (q0 _ mlx))))
        wtm_at "mQ"
        rename Fr _ _ _ _ => F8
        rename News _ _ _ _ => N8
        have hxI : @Ne Nat I X.pb := fun e => hoffI _ (.head _) e.symm
        have hl9 : (ps ++ puv.take t).length < 1000 := by rw [List.length_append, List.length_take]; exact b_take hps hpuvl
        have ho9 : ∀ p ∈ ((I, it) :: R6 : Led), p.1 ≠ X.pb := by
          intro p hp
          rcases List.mem_cons.mp hp with rfl | hp
          · exact hxI
          · exact offpb p hp
        (k_here; k_dflt (refine' Mine.c_ptok (v := v) (ps := ps ++ puv.take t) (k := kp') (R := (I, it) :: R6) (.tail _ (q0 _ mlx)) (.tail _ (q0 _ mdl)) hl9 ho9 _ _ _ _ _ _ _ _ _ _ _ _ _ _ _ _ _ ?k1z86 ?k2z86 ?k3z86 ?k4z86 ?k5z86 ?kKz86 ?kdz86 ?kuz86 ?kRz86; (case k1z86 => k_asm); (case k2z86 => k_asm); (case k3z86 => k_asm); (case k4z86 => exact news_sub (by k_asm) (by wtm_at "per")); (case k5z86 => k_asm); (case kKz86 => first | exact rfl | assumption); (case kdz86 => wtm_at "mRM"); (case kuz86 => wtm_at "mRU")))
        refine Mine.out0 ?_
        intro h9 tk9 F9 N9
        try clear N8
        try dsimp only
        try k_fold
        wtm_at "mQ"
        try dsimp only
        rename Fr _ _ _ _ => F10
        rename News _ _ _ _ => N10
        refine hn _ ((X.pb, listOf ((ps ++ puv.take t) ++ [v]).toArray (kp' + 1)) :: R6) _ _ ?_ (fun p hp => by rw [List.mem_singleton.mp hp]; exact .tail _ q5) F10 (news_sub N10 (by wtm_at "per")) ?_
        · exact ⟨kp' + 1, by rw [List.take_succ, hv, List.append_assoc]; rfl, n1, n2, n3, n4, n5, n6⟩
        · intro p hp
          rcases List.mem_cons.mp hp with rfl | hp
          · exact fun e => hxI e.symm
          · exact hoffI p (.tail _ hp)
      case done7 =>
        intro E2 mm nn h8 tk8 hJ hsub F7 N7
        try clear F6; try clear N6
        (first | (with_reducible show wpAny _ _ _ _ _ _; generalize hGoal83 : wpAny _ _ _ _ _ _ = Goal83) | (dsimp only; with_reducible show wpAny _ _ _ _ _ _; generalize hGoal83 : wpAny _ _ _ _ _ _ = Goal83) | (generalize hGoal83 : True = Goal83))
        obtain ⟨kp', rfl, n1, n2, n3, n4, n5, n6⟩ := hJ
        rw [List.take_length] at N7
        subst hGoal83
        have N7 := news_more (news_more N7 (.tail _ q7)) (.tail _ (.tail _ q6))
        have hkvl : kvv.length < 900 := by rw [hkv.len]; exact Nat.lt_of_le_of_lt (kvsAt_len W Nn M fs 4) (by decide)
        (repeat' ((fail_if_success (with_reducible show wpAny _ _ (callWith _ (Value.ref _) _ _ _) ..)); wtm_at "mNOLOOP"; wtm_at "mSTEQ"))
        rename Fr _ _ _ _ => Fi
        refine callWith_K0 (Frag.In.keeps X' (Fr.keep Fi)) (by k_is) ?_
        wtm_at "mQX"
        (k_here; k_dflt (refine' Mine.c_items (b := kx) (R := (X.pb, listOf (ps ++ puv).toArray kp') :: R6) ⟨kd, hs9, t9, 1, .tail _ q6, .tail _ q7⟩ (.tail _ q1) (Nat.lt_trans hkvl (by decide)) _ _ _ _ _ _ _ _ _ _ _ _ _ _ _ _ _ ?k1z87 ?k2z87 ?k3z87 ?k4z87 ?k5z87 ?kKz87 ?kdz87 ?kuz87 ?kRz87; (case k1z87 => k_asm); (case k2z87 => k_asm); (case k3z87 => k_asm); (case k4z87 => exact news_sub (by k_asm) (fun p hp => .tail _ (.tail _ hp))); (case k5z87 => k_asm); (case kKz87 => first | exact rfl | assumption); (case kdz87 => wtm_at "mRM"); (case kuz87 => wtm_at "mRU")))
        intro v9 n9 h9 tk9 hp9 F9 N9
        (first | (with_reducible show wpAny _ _ _ _ _ _; generalize hGoal84 : wpAny _ _ _ _ _ _ = Goal84) | (dsimp only; with_reducible show wpAny _ _ _ _ _ _; generalize hGoal84 : wpAny _ _ _ _ _ _ = Goal84) | (generalize hGoal84 : True = Goal84))
        obtain ⟨qq, rfl, hqq, rfl⟩ := hp9
        subst hGoal84
        try dsimp only
        try k_fold
        wtm_at "mQX"
        try dsimp only [qk]
        rename Fr _ _ _ _ => F11
        have so := kvs_sok RO hsm 4
        have fo4 := found_sok RO hsm 4
        refine eq_pairs N9 (.head _) (.tail _ (.tail _ q2)) (hkv.mono fun p hp => .tail _ (.tail _ (qt p hp))) (hla.mono fun p hp => .tail _ (.tail _ (qt p hp))) so so ?ou4 ?_
        case ou4 => wtm_at "mRU"
        rw [decide_eq_true rfl]
        have N9 := news_drop N9
        try dsimp only
        wtm_at "mQX"
        refine comp_open (cl := _) (by rfl) ?_
        wtm_at "mQX"
        rename Fr _ _ _ _ => F12
        rename News _ _ _ _ => N12
        have hfil : fiv.length = 4 := by rw [hfi.1]; unfold firstsAt; rw [List.length_map, List.length_range]
        try dsimp only
        refine comp_K0 (src_list N12 (.tail _ q4) rfl rfl) F12 N12 (by rw [hfil]; decide) (fun i zs => StrsAre zs (foundAt W M fs i)) .nil ?turn8 ?done8
        case turn8 =>
          intro E3 Ky Kn C R oC mc i v zs h10 tk10 hi hv hzl hRR hoffC nC F13 N13 hy hx hzs
          have g3 := hRR _ (.tail _ q8)
          have g2 := hRR _ (.tail _ q9)
          have gF := hRR _ (.tail _ (q0 _ mf))
          have gW := hRR _ (.tail _ (q0 _ mw))
          clear F12 N12 hx
          (first | (with_reducible show wpAny _ _ _ _ _ _; generalize hGoal85 : wpAny _ _ _ _ _ _ = Goal85) | (dsimp only; with_reducible show wpAny _ _ _ _ _ _; generalize hGoal85 : wpAny _ _ _ _ _ _ = Goal85) | (generalize hGoal85 : True = Goal85))
          have hi4 : i < 4 := by rw [← hfil]; exact hi
          have hfst : firstOf M fs i < 4 := Nat.lt_of_le_of_lt (first_le M fs i) hi4
          obtain ⟨tz, hz⟩ := hfi.2 i (firstOf M fs i) (by unfold firstsAt; rw [List.getElem?_map, List.getElem?_range hi4]; rfl)
          obtain rfl : Value.int ((firstOf M fs i : Nat) : Int) tz = v := Option.some.inj (hz.symm.trans hv)
          obtain ⟨g, hg⟩ : ∃ g, fs[firstOf M fs i]? = some g := ⟨_, List.getElem?_eq_getElem (by rw [h4]; exact hfst)⟩
          obtain ⟨tg, g1, g2', g3', ng, hvg, hmg⟩ := FI.at_ _ g hg
          have hg5 := hsm g (List.mem_of_getElem? hg)
          have hg3 := hg5.2.2
          have gG := hRR _ (.tail _ (q0 _ hmg))
          obtain ⟨wz, hwz⟩ : ∃ wz, W[g.2.2]? = some wz := ⟨_, List.getElem?_eq_getElem (by rw [HT.len]; exact hg3)⟩
          obtain ⟨twz, hwz2⟩ := strsAre_get HW hwz
          have elw : Txt.lower wz = lwOf W g.2.2 := by unfold lwOf; rw [List.getD_eq_getElem?_getD, hwz]; rfl
          have hwzl : wz.length < 2 ^ 20 := by
            have := (RO.wok _ hg3).2.2
            rw [List.getD_eq_getElem?_getD, hwz] at this; exact this
          clear hRR
          subst hGoal85
          refine own_name (o := oC) F13 N13 nC hoffC ?_
          intro oC2 h11 tk11 nC2 F14 N14
          try clear F13; try clear N13
          refine ifs_nil ?_
          try dsimp only
          ((repeat' ((fail_if_success (with_reducible show wpAny _ _ (subscriptTail (Expr.Subscript _ _ _) _ _ _) ..)); wtm_at "mNOLOOP"; wtm_at "mSTEQ")); refine item_tupleT (News.isTup (by k_asm) (by k_mem)) (by decide) (by decide) (by exact rfl) (by exact rfl) ?_; k_whole)
          wtm_at "mQ"
          rename Fr _ _ _ _ => F20
          rename News _ _ _ _ => N20
          refine hy _ oC2 _ _ _ ?_ nC2 F20 N20
          rw [foundAt_succ, at4_get hg, ← elw]
          exact strsAre_snoc hzs
        case done8 =>
          intro D8 zs zk h10 tk10 hzs hzl hlt8 F13 N13
          try clear F12; try clear N12
          rw [hfil] at hzs
          try dsimp only
          wtm_at "mQX"
          refine eq_strs N13 (.tail _ (.tail _ q3)) (.head _) hfo hzs fo4 fo4 ?ou5 ?_
          case ou5 => wtm_at "mRU"
          rw [decide_eq_true rfl]
          try dsimp only
          wtm_at "mQX"
          rename _ ∧ _ ∧ AllLt _ R6 => lT
          rename Fr h₀ L _ m => kF
          rename News h₀ L _ _ => kN
          have fin : ∀ p ∈ ((X.pb, listOf ps.toArray kp) :: R0 : Led), @LT.lt Nat _ p.1 pu := by
            intro p hp
            rcases List.mem_cons.mp hp with rfl | hp
            · exact zpb
            · exact Nat.lt_trans (lR p hp) (Nat.lt_of_le_of_lt (Nat.le_add_right _ 6) zpu)
          refine' hret _ _ _ _ ⟨_, pu, puv, puk, kp', _, rfl, hpu, fin, lt_of_all lT.2.2 _ q5, rfl⟩ kF ?nn
          case nn =>
            intro p hp
            refine kN p ?_
            rcases List.mem_cons.mp hp with rfl | hp
            · exact .head _
            · rcases List.mem_cons.mp hp with rfl | hp
              · exact .tail _ (.tail _ (.tail _ q5))
              · rcases List.mem_cons.mp hp with rfl | hp
                · exact .tail _ (.tail _ (.head _))
                · exact .tail _ (.tail _ (.tail _ (q0 p hp)))
end
end Mine
end
section
open PySem PySem.W PyProof.Rows PySem.Calls PySem.Spec
set_option Elab.async false
namespace Mine
theorem octA_mod (n : Nat) : octA n % 64 = n % 64 := by
  unfold octA; split
  · exact Nat.mod_mod n 64
  · exact (Nat.mul_add_mod 64 2 (n % 64)).trans (Nat.mod_mod n 64)
theorem octB_mod (n : Nat) : octB n % 64 = n % 64 := by
  unfold octB; split
  · exact (Nat.mul_add_mod 64 1 (n % 64)).trans (Nat.mod_mod n 64)
  · rename_i h; exact Nat.le_antisymm (Nat.le_of_not_lt h) (Nat.le_of_lt_succ (Nat.mod_lt _ (by decide)))
theorem octA_last : ∀ r : Fin 64, Builtin.bitAnd ((octA r : Nat) : Int) 64 = 0 := by decide +kernel
theorem octB_cont : ∀ r : Fin 64, Builtin.bitAnd ((octB r : Nat) : Int) 64 ≠ 0 := by decide +kernel
theorem octA_64 (n : Nat) : octA n = octA (n % 64) := by unfold octA; rw [Nat.mod_mod]
theorem octB_64 (n : Nat) : octB n = octB (n % 64) := by unfold octB; rw [Nat.mod_mod]
theorem octGo_spec (N : Nat) : ∀ (f n b : Nat) (r : List Nat), n < 64 ^ (f + 1) → b % 64 = n % 64 → contOk b r → vGo n r = N →
    ∃ b' r', octGo f n (b :: r) = b' :: r' ∧ contOk b' r' ∧ r'.length ≤ r.length + f ∧ vGo (b' % 64) r' = N := by
  intro f
  induction f with
  | zero =>
    intro n b r hn hb hc hv
    refine ⟨b, r, rfl, hc, Nat.le_refl _, ?_⟩
    have : n % 64 = n := Nat.mod_eq_of_lt (by simpa using hn)
    rw [hb, this]; exact hv
  | succ f ih =>
    intro n b r hn hb hc hv
    by_cases h : 63 < n
    · rw [octGo_step h]
      have h1 : n / 64 < 64 ^ (f + 1) := Nat.div_lt_of_lt_mul (by rw [Nat.pow_succ, Nat.mul_comm] at hn; exact hn)
      obtain ⟨b', r', e, c, l, v⟩ := ih (n / 64) (octB (n / 64)) (b :: r) h1 (octB_mod _) ⟨by rw [octB_64]; exact octB_cont ⟨n / 64 % 64, Nat.mod_lt _ (by decide)⟩, hc⟩ (by
        show vGo (n / 64 * 64 + b % 64) r = N
        rw [hb, show n / 64 * 64 + n % 64 = n from Nat.div_add_mod' n 64]; exact hv)
      exact ⟨b', r', e, c, Nat.le_trans l (Nat.le_of_eq (Nat.add_right_comm _ 1 f)), v⟩
    · rw [octGo, if_neg h]
      refine ⟨b, r, rfl, hc, Nat.le_add_right _ _, ?_⟩
      have : n % 64 = n := Nat.mod_eq_of_lt (Nat.lt_succ_of_le (Nat.le_of_not_lt h))
      rw [hb, this]; exact hv
theorem octs_spec {n : Nat} (h : n < 2 ^ 40) : ∃ n0 ns, octs n = n0 :: ns ∧ contOk n0 ns ∧ ns.length ≤ 8 ∧ vGo (n0 % 64) ns = n := by
  have h2 : n < 64 ^ (6 + 1) := Nat.lt_trans h (by decide)
  have e : ∀ f m l, octGo (f + 1) m l = octGo (f + 1) m l := fun _ _ _ => rfl
  have key := octGo_spec n 6 n (octA n) [] h2 (octA_mod n) (by
    show Builtin.bitAnd _ 64 = 0
    rw [octA_64]; exact octA_last ⟨n % 64, Nat.mod_lt _ (by decide)⟩) rfl
  obtain ⟨b', r', e1, c, l, v⟩ := key
  refine ⟨b', r', ?_, c, by simpa using Nat.le_trans l (by decide), v⟩
  have more : ∀ (f : Nat) (m : Nat) (l : List Nat), m < 64 ^ (f + 1) → octGo (f + 1) m l = octGo f m l := by
    intro f
    induction f with
    | zero =>
      intro m l hm
      have h63 : ¬ 63 < m := Nat.not_lt_of_le (Nat.le_of_lt_succ hm)
      show (if 63 < m then octGo 0 (m / 64) (octB (m / 64) :: l) else l) = l
      rw [if_neg h63]
    | succ f ih =>
      intro m l hm
      by_cases hh : 63 < m
      · rw [octGo_step hh, octGo_step hh]
        exact ih _ _ (Nat.div_lt_of_lt_mul (by rw [Nat.pow_succ, Nat.mul_comm] at hm; exact hm))
      · rw [octGo, if_neg hh, octGo, if_neg hh]
  have b1 : n < 64 ^ (7 + 1) := Nat.lt_trans h (by decide)
  have b2 : n < 64 ^ (8 + 1) := Nat.lt_trans h (by decide)
  have b3 : n < 64 ^ (9 + 1) := Nat.lt_trans h (by decide)
  unfold octs
  rw [show (10 : Nat) = 9 + 1 from rfl, more 9 n _ b3, more 8 n _ b2, more 7 n _ b1, more 6 n _ h2]
  exact e1
end Mine
end
section
open PySem PySem.W PyProof.Rows PySem.Calls PySem.Spec
set_option Elab.async false
set_option maxRecDepth 100000
namespace Mine
noncomputable def wd (n : Nat) : List Nat := if n < 10 then ([[79, 80, 84, 73, 77, 73, 90, 69, 68], [78, 69, 87, 76, 79, 67, 65, 76, 83], [86, 65, 82, 65, 82, 71, 83], [86, 65, 82, 75, 69, 89, 87, 79, 82, 68, 83], [78, 69, 83, 84, 69, 68], [71, 69, 78, 69, 82, 65, 84, 79, 82], [78, 79, 70, 82, 69, 69], [67, 79, 82, 79, 85, 84, 73, 78, 69], [73, 84, 69, 82, 65, 66, 76, 69, 95, 67, 79, 82, 79, 85, 84, 73, 78, 69], [65, 83, 89, 78, 67, 95, 71, 69, 78, 69, 82, 65, 84, 79, 82]] : List (List Nat)).getD n []
  else 48 :: 120 :: ([49, 50, 52, 56] : List Nat).getD (n % 4) 0 :: List.replicate (n / 4) 48
theorem word_wd : ∀ n : Fin 33, (wordOf n).cps.toList = wd n := by decide +kernel
theorem name_word : ∀ n : Fin 32, flagName (flagI n) (baseText "0x" 16 (flagI n)) = wordOf n := by decide +kernel
theorem name_32 : baseText "0x" 16 ((2 ^ 32 : Nat) : Int) = wordOf 32 := by decide +kernel
theorem bit_mul (q i : Nat) : Builtin.bitAnd ((q * 2 ^ i : Nat) : Int) (flagI i) = ((q % 2 * 2 ^ i : Nat) : Int) := by
  rw [flagI_eq, kbt_bit]
  have hp : (0 : Int) < 2 ^ i := kbt_pos i
  have e : ((q * 2 ^ i : Nat) : Int) / 2 ^ i = (q : Int) := by
    push_cast
    exact Int.mul_ediv_cancel _ (Int.ne_of_gt hp)
  rw [e]
  push_cast
  rfl
theorem xor_mul {q i : Nat} (h : q % 2 = 1) : Builtin.bitXor ((q * 2 ^ i : Nat) : Int) (flagI i) = ((q / 2 * 2 ^ (i + 1) : Nat) : Int) := by
  rw [bitXor_and, bit_mul, h, flagI_eq, Nat.one_mul]
  have e : q = 2 * (q / 2) + 1 := by lia
  have e2 : (q * 2 ^ i : Nat) = 2 * (q / 2) * 2 ^ i + 2 ^ i := by
    conv => lhs; rw [e]
    rw [Nat.add_mul, Nat.one_mul]
  rw [e2, Nat.pow_succ]
  push_cast
  have e3 : (q / 2 : Nat) * (2 ^ i * 2 : Nat) = 2 * (q / 2) * 2 ^ i := by rw [Nat.mul_comm (2 ^ i) 2, ← Nat.mul_assoc, Nat.mul_comm (q / 2) 2]
  have e4 : ((q / 2 : Nat) : Int) * (2 ^ i * 2) = 2 * ((q / 2 : Nat) : Int) * 2 ^ i := by exact_mod_cast e3
  push_cast at e4
  lia
noncomputable def namesOf (c i q : Nat) : List Str := ((List.range (c + 1)).filter fun j => q.testBit j).map fun j => wordOf (i + j)
theorem namesOf_succ (c i q : Nat) : namesOf (c + 1) i q = (if q % 2 = 1 then [wordOf i] else []) ++ namesOf c (i + 1) (q / 2) := by
  unfold namesOf
  rw [List.range_succ_eq_map, List.filter_cons, List.filter_map]
  have e1 : ((fun j => q.testBit j) ∘ Nat.succ) = fun j => (q / 2).testBit j := by
    funext j
    show q.testBit (j + 1) = _
    rw [Nat.testBit_succ]
  have e2 : ((fun j => wordOf (i + j)) ∘ Nat.succ) = fun j => wordOf (i + 1 + j) := by
    funext j
    show wordOf (i + (j + 1)) = _
    rw [show i + (j + 1) = i + 1 + j by lia]
  have e0 : q.testBit 0 = decide (q % 2 = 1) := Nat.testBit_zero q
  by_cases h : q % 2 = 1
  · rw [e0]
    simp only [h, decide_true, if_true, List.map_cons, List.map_map, e1, e2, List.cons_append, List.nil_append, Nat.add_zero]
  · rw [e0]
    simp only [h, decide_false, if_false, List.map_map, e1, e2, List.nil_append, Bool.false_eq_true]
theorem namesOf_zero (c i : Nat) : namesOf c i 0 = [] := by
  unfold namesOf
  rw [List.filter_eq_nil_iff.mpr (fun j _ => by simp)]
  rfl
theorem pGo_spec : ∀ (c i q : Nat) (nm : List Str), i + c = 32 → 0 < q → q < 2 ^ (c + 1) → pGo c i ((q * 2 ^ i : Nat) : Int) nm = nm ++ namesOf c i q := by
  intro c
  induction c with
  | zero =>
    intro i q nm hi h0 h1
    obtain rfl : i = 32 := hi
    obtain rfl : q = 1 := by simp at h1; lia
    show nm ++ [baseText "0x" 16 ((1 * 2 ^ 32 : Nat) : Int)] = _
    rw [Nat.one_mul, name_32]
    rfl
  | succ c ih =>
    intro i q nm hi h0 h1
    have hi2 : i < 32 := by lia
    have nw := name_word ⟨i, hi2⟩
    dsimp only at nw
    have hp : 0 < 2 ^ i := Nat.pow_pos (by decide)
    have hsh : q % 2 = 0 → q * 2 ^ i = q / 2 * 2 ^ (i + 1) := fun h => by
      have e : q = q / 2 * 2 := by lia
      conv => lhs; rw [e]
      rw [Nat.pow_succ, Nat.mul_assoc, Nat.mul_comm 2 (2 ^ i)]
    rw [namesOf_succ]
    by_cases h : q % 2 = 1
    · have hb : Builtin.bitAnd ((q * 2 ^ i : Nat) : Int) (flagI i) ≠ 0 := by
        rw [bit_mul, h, Nat.one_mul]
        intro e
        have : (2 ^ i : Nat) = 0 := by exact_mod_cast e
        lia
      rw [pGo, if_pos hb, xor_mul h, nw, if_pos h]
      by_cases h2 : q / 2 = 0
      · rw [h2, Nat.zero_mul, if_neg (by simp), namesOf_zero, List.append_nil]
      · have hx : ((q / 2 * 2 ^ (i + 1) : Nat) : Int) ≠ 0 := by
          intro e
          have : q / 2 * 2 ^ (i + 1) = 0 := by exact_mod_cast e
          rcases Nat.mul_eq_zero.mp this with e | e
          · exact h2 e
          · exact absurd e (Nat.ne_of_gt (Nat.pow_pos (by decide)))
        rw [if_pos hx, ih (i + 1) (q / 2) _ (by lia) (by lia) (by rw [Nat.pow_succ] at h1; lia), List.append_assoc]
    · have hb : ¬ Builtin.bitAnd ((q * 2 ^ i : Nat) : Int) (flagI i) ≠ 0 := by
        rw [bit_mul, show q % 2 = 0 by lia, Nat.zero_mul]; exact fun e => e rfl
      rw [pGo, if_neg hb, if_neg h, List.nil_append, hsh (by lia)]
      exact ih (i + 1) (q / 2) nm (by lia) (by lia) (by rw [Nat.pow_succ] at h1; lia)
theorem pGo_skip : ∀ (k c i q : Nat) (nm : List Str), pGo (c + k) i ((q * 2 ^ (i + k) : Nat) : Int) nm = pGo c (i + k) ((q * 2 ^ (i + k) : Nat) : Int) nm := by
  intro k
  induction k with
  | zero => intro c i q nm; rfl
  | succ k ih =>
    intro c i q nm
    have e : q * 2 ^ (i + (k + 1)) = (q * 2 ^ (k + 1)) * 2 ^ i := by rw [Nat.pow_add, Nat.mul_assoc, Nat.mul_comm (2 ^ i)]
    have hb : ¬ Builtin.bitAnd ((q * 2 ^ (i + (k + 1)) : Nat) : Int) (flagI i) ≠ 0 := by
      rw [e, bit_mul, show q * 2 ^ (k + 1) % 2 = 0 by rw [Nat.pow_succ, ← Nat.mul_assoc]; lia, Nat.zero_mul]; exact fun e => e rfl
    rw [show c + (k + 1) = (c + k) + 1 by lia, pGo, if_neg hb]
    have := ih c (i + 1) q nm
    rw [show i + 1 + k = i + (k + 1) by lia] at this
    exact this
noncomputable def wordsOf (low m : Nat) : List Str := (bitsOf m).map fun j => wordOf (low + j)
theorem pretty_words {low m : Nat} (hl : low < 29) (h0 : 0 < m) (hm : m < 32) : pGo 32 0 ((m * 2 ^ low : Nat) : Int) [] = wordsOf low m := by
  have h := pGo_skip low (32 - low) 0 m []
  rw [show 32 - low + low = 32 by lia, Nat.zero_add] at h
  rw [h, pGo_spec (32 - low) low m [] (by lia) h0 (Nat.lt_of_lt_of_le hm (by
    have : 2 ^ 5 ≤ 2 ^ (32 - low + 1) := Nat.pow_le_pow_right (by decide) (by lia)
    exact this)), List.nil_append]
  unfold namesOf wordsOf bitsOf
  have hr : List.range (32 - low + 1) = List.range 5 ++ (List.range (32 - low + 1 - 5)).map (5 + ·) := by
    rw [← List.range_add]
    congr 1
    exact (Nat.add_sub_of_le (by lia)).symm
  have hz : (List.range (32 - low + 1 - 5)).filter ((fun j => m.testBit j) ∘ fun x => 5 + x) = [] := List.filter_eq_nil_iff.mpr (fun j _ => by
    show ¬ m.testBit (5 + j) = true
    rw [Nat.testBit_lt_two_pow (Nat.lt_of_lt_of_le hm (by
      have : 2 ^ 5 ≤ 2 ^ (5 + j) := Nat.pow_le_pow_right (by decide) (by lia)
      exact this))]
    decide)
  rw [hr, List.filter_append, List.filter_map, hz]
  rw [List.map_nil, List.append_nil]
end Mine
end
section
open PySem PySem.W PyProof.Rows PySem.Calls PySem.Spec
set_option Elab.async false
set_option maxRecDepth 100000
namespace Mine
noncomputable def J : List (List Nat) → List Nat
  | [] => []
  | [x] => x
  | x :: y :: r => x ++ 44 :: 32 :: J (y :: r)
theorem str_app (a b : Str) : (a ++ b).cps.toList = a.cps.toList ++ b.cps.toList := Array.toList_append
theorem str_ext {a b : Str} (h : a.cps.toList = b.cps.toList) : a = b := by
  cases a; cases b; exact congrArg Str.mk (Array.toList_inj.mp h)
theorem sep_cps : (Str.ofString ", ").cps.toList = [44, 32] := by decide +kernel
theorem col_cps : (Str.ofString ": ").cps.toList = [58, 32] := by decide +kernel
theorem join_cps0 : ∀ l : List Str, (Str.join (Str.ofString ", ") l).cps.toList = J (l.map fun x => x.cps.toList)
  | [] => rfl
  | [x] => rfl
  | x :: y :: r => by
    show (x ++ Str.ofString ", " ++ Str.join (Str.ofString ", ") (y :: r)).cps.toList = _
    rw [str_app, str_app, sep_cps, join_cps0 (y :: r), List.append_assoc]
    rfl
theorem join_cps (l : List Str) : (Txt.join (Str.ofString ", ") l).cps.toList = J (l.map fun x => x.cps.toList) := by
  show (Builtin.Str.glued (Str.ofString ", ") l).cps.toList = _
  rw [StrLaws.glued_eq_join, join_cps0]
theorem cut_one {z : Nat} : ∀ {a b r s : List Nat}, z ∉ a → z ∉ b → a ++ z :: r = b ++ z :: s → a = b ∧ r = s
  | [], [], r, s, _, _, h => by injection h with _ h; exact ⟨rfl, h⟩
  | [], y :: b, r, s, _, hb, h => by injection h with h _; exact absurd (h ▸ List.mem_cons_self ..) hb
  | x :: a, [], r, s, ha, _, h => by injection h with h _; exact absurd (h ▸ List.mem_cons_self ..) ha
  | x :: a, y :: b, r, s, ha, hb, h => by
    injection h with h1 h2
    obtain ⟨e1, e2⟩ := cut_one (fun h => ha (List.mem_cons_of_mem _ h)) (fun h => hb (List.mem_cons_of_mem _ h)) h2
    exact ⟨by rw [h1, e1], e2⟩
theorem no_cut {z : Nat} {a b s : List Nat} (ha : z ∉ a) (h : a = b ++ z :: s) : False := ha (h ▸ List.mem_append_right _ (List.mem_cons_self ..))
theorem J_inj : ∀ {a b : List (List Nat)}, (∀ x ∈ a, 44 ∉ x) → (∀ x ∈ b, 44 ∉ x) → a ≠ [] → b ≠ [] → J a = J b → a = b
  | [], _, _, _, h, _, _ => absurd rfl h
  | _, [], _, _, _, h, _ => absurd rfl h
  | [x], [y], _, _, _, _, h => by rw [show x = y from h]
  | [x], y :: y2 :: s, ha, hb, _, _, h => (no_cut (ha x (List.mem_cons_self ..)) h).elim
  | x :: x2 :: r, [y], ha, hb, _, _, h => (no_cut (hb y (List.mem_cons_self ..)) h.symm).elim
  | x :: x2 :: r, y :: y2 :: s, ha, hb, _, _, h => by
    obtain ⟨e1, e2⟩ := cut_one (ha x (List.mem_cons_self ..)) (hb y (List.mem_cons_self ..)) h
    injection e2 with _ e2
    rw [e1, J_inj (fun z hz => ha z (List.mem_cons_of_mem _ hz)) (fun z hz => hb z (List.mem_cons_of_mem _ hz)) (by simp) (by simp) e2]
theorem mem_J {z : Nat} (h1 : z ≠ 44) (h2 : z ≠ 32) : ∀ {l : List (List Nat)}, z ∈ J l → ∃ x ∈ l, z ∈ x
  | [], h => nomatch h
  | [x], h => ⟨x, List.mem_cons_self .., h⟩
  | x :: y :: r, h => by
    rcases List.mem_append.mp h with h | h
    · exact ⟨x, List.mem_cons_self .., h⟩
    · rcases List.mem_cons.mp h with h | h
      · exact absurd h h1
      · rcases List.mem_cons.mp h with h | h
        · exact absurd h h2
        · obtain ⟨w, hw, hz⟩ := mem_J h1 h2 h
          exact ⟨w, List.mem_cons_of_mem _ hw, hz⟩
theorem J_map {f : Nat → Nat} (h1 : f 44 = 44) (h2 : f 32 = 32) : ∀ l : List (List Nat), (J l).map f = J (l.map (List.map f))
  | [] => rfl
  | [x] => rfl
  | x :: y :: r => by
    show (x ++ 44 :: 32 :: J (y :: r)).map f = _
    rw [List.map_append, List.map_cons, List.map_cons, h1, h2, J_map h1 h2 (y :: r)]
    rfl
theorem J_len : ∀ {l : List (List Nat)} {k : Nat}, (∀ x ∈ l, x.length ≤ k) → (J l).length ≤ l.length * (k + 2)
  | [], _, _ => Nat.zero_le _
  | [x], k, h => by
    have := h x (List.mem_cons_self ..)
    show x.length ≤ 1 * (k + 2)
    lia
  | x :: y :: r, k, h => by
    have h1 := h x (List.mem_cons_self ..)
    have h2 := J_len (l := y :: r) (k := k) (fun z hz => h z (List.mem_cons_of_mem _ hz))
    show (x ++ 44 :: 32 :: J (y :: r)).length ≤ _
    rw [List.length_append, List.length_cons, List.length_cons]
    simp only [List.length_cons] at h2 ⊢
    rw [Nat.succ_mul (r.length + 1)]
    lia
noncomputable def sgOk (c : Nat) : Bool := decide (48 ≤ c) && !(c == 58) && !(c == 92) && decide (c < 127)
theorem sg_parts {c : Nat} (h : sgOk c = true) : 48 ≤ c ∧ c ≠ 58 ∧ c ≠ 92 ∧ c < 127 := by
  simp only [sgOk, Bool.and_eq_true, decide_eq_true_eq, Bool.not_eq_true', beq_eq_false_iff_ne] at h
  exact ⟨h.1.1.1, h.1.1.2, h.1.2, h.2⟩
theorem wd_ok : ∀ n : Fin 33, (wd n).all sgOk = true ∧ ((wd n).map lo1).all sgOk = true ∧ ((wd n).map up1).all sgOk = true ∧ (wd n).length ≤ 20 ∧ 2 ≤ (wd n).length := by decide +kernel
theorem wd_inj : ∀ i j : Fin 33, (wd i).map lo1 = (wd j).map lo1 → i = j := by decide +kernel
theorem lo_up (c : Nat) : lo1 (up1 c) = lo1 c := by
  unfold lo1 up1
  by_cases h : 97 ≤ c ∧ c ≤ 122
  · rw [if_pos h, if_pos (by lia), if_neg (by lia)]; lia
  · rw [if_neg h]
theorem lo_lo (c : Nat) : lo1 (lo1 c) = lo1 c := by
  unfold lo1
  by_cases h : 65 ≤ c ∧ c ≤ 90
  · rw [if_pos h, if_neg (by lia)]
  · rw [if_neg h, if_neg h]
theorem bits_inj : ∀ a b : Fin 32, bitsOf a = bitsOf b → a = b := by decide +kernel
theorem bits_ne : ∀ a : Fin 32, 0 < a.val → bitsOf a ≠ [] := by decide +kernel
theorem bits_len (a : Nat) : (bitsOf a).length ≤ 5 := by
  unfold bitsOf
  exact Nat.le_trans (List.length_filter_le _ _) (by decide)
noncomputable def tw (low m : Nat) : List (List Nat) := (bitsOf m).map fun j => wd (low + j)
theorem mem_bits {m j : Nat} (h : j ∈ bitsOf m) : j < 5 := List.mem_range.mp (List.mem_filter.mp h).1
theorem words_cps {low m : Nat} (hl : low < 29) : (wordsOf low m).map (fun x => x.cps.toList) = tw low m := by
  unfold wordsOf tw
  rw [List.map_map]
  refine List.map_congr_left fun j hj => ?_
  have := mem_bits hj
  exact word_wd ⟨low + j, by lia⟩
theorem tw_mem {low m : Nat} (hl : low < 29) {x : List Nat} (h : x ∈ tw low m) : ∃ n : Fin 33, x = wd n := by
  obtain ⟨j, hj, rfl⟩ := List.mem_map.mp h
  have := mem_bits hj
  exact ⟨⟨low + j, by lia⟩, rfl⟩
theorem tw_low {low m m' : Nat} (hl : low < 29) (hm : m < 32) (hm' : m' < 32) (h : (tw low m).map (List.map lo1) = (tw low m').map (List.map lo1)) : m = m' := by
  have e : bitsOf m = bitsOf m' := by
    unfold tw at h
    rw [List.map_map, List.map_map] at h
    have hb := fun (k : Nat) (hk : k ∈ bitsOf m) => mem_bits hk
    have hb' := fun (k : Nat) (hk : k ∈ bitsOf m') => mem_bits hk
    generalize bitsOf m = A at h hb
    generalize bitsOf m' = B at h hb'
    induction A generalizing B with
    | nil => cases B with | nil => rfl | cons _ _ => cases h
    | cons a A ih =>
      cases B with
      | nil => cases h
      | cons b B =>
        injection h with h1 h2
        have ha := hb a (List.mem_cons_self ..)
        have hb2 := hb' b (List.mem_cons_self ..)
        have := congrArg Fin.val (wd_inj ⟨low + a, by lia⟩ ⟨low + b, by lia⟩ h1)
        dsimp only at this
        rw [show a = b by lia, ih (fun k hk => hb k (List.mem_cons_of_mem _ hk)) B h2 (fun k hk => hb' k (List.mem_cons_of_mem _ hk))]
  exact congrArg Fin.val (bits_inj ⟨m, hm⟩ ⟨m', hm'⟩ e)
noncomputable def toldM (low m : Nat) : Str := Txt.join (Str.ofString ", ") (wordsOf low m)
theorem told_cps {low m : Nat} (hl : low < 29) : (toldM low m).cps.toList = J (tw low m) := by
  unfold toldM; rw [join_cps, words_cps hl]
theorem tw_sg {low m : Nat} (hl : low < 29) (f : Nat → Nat) (hf : ∀ n : Fin 33, ((wd n).map f).all sgOk = true) : ∀ x ∈ (tw low m).map (List.map f), ∀ c ∈ x, sgOk c = true := by
  intro x hx c hc
  obtain ⟨y, hy, rfl⟩ := List.mem_map.mp hx
  obtain ⟨n, rfl⟩ := tw_mem hl hy
  exact List.all_eq_true.mp (hf n) c hc
theorem id_sg : ∀ n : Fin 33, ((wd n).map id).all sgOk = true := fun n => by rw [List.map_id]; exact (wd_ok n).1
theorem no44 {l : List (List Nat)} (h : ∀ x ∈ l, ∀ c ∈ x, sgOk c = true) : ∀ x ∈ l, 44 ∉ x := fun x hx h2 => by have := sg_parts (h x hx 44 h2); lia
theorem no58 {l : List (List Nat)} (h : ∀ x ∈ l, ∀ c ∈ x, sgOk c = true) : 58 ∉ J l := fun h2 => by
  obtain ⟨x, hx, hz⟩ := mem_J (by decide) (by decide) h2
  exact (sg_parts (h x hx 58 hz)).2.1 rfl
theorem J_sg {l : List (List Nat)} (h : ∀ x ∈ l, ∀ c ∈ x, sgOk c = true) : ∀ c ∈ J l, c = 44 ∨ c = 32 ∨ sgOk c = true := fun c hc => by
  by_cases h1 : c = 44
  · exact .inl h1
  · by_cases h2 : c = 32
    · exact .inr (.inl h2)
    · obtain ⟨x, hx, hz⟩ := mem_J h1 h2 hc
      exact .inr (.inr (h x hx c hz))
end Mine
end
section
open PySem PySem.W PyProof.Rows PySem.Calls PySem.Spec
set_option Elab.async false
set_option maxRecDepth 100000
namespace Mine
noncomputable def Plain (x : Str) : Prop := ∀ c ∈ x.cps.toList, 32 ≤ c ∧ c < 127
theorem Plain.ascii {x : Str} (h : Plain x) : ∀ c ∈ x.cps.toList, c < 128 := fun c hc => Nat.lt_succ_of_lt (h c hc).2
theorem Plain.ok {x : Str} (h : Plain x) : okStr x := fun i hi => by
  have hm : x.cps.getD i 0 ∈ x.cps.toList := by
    rw [Array.getD_eq_getD_getElem?, Array.getElem?_eq_getElem hi]
    exact Array.getElem_mem_toList hi
  have := h _ hm
  unfold okC
  simp only [Bool.and_eq_true, decide_eq_true_eq, Bool.not_eq_true', beq_eq_false_iff_ne]
  lia
theorem Plain.strOk {x : Str} (h : Plain x) : PyData.strOk x = true := by
  unfold PyData.strOk
  rw [Array.all_eq_true]
  intro i hi
  have := (h _ (Array.getElem_mem_toList hi)).2
  exact decide_eq_true (Nat.lt_trans this (by decide))
theorem lo_plain {c : Nat} (h : 32 ≤ c ∧ c < 127) : 32 ≤ lo1 c ∧ lo1 c < 127 := by unfold lo1; split <;> lia
theorem up_plain {c : Nat} (h : 32 ≤ c ∧ c < 127) : 32 ≤ up1 c ∧ up1 c < 127 := by unfold up1; split <;> lia
theorem lower_cps {x : Str} (h : Plain x) : (Txt.lower x).cps.toList = x.cps.toList.map lo1 := by
  rw [lower_ascii h.ascii]; exact Array.toList_map ..
theorem upper_cps {x : Str} (h : Plain x) : (Txt.upper x).cps.toList = x.cps.toList.map up1 := by
  rw [upper_ascii h.ascii]; exact Array.toList_map ..
theorem Plain.lower {x : Str} (h : Plain x) : Plain (Txt.lower x) := fun c hc => by
  rw [lower_cps h] at hc
  obtain ⟨d, hd, rfl⟩ := List.mem_map.mp hc
  exact lo_plain (h d hd)
theorem Plain.upper {x : Str} (h : Plain x) : Plain (Txt.upper x) := fun c hc => by
  rw [upper_cps h] at hc
  obtain ⟨d, hd, rfl⟩ := List.mem_map.mp hc
  exact up_plain (h d hd)
theorem Plain.cased {x : Str} (h : Plain x) (up : Bool) : Plain (cased up x) := by
  unfold Mine.cased; split
  · exact h.upper
  · exact h.lower
theorem Plain.app {x y : Str} (h : Plain x) (g : Plain y) : Plain (x ++ y) := fun c hc => by
  rw [str_app] at hc
  exact (List.mem_append.mp hc).elim (h c) (g c)
theorem lower_cased {x : Str} (h : Plain x) (up : Bool) : Txt.lower (cased up x) = Txt.lower x := by
  refine str_ext ?_
  rw [lower_cps (h.cased up), lower_cps h]
  unfold cased
  split
  · rw [upper_cps h, List.map_map]; exact List.map_congr_left fun c _ => lo_up c
  · rw [lower_cps h, List.map_map]; exact List.map_congr_left fun c _ => lo_lo c
theorem str_len (x : Str) : x.length = x.cps.toList.length := by
  show x.cps.size = _
  rw [Array.length_toList]
theorem cased_len {x : Str} (h : Plain x) (up : Bool) : (cased up x).length = x.length := by
  rw [str_len, str_len]
  unfold cased
  split
  · rw [upper_cps h, List.length_map]
  · rw [lower_cps h, List.length_map]
theorem lower_len {x : Str} (h : Plain x) : (Txt.lower x).length = x.length := cased_len h false
theorem told_plain {low m : Nat} (hl : low < 29) : Plain (toldM low m) := fun c hc => by
  rw [told_cps hl] at hc
  have hs := tw_sg (m := m) hl id id_sg
  rw [show (tw low m).map (List.map id) = tw low m by simp] at hs
  rcases J_sg hs c hc with rfl | rfl | h
  · decide
  · decide
  · have := sg_parts h; lia
theorem word_plain {n : Nat} (h : n < 33) : Plain (wordOf n) := fun c hc => by
  rw [word_wd ⟨n, h⟩] at hc
  have := sg_parts (List.all_eq_true.mp (wd_ok ⟨n, h⟩).1 c hc)
  lia
theorem told_len {low m : Nat} (hl : low < 29) : (toldM low m).length ≤ 400 := by
  rw [str_len, told_cps hl]
  have h1 := J_len (l := tw low m) (k := 20) (fun x hx => by
    obtain ⟨n, rfl⟩ := tw_mem hl hx
    exact (wd_ok n).2.2.2.1)
  have h2 : (tw low m).length ≤ 5 := by unfold tw; rw [List.length_map]; exact bits_len m
  have h3 : (tw low m).length * 22 ≤ 5 * 22 := Nat.mul_le_mul_right _ h2
  lia
theorem tw_ne {low m : Nat} (h0 : 0 < m) (h : m < 32) (f : List Nat → List Nat) : (tw low m).map f ≠ [] := by
  unfold tw
  rw [List.map_map]
  intro e
  exact bits_ne ⟨m, h⟩ h0 (List.map_eq_nil_iff.mp e)
theorem lo_sg : ∀ n : Fin 33, ((wd n).map lo1).all sgOk = true := fun n => (wd_ok n).2.1
theorem told_low {low m : Nat} (hl : low < 29) : (toldM low m).cps.toList.map lo1 = J ((tw low m).map (List.map lo1)) := by
  rw [told_cps hl, J_map (by decide) (by decide)]
theorem low_inj {low a b : Nat} (hl : low < 29) (ha : 0 < a ∧ a < 32) (hb : 0 < b ∧ b < 32) (h : J ((tw low a).map (List.map lo1)) = J ((tw low b).map (List.map lo1))) : a = b :=
  tw_low hl ha.2 hb.2 (J_inj (no44 (tw_sg hl lo1 lo_sg)) (no44 (tw_sg hl lo1 lo_sg)) (tw_ne ha.1 ha.2 _) (tw_ne hb.1 hb.2 _) h)
theorem told_inj {low a b : Nat} (hl : low < 29) (ha : 0 < a ∧ a < 32) (hb : 0 < b ∧ b < 32) (h : toldM low a = toldM low b) : a = b := by
  refine low_inj hl ha hb ?_
  rw [← told_low hl, ← told_low hl, h]
theorem toldOf_eq {N : Nat → Nat} {low m i : Nat} (hl : low < 29) (hm : 0 < m ∧ m < 32) (h : N i = m * 2 ^ low) : toldOf N i = toldM low m := by
  unfold toldOf toldM
  rw [h, pretty_words hl hm.1 hm.2]
theorem round_ok {low : Nat} {M : List Nat} {Nn : Nat → Nat} {W : List Str} (hl : low < 29) (hW : ∀ z, z < 5 → W.getD z Str.empty = wordOf (low + z)) (hM : ∀ i, i < 5 → 0 < mkk M i ∧ mkk M i < 32) (hN : ∀ i, i < 5 → Nn i = mkk M i * 2 ^ low) : RoundOk W Nn M := by
  have T : ∀ i, i < 5 → toldOf Nn i = toldM low (mkk M i) := fun i hi => toldOf_eq hl (hM i hi) (hN i hi)
  have pc : Plain (Str.ofString ": ") := fun c hc => by
    rw [col_cps] at hc
    simp only [List.mem_cons, List.not_mem_nil, or_false] at hc
    lia
  have pt : ∀ i, i < 5 → Plain (toldOf Nn i) := fun i hi => by rw [T i hi]; exact told_plain hl
  have pn : ∀ i j, i < 5 → j < 5 → Plain (nmOf Nn i j) := fun i j hi hj => ((pt i hi).app pc).app (pt j hj)
  have tl : ∀ i, i < 5 → (toldOf Nn i).length ≤ 400 := fun i hi => by rw [T i hi]; exact told_len hl
  have nl : ∀ i j, i < 5 → j < 5 → (nmOf Nn i j).length < 2 ^ 20 := fun i j hi hj => Nat.lt_of_le_of_lt (nm_len (tl i hi) (tl j hj)) (by decide)
  have ncps : ∀ i j, i < 5 → j < 5 → (Txt.lower (nmOf Nn i j)).cps.toList = J ((tw low (mkk M i)).map (List.map lo1)) ++ 58 :: 32 :: J ((tw low (mkk M j)).map (List.map lo1)) := fun i j hi hj => by
    rw [lower_cps (pn i j hi hj)]
    unfold nmOf
    rw [str_app, str_app, col_cps, T i hi, T j hj, List.map_append, List.map_append, told_low hl, told_low hl, List.append_assoc]
    rfl
  have wp : ∀ z, z < 5 → Plain (W.getD z Str.empty) := fun z hz => by rw [hW z hz]; exact word_plain (by lia)
  have wl : ∀ z, z < 5 → (W.getD z Str.empty).length ≤ 20 := fun z hz => by
    rw [hW z hz, str_len, word_wd ⟨low + z, by lia⟩]
    exact (wd_ok _).2.2.2.1
  refine ⟨fun i j hi hj => ?_, fun i j i' j' hi hj hi' hj' h => ?_, fun up i j hi hj => lower_cased (pn i j hi hj) up, fun up i j hi hj => ⟨((pn i j hi hj).cased up).ok, by rw [cased_len (pn i j hi hj)]; exact nl i j hi hj⟩,
    fun i j hi hj => ⟨(pn i j hi hj).lower.ok, by rw [lower_len (pn i j hi hj)]; exact nl i j hi hj⟩, tl, fun i hi => (pt i hi).strOk, fun z hz => (wp z hz).lower.strOk, fun up i j hi hj => ((pn i j hi hj).cased up).strOk, fun z hz => ⟨(wp z hz).lower.ok, ?_, Nat.lt_of_le_of_lt (wl z hz) (by decide)⟩⟩
  · rw [T i hi, T j hj]
    exact ⟨told_inj hl (hM i hi) (hM j hj), fun h => by rw [h]⟩
  · have e := congrArg (fun x : Str => x.cps.toList) h
    try dsimp only at e
    rw [ncps i j hi hj, ncps i' j' hi' hj'] at e
    obtain ⟨e1, e2⟩ := cut_one (no58 (tw_sg hl lo1 lo_sg)) (no58 (tw_sg hl lo1 lo_sg)) e
    injection e2 with _ e2
    rw [T i hi, T j hj, T i' hi', T j' hj', low_inj hl (hM i hi) (hM i' hi') e1, low_inj hl (hM j hj) (hM j' hj') e2]
    exact ⟨rfl, rfl⟩
  · show (Txt.lower (W.getD z Str.empty)).length < 2 ^ 20
    rw [lower_len (wp z hz)]
    exact Nat.lt_of_le_of_lt (wl z hz) (by decide)
end Mine
end
section
namespace Mine
noncomputable def tokOk (c : Nat) : Prop := isWs c = false ∧ ¬ c = 34 ∧ ¬ c = 92
theorem tokP_word : ∀ (w acc r : List Nat), (∀ c ∈ w, tokOk c) → tokP acc (w ++ r) = tokP (acc ++ w) r
  | [], acc, r, _ => by rw [List.nil_append, List.append_nil]
  | c :: w, acc, r, h => by
    have hc := h c (List.mem_cons_self ..)
    rw [List.cons_append, tokP_cons, if_neg (by rw [hc.1]; decide), if_neg hc.2.2, tokP_word w _ r fun x hx => h x (List.mem_cons_of_mem _ hx), List.append_assoc]
    rfl
theorem tokQ_word : ∀ (w acc r : List Nat), (∀ c ∈ w, tokOk c) → tokQ acc (w ++ r) = tokQ (acc ++ w) r
  | [], acc, r, _ => by rw [List.nil_append, List.append_nil]
  | c :: w, acc, r, h => by
    have hc := h c (List.mem_cons_self ..)
    rw [List.cons_append, tokQ_cons, if_neg hc.2.1, if_neg hc.2.2, tokQ_word w _ r fun x hx => h x (List.mem_cons_of_mem _ hx), List.append_assoc]
    rfl
noncomputable def wr (a : List Nat) (z : Nat) : Nat → List Nat
  | 0 => a ++ [z, 32]
  | 1 => 34 :: (a ++ [92, z, 34])
  | _ => 92 :: (a ++ [92, z, 32])
theorem tok_wr {a : List Nat} {d z : Nat} {r : List Nat} (ha : ∀ c ∈ d :: a, tokOk c) (hz : tokOk z) : ∀ j, tokO (wr (d :: a) z j ++ r) = (d :: a ++ [z], r)
  | 0 => by
    have hd := ha d (List.mem_cons_self ..)
    show tokO (d :: (a ++ [z, 32] ++ r)) = _
    rw [tokO_cons, if_neg (by rw [hd.1]; decide), if_neg hd.2.1, if_neg hd.2.2, List.append_assoc, tokP_word a _ _ fun c hc => ha c (List.mem_cons_of_mem _ hc)]
    show tokP ([d] ++ a) (z :: 32 :: r) = _
    rw [tokP_cons, if_neg (by rw [hz.1]; decide), if_neg hz.2.2, tokP_cons, if_pos (by decide)]
    rfl
  | 1 => by
    show tokO (34 :: ((d :: a) ++ [92, z, 34] ++ r)) = _
    rw [tokO_cons, if_neg (by decide), if_pos rfl, List.append_assoc, tokQ_word (d :: a) _ _ ha]
    show tokQ ([] ++ (d :: a)) (92 :: z :: 34 :: r) = _
    rw [tokQ_cons, if_neg (by decide), if_pos rfl]
    show tokQ ([] ++ (d :: a) ++ [z]) (34 :: r) = _
    rw [tokQ_cons, if_pos rfl]
    rfl
  | j + 2 => by
    show tokO (92 :: d :: (a ++ [92, z, 32] ++ r)) = _
    rw [tokO_cons, if_neg (by decide), if_neg (by decide), if_pos rfl]
    show tokP [d] (a ++ [92, z, 32] ++ r) = _
    rw [List.append_assoc, tokP_word a _ _ fun c hc => ha c (List.mem_cons_of_mem _ hc)]
    show tokP ([d] ++ a) (92 :: z :: 32 :: r) = _
    rw [tokP_cons, if_neg (by decide), if_pos rfl]
    show tokP ([d] ++ a ++ [z]) (32 :: r) = _
    rw [tokP_cons, if_pos (by decide)]
    rfl
theorem tok_nl (r : List Nat) : tokO (10 :: r) = tokO r := by rw [tokO_cons, if_pos (by decide)]
theorem tok_end {w : List Nat} (h : ∀ c ∈ w, tokOk c) : tokO (10 :: 92 :: 10 :: (w ++ [92])) = (10 :: w, []) := by
  rw [tok_nl, tokO_cons, if_neg (by decide), if_neg (by decide), if_pos rfl]
  show tokP [10] (w ++ [92]) = _
  rw [tokP_word w _ _ h, tokP_cons, if_neg (by decide), if_pos rfl]
  rfl
end Mine
end
section
open PySem PySem.W PyProof.Rows PySem.Calls PySem.Spec
set_option Elab.async false
set_option maxRecDepth 100000
namespace Mine
theorem sg_tok {c : Nat} (h : sgOk c = true) : tokOk c := by
  have := sg_parts h
  refine ⟨?_, by lia, by lia⟩
  unfold isWs
  simp only [Bool.or_eq_false_iff, beq_eq_false_iff_ne]
  lia
theorem written_wr : ∀ (n : Fin 33) (j : Fin 3), (written (wordOf n) j).cps.toList = wr (wd n).dropLast ((wd n).getLastD 0) j := by decide +kernel
theorem wd_split : ∀ n : Fin 33, ∃ d a z, wd n = d :: a ++ [z] ∧ (wd n).dropLast = d :: a ∧ (wd n).getLastD 0 = z := fun n => by
  have h2 := (wd_ok n).2.2.2.2
  generalize wd n = l at h2
  match l, h2 with
  | d :: b :: r, _ =>
    have hne : b :: r ≠ [] := by simp
    refine ⟨d, (b :: r).dropLast, (b :: r).getLast hne, ?_, rfl, rfl⟩
    rw [List.cons_append, List.dropLast_concat_getLast]
theorem read_word {n : Nat} (h : n < 33) {j : Nat} (hj : j < 3) (r : List Nat) : tokO ((written (wordOf n) j).cps.toList ++ r) = ((wordOf n).cps.toList, r) := by
  rw [written_wr ⟨n, h⟩ ⟨j, hj⟩, word_wd ⟨n, h⟩]
  obtain ⟨d, a, z, e, e1, e2⟩ := wd_split ⟨n, h⟩
  have ok := fun c hc => sg_tok (List.all_eq_true.mp (wd_ok ⟨n, h⟩).1 c hc)
  rw [e] at ok
  dsimp only at e1 e2 e
  rw [e1, e2, e]
  exact tok_wr (fun c hc => ok c (List.mem_append_left _ hc)) (ok z (List.mem_append_right _ (List.mem_cons_self ..))) j
theorem word_tok {n : Nat} (h : n < 33) : ∀ c ∈ (wordOf n).cps.toList, tokOk c := by
  rw [word_wd ⟨n, h⟩]
  exact fun c hc => sg_tok (List.all_eq_true.mp (wd_ok ⟨n, h⟩).1 c hc)
end Mine
end
section
open PySem PySem.W PyProof.Rows PySem.Calls PySem.Spec
set_option Elab.async false
set_option maxRecDepth 100000
namespace Mine
noncomputable def octStr (n : Nat) : Str := ⟨(octs n).toArray⟩
noncomputable def bookKv (St : List Nat) (S : Nat → Str) (N : Nat → Nat) : List (Str × Str) := St.map fun k => (S k, octStr (N k))
noncomputable def upd {α : Type} (f : Nat → α) (k : Nat) (v : α) : Nat → α := fun i => if i = k then v else f i
theorem upd_eq {α : Type} {f : Nat → α} {k : Nat} {v : α} : upd f k v k = v := if_pos rfl
theorem upd_ne {α : Type} {f : Nat → α} {k i : Nat} {v : α} (h : i ≠ k) : upd f k v i = f i := if_neg h
structure Spells (St : List Nat) (S lw : Nat → Str) : Prop where
  low : ∀ k ∈ St, Txt.lower (S k) = lw k
  lt : ∀ k ∈ St, k < 5
  inj : ∀ i j, i < 5 → j < 5 → lw i = lw j → i = j
theorem hget_book {St : List Nat} {S lw : Nat → Str} {N : Nat → Nat} (h : Spells St S lw) {j : Nat} (hj : j ∈ St) : hget (bookKv St S N) (lw j) = some (octStr (N j)) := by
  have h5 := h.lt j hj
  unfold hget bookKv
  rw [List.find?_map, Option.map_map]
  have e : St.find? ((fun kv : Str × Str => Txt.lower kv.1 == lw j) ∘ fun k => (S k, octStr (N k))) = some j := by
    have hp : ∀ k ∈ St, ((fun kv : Str × Str => Txt.lower kv.1 == lw j) ∘ fun k => (S k, octStr (N k))) k = (k == j) := by
      intro k hk
      show (Txt.lower (S k) == lw j) = _
      rw [h.low k hk, Bool.eq_iff_iff, beq_iff_eq, beq_iff_eq]
      exact ⟨h.inj k j (h.lt k hk) h5, fun e => by rw [e]⟩
    generalize ((fun kv : Str × Str => Txt.lower kv.1 == lw j) ∘ fun k => (S k, octStr (N k))) = q at hp
    clear h
    induction St with
    | nil => cases hj
    | cons a r ih =>
      by_cases ha : a = j
      · subst ha
        rw [List.find?_cons_of_pos (by rw [hp a (List.mem_cons_self ..), beq_self_eq_true])]
      · rw [List.find?_cons_of_neg (by rw [hp a (List.mem_cons_self ..)]; simpa using ha)]
        rcases List.mem_cons.mp hj with e | hj
        · exact absurd e.symm ha
        · exact ih hj fun k hk => hp k (List.mem_cons_of_mem _ hk)
  rw [e]
  rfl
theorem book_put {St : List Nat} {S lw : Nat → Str} {N : Nat → Nat} (h : Spells St S lw) {k b : Nat} {x : Str} (hk : k < 5) (hx : Txt.lower x = lw k) :
    (bookKv St S N).filter (fun kv => Txt.lower kv.1 != Txt.lower x) ++ [(x, octStr b)] = bookKv (St.filter (fun i => i != k) ++ [k]) (upd S k x) (upd N k b) := by
  unfold bookKv
  rw [List.map_append, List.filter_map]
  congr 1
  · have e : St.filter ((fun kv : Str × Str => Txt.lower kv.1 != Txt.lower x) ∘ fun k => (S k, octStr (N k))) = St.filter fun i => i != k := by
      refine List.filter_congr fun i hi => ?_
      show (Txt.lower (S i) != Txt.lower x) = _
      rw [h.low i hi, hx, Bool.eq_iff_iff, bne_iff_ne, bne_iff_ne]
      exact not_congr ⟨h.inj i k (h.lt i hi) hk, fun e => by rw [e]⟩
    rw [e]
    refine List.map_congr_left fun i hi => ?_
    have hne : i ≠ k := by
      have := (List.mem_filter.mp hi).2
      exact bne_iff_ne.mp this
    rw [upd_ne hne, upd_ne hne]
  · show _ = [(upd S k x k, octStr (upd N k b k))]
    rw [upd_eq, upd_eq]
theorem Spells.put {St : List Nat} {S lw : Nat → Str} (h : Spells St S lw) {k : Nat} {x : Str} (hk : k < 5) (hx : Txt.lower x = lw k) : Spells (St.filter (fun i => i != k) ++ [k]) (upd S k x) lw := by
  refine ⟨fun i hi => ?_, fun i hi => ?_, h.inj⟩
  · by_cases e : i = k
    · subst e; rw [upd_eq]; exact hx
    · rw [upd_ne e]
      rcases List.mem_append.mp hi with hi | hi
      · exact h.low i (List.mem_filter.mp hi).1
      · exact absurd (List.mem_singleton.mp hi) e
  · rcases List.mem_append.mp hi with hi | hi
    · exact h.lt i (List.mem_filter.mp hi).1
    · rw [List.mem_singleton.mp hi]; exact hk
theorem tells_book {St : List Nat} {S lw : Nat → Str} {N : Nat → Nat} {W : List Str} (h : Spells St S lw) (all : ∀ j, j < 5 → j ∈ St) (hlen : W.length = 5) (hW : ∀ (j : Nat) (x : Str), W[j]? = some x → Txt.lower x = lw j ∧ Plain x ∧ x.length < 2 ^ 20)
    (hS : ∀ k ∈ St, Plain (S k) ∧ (S k).length < 2 ^ 20) (hN : ∀ j, j < 5 → N j < 2 ^ 40) : Tells5 (bookKv St S N) W N := by
  refine ⟨hlen, fun j x hx => ?_, fun kv hkv => ?_, fun j x hx => ?_, hN⟩
  · obtain ⟨_, hp, hl⟩ := hW j x hx
    exact ⟨hp.lower.ok, by rw [lower_len hp]; exact hl, hl⟩
  · obtain ⟨k, hk, rfl⟩ := List.mem_map.mp hkv
    obtain ⟨hp, hl⟩ := hS k hk
    exact ⟨by rw [lower_len hp]; exact hl, hl⟩
  · have hj : j < 5 := by
      have := (List.getElem?_eq_some_iff.mp hx).1
      lia
    obtain ⟨n0, ns, e, c, l, v⟩ := octs_spec (hN j hj)
    refine ⟨n0, ns, ?_, c, l, v⟩
    rw [(hW j x hx).1, hget_book h (all j hj)]
    unfold octStr
    rw [e]
end Mine
end
section
open PySem PySem.W PyProof.Rows PySem.Calls PySem.Spec
set_option Elab.async false
set_option maxRecDepth 100000
set_option maxHeartbeats 0
namespace Mine
noncomputable def lawDef : List Stmt × Scope := match PP.main.body.getLast? with
  | some (.FunctionDef _ _ b _ _ _ sc _ _ _) => (b, sc)
  | _ => ([], { kind := .function, names := [], isGenerator := false, isCoroutine := false, more := [] })
noncomputable abbrev lawSc : Scope := lawDef.2
noncomputable def seg (i n : Nat) : List Stmt := (lawDef.1.drop i).take n
noncomputable abbrev lawCl (L : Addr) : List (Str × Addr) := cellsFrom (L + 1) lawSc.names []
noncomputable abbrev lawEnv (cn : Str) (L a : Addr) (ccd : Value) : Env := envX cn lawSc L a ccd (lawCl L)
noncomputable abbrev lawA (dp un : Nat) (gd : Option (List Code)) (cn : Str) (L a : Addr) (ccd : Value) : Around := ktrTop dp un gd cn lawSc L a ccd (lawCl L) []
noncomputable def upS (m : Str → Option Value) (y : Str) (v : Value) : Str → Option Value := fun z => if z = y then some v else m z
theorem upS_eq {m : Str → Option Value} {y : Str} {v : Value} : upS m y v y = some v := if_pos rfl
theorem upS_ne {m : Str → Option Value} {y z : Str} {v : Value} (h : z ≠ y) : upS m y v z = m z := if_neg h
theorem cells_at {cm : Str → Option Value} {cs : List (Str × Addr)} {CK : Led} (H : CellsAre cm cs CK) : ∀ {y : Str} {c : Addr}, cs.lookup y = some c → ∃ o, (c, o) ∈ CK ∧ o.data = .cell (cm y) := by
  induction H with
  | nil => intro y c h; cases h
  | @cons n _ _ _ _ hd _ ih =>
    intro y c h
    rw [List.lookup_cons] at h
    cases hb : y == n with
    | true => rw [hb] at h; cases h; rw [eq_of_beq hb]; exact ⟨_, .head _, hd⟩
    | false =>
      rw [hb] at h
      obtain ⟨o, m, d⟩ := ih h
      exact ⟨o, .tail _ m, d⟩
theorem cells_adr {cm : Str → Option Value} {cs : List (Str × Addr)} {CK : Led} (H : CellsAre cm cs CK) : CK.map (·.1) = cs.map (·.2) := by
  induction H with
  | nil => rfl
  | cons _ _ ih => rw [List.map_cons, List.map_cons, ih]
theorem cells_data {cm : Str → Option Value} {cs : List (Str × Addr)} {CK : Led} (H : CellsAre cm cs CK) : ∀ p ∈ CK, ∃ v, p.2.data = .cell v := by
  induction H with
  | nil => exact fun _ h => nomatch h
  | cons hd _ ih => exact List.forall_mem_cons.mpr ⟨⟨_, hd⟩, ih⟩
theorem cells_off {c : Addr} : ∀ {CK : Led}, c ∉ CK.map (·.1) → ∀ p ∈ CK, p.1 ≠ c := fun h p hp e => h (List.mem_map.mpr ⟨p, hp, e⟩)
theorem mem_of_lookup {y : Str} {c : Addr} {cs : List (Str × Addr)} : cs.lookup y = some c → (y, c) ∈ cs := by
  induction cs with
  | nil => intro h; cases h
  | cons q cs ih =>
    intro h
    rw [List.lookup_cons] at h
    cases hb : y == q.1 with
    | true => rw [hb] at h; cases h; rw [eq_of_beq hb]; exact .head _
    | false => rw [hb] at h; exact .tail _ (ih h)
theorem cells_keep {cm : Str → Option Value} {y : Str} {v : Value} {cs : List (Str × Addr)} {ck : Led} (H : CellsAre cm cs ck) : y ∉ cs.map (·.1) → CellsAre (upS cm y v) cs ck := by
  induction H with
  | nil => exact fun _ => .nil
  | cons hd r ih => intro hn; exact .cons (by rw [upS_ne (fun e => hn (by rw [List.map_cons, ← e]; exact .head _))]; exact hd) (ih fun h => hn (by rw [List.map_cons]; exact .tail _ h))
theorem cells_set {cm : Str → Option Value} {h₀ h h' : Heap} {L : Addr} {y : Str} {v : Value} {c : Addr} (hs : Heap.SameBut c h h') (hv : h'.IsCell c (some v)) {cs : List (Str × Addr)} {CK : Led} (H : CellsAre cm cs CK) : (cs.map (·.1)).Nodup → (cs.map (·.2)).Nodup → cs.lookup y = some c → News h₀ L h CK →
    ∃ CK', CellsAre (upS cm y v) cs CK' ∧ News h₀ L h' CK' := by
  induction H with
  | nil => intro _ _ h; cases h
  | @cons n c1 o1 cs ck hd r ih =>
    intro n1 n2 hl N
    rw [List.map_cons, List.nodup_cons] at n1 n2
    rw [List.lookup_cons] at hl
    cases hb : y == n with
    | true =>
      rw [hb] at hl; cases hl
      obtain ⟨o', g', d'⟩ := hv
      obtain rfl := eq_of_beq hb
      refine ⟨(c, o') :: ck, .cons (by rw [upS_eq]; exact d') (cells_keep r n1.1), news_put g' (N _ (.head _)).2 fun p hp => ?_⟩
      have q := N p (.tail _ hp)
      exact ⟨(hs.2 p.1 (cells_off (c := c) (by rw [cells_adr r]; exact n2.1) p hp)).trans q.1, q.2⟩
    | false =>
      rw [hb] at hl
      obtain ⟨CK', C', N'⟩ := ih n1.2 n2.2 hl fun p hp => N p (.tail _ hp)
      have q := N (c1, o1) (.head _)
      exact ⟨(c1, o1) :: CK', .cons (by rw [upS_ne (fun e => by rw [e, beq_self_eq_true] at hb; cases hb)]; exact hd) C', news_put ((hs.2 c1 (fun e => n2.1 (e ▸ List.mem_map.mpr ⟨_, mem_of_lookup hl, rfl⟩))).trans q.1) q.2 N'⟩
noncomputable def NoCell (o : Obj) : Prop := ∀ v, o.data ≠ .cell v
theorem nc_seq {c : Value} {d : Option Addr} {xs : Array Value} {n : Nat} {sl : Array (Option Value)} : NoCell ⟨c, d, .seq xs n, sl⟩ := fun _ h => by cases h
noncomputable def Safe (cs : List (Str × Addr)) (p : Addr × Obj) : Prop := NoCell p.2 ∨ p.1 ∉ cs.map (·.2)
theorem safe_seq {cs : List (Str × Addr)} {x : Addr} {c : Value} {d : Option Addr} {xs : Array Value} {n : Nat} {sl : Array (Option Value)} : Safe cs (x, ⟨c, d, .seq xs n, sl⟩) := .inl nc_seq
theorem safe_off {cm : Str → Option Value} {cs : List (Str × Addr)} {CK news : Led} {I : Addr} {it : Obj} (h : ∀ p ∈ news, p.1 ≠ I) (hs : ∀ p ∈ CK, p ∈ news) (HC : CellsAre cm cs CK) : Safe cs (I, it) := .inr fun hx => by
  rw [← cells_adr HC] at hx
  obtain ⟨p, hp, e⟩ := List.mem_map.mp hx
  exact h p (hs p hp) e
theorem nc_none {cs : List (Str × Addr)} : ∀ p ∈ ([] : Led), Safe cs p := fun _ h => nomatch h
theorem nc_cons {cs : List (Str × Addr)} {p : Addr × Obj} {l : Led} (h : Safe cs p) (h2 : ∀ q ∈ l, Safe cs q) : ∀ q ∈ p :: l, Safe cs q := fun q hp => by
  rcases List.mem_cons.mp hp with rfl | hp
  · exact h
  · exact h2 q hp
noncomputable def isSeq (o : Obj) : Bool := match o.data with
  | .seq _ _ => true
  | _ => false
theorem nc_all {cs : List (Str × Addr)} {l : Led} (h : l.all (fun p => isSeq p.2) = true) : ∀ p ∈ l, Safe cs p := fun p hp => .inl fun v hv => by
  have q : isSeq p.2 = true := List.all_eq_true.mp h p hp
  unfold isSeq at q
  rw [hv] at q
  cases q
inductive Split : Led → Led → Led → Led → Prop
  | mk {own CK R : Led} : Split (own ++ (CK ++ R)) own CK R
theorem Split.here {CK R : Led} : Split (CK ++ R) [] CK R := .mk (own := [])
theorem Split.cons {p : Addr × Obj} {led own CK R : Led} : Split led own CK R → Split (p :: led) (p :: own) CK R
  | .mk => .mk (own := p :: own)
theorem lawCl_n1 (L : Addr) : ((lawCl L).map (·.1)).Nodup := by
  show (["groups", "labels", "great", "merged", "numbers", "both", "sized", "book", "line", "words", "low", "cells", "t", "fixed", "script"].map Str.ofString).Nodup
  decide +kernel
theorem lawCl_n2 (L : Addr) : ((lawCl L).map (·.2)).Nodup := by
  show ([14, 13, 12, 11, 10, 9, 8, 7, 6, 5, 4, 3, 2, 1, 0].map fun i => L + 1 + i).Nodup
  exact List.Pairwise.map _ (fun a b h e => h (Nat.add_left_cancel e)) (by decide : ([14, 13, 12, 11, 10, 9, 8, 7, 6, 5, 4, 3, 2, 1, 0] : List Nat).Nodup)
theorem lawCl_lt (L : Addr) : ∀ x ∈ (lawCl L).map (·.2), @LT.lt Nat _ L x := by
  show ∀ x ∈ ([14, 13, 12, 11, 10, 9, 8, 7, 6, 5, 4, 3, 2, 1, 0].map fun i => L + 1 + i), @LT.lt Nat _ L x
  intro x hx
  obtain ⟨i, _, rfl⟩ := List.mem_map.mp hx
  exact Nat.lt_of_lt_of_le (Nat.lt_succ_self L) (Nat.le_add_right _ i)
noncomputable def OffL (L x : Addr) : Prop := x ≠ 290 ∧ x ∉ (lawCl L).map (·.2)
set_option genInjectivity false in
set_option genSizeOf false in
structure Dat1 where
  (fl pa ca : Addr)
  (fvs cvs : List Value)
  (kf n2 ck : Nat)
  (u1 u2 : Tok)
  (fs : List Fact)
  (pr : Nat × Nat)
  (low : Nat)
  (xs : List Int)
theorem offs_tab {L : Addr} {tb : Obj} {R : Led} (hL : 290 < L) (hR : ∀ p ∈ R, OffL L p.1) : ∀ p ∈ (290, tb) :: R, p.1 ∉ (lawCl L).map (·.2) := fun p hp => by
  rcases List.mem_cons.mp hp with rfl | hp
  · exact fun h => Nat.lt_asymm hL (lawCl_lt L 290 h)
  · exact (hR p hp).2
structure Ok1 (d : Dat1) (R : Led) : Prop where
  mfl : (d.fl, listOf d.fvs.toArray d.kf) ∈ R
  FI : FactsIn R d.fvs d.fs
  h4 : d.fs.length = 4
  hsm : Small d.fs
  mpa : (d.pa, tup2 d.pr d.u1 d.u2 d.n2) ∈ R
  hp : d.pr.1 < 5 ∧ d.pr.2 < 5
  hlow : d.low < 29
  mca : (d.ca, listOf d.cvs.toArray d.ck) ∈ R
  hxs : IntsAre d.cvs d.xs
  hx5 : d.xs.length = 5
theorem Ok1.mono {d : Dat1} {R R' : Led} (h : Ok1 d R) (s : ∀ p ∈ R, p ∈ R') : Ok1 d R' := ⟨s _ h.mfl, h.FI.mono s, h.h4, h.hsm, s _ h.mpa, h.hp, h.hlow, s _ h.mca, h.hxs, h.hx5⟩
noncomputable def St1 (h₀ : Heap) (L : Addr) (h : Heap) (m cm : Str → Option Value) (R : Led) : Prop :=
  Fr h₀ L h m ∧ (∃ CK, News h₀ L h (CK ++ (290, tabObj #[]) :: R) ∧ CellsAre cm (lawCl L) CK) ∧ (∀ p ∈ R, OffL L p.1)
noncomputable def St2 (h₀ : Heap) (L : Addr) (h : Heap) (m cm : Str → Option Value) (R : Led) : Prop :=
  Fr h₀ L h m ∧ (∃ CK, News h₀ L h (CK ++ R) ∧ CellsAre cm (lawCl L) CK) ∧ (∀ p ∈ R, p.1 ∉ (lawCl L).map (·.2))
section
variable {M : Model} {A : Around} {E : Value → Shared → Prop} {s : Shared} {h₀ : Heap} {m cm : Str → Option Value} {env : Env} {CK : Led}
theorem hd_gen {h : Heap} {L x : Addr} {vs : List Value} {k : Nat} {R : Led} (N : News h₀ L h ((x, listOf (List.toArray vs) k) :: R)) : ∃ fv, fv = vs ∧ News h₀ L h ((x, listOf (List.toArray fv) k) :: R) := ⟨vs, rfl, N⟩
theorem drop2 {h : Heap} {L : Addr} {a b : Addr × Obj} {R : Led} (N : News h₀ L h (a :: b :: R)) : News h₀ L h (a :: R) := fun p hp => N p (by
  rcases List.mem_cons.mp hp with rfl | hp
  · exact .head _
  · exact .tail _ (.tail _ hp))
theorem news_in {h : Heap} {L : Addr} {a t : Addr × Obj} {CK R : Led} (N : News h₀ L h (a :: (CK ++ t :: R))) : News h₀ L h (CK ++ t :: (a :: R)) := fun p hp => N p (by
  rcases List.mem_append.mp hp with hp | hp
  · exact .tail _ (List.mem_append_left _ hp)
  · rcases List.mem_cons.mp hp with rfl | hp
    · exact .tail _ (List.mem_append_right _ (.head _))
    · rcases List.mem_cons.mp hp with rfl | hp
      · exact .head _
      · exact .tail _ (List.mem_append_right _ (.tail _ hp)))
theorem load_ck {y : Str} {v : Value} {L : Addr} {news : Led} {Q : Value → Shared → Prop} (hk : env.scope.kind = .function) (hx : env.kindOf y = some .cell) (hc : (env.cells.lookup y).isSome = true) (N : News h₀ L s.heap news) (HC : CellsAre cm env.cells CK) (hs : ∀ p ∈ CK, p ∈ news) (hv : cm y = some v) (h : Q v s) : wpAny M A (loadName env y) Q E s := by
  obtain ⟨c, hc⟩ := Option.isSome_iff_exists.mp hc
  obtain ⟨o, hm, hd⟩ := cells_at HC hc
  exact wpAny_loadName_cell hk hx hc ⟨o, (N _ (hs _ hm)).1, hd.trans (by rw [hv])⟩ h
theorem name_ck {y : Str} {v : Value} {L : Addr} {pos : Pos} {news : Led} {Q : Value → Shared → Prop} (hk : env.scope.kind = .function) (hx : env.kindOf y = some .cell) (hb : (y == ("__debug__" : Str)) = false) (hc : (env.cells.lookup y).isSome = true)
    (N : News h₀ L s.heap news) (HC : CellsAre cm env.cells CK) (hs : ∀ p ∈ CK, p ∈ news) (hv : cm y = some v) (h : Q v s) : wpAny M A (eval (.Name y pos) env) Q E s :=
  wpAny_Name (load_ck hk hx hc N HC hs hv h) hb
theorem store_ck {y : Str} {v : Value} {L : Addr} {cs : List (Str × Addr)} {own R led : Led} {Q : Unit → Shared → Prop} (hk : env.scope.kind = .function) (hx : env.kindOf y = some .cell) (hc : (env.cells.lookup y).isSome = true) (F : Fr h₀ L s.heap m) (N : News h₀ L s.heap led) (S : Split led own CK R) (HC : CellsAre cm cs CK)
    (off1 : ∀ p ∈ own, Safe cs p) (n1 : (cs.map (·.1)).Nodup) (n2 : (cs.map (·.2)).Nodup) (e1 : env.locals = L) (e2 : env.cells = cs) (offR : ∀ p ∈ R, p.1 ∉ cs.map (·.2))
    (h : ∀ h' CK', Fr h₀ L h' m → News h₀ L h' (own ++ (CK' ++ R)) → CellsAre (upS cm y v) cs CK' → Q () { s with heap := h' }) : wpAny M A (storeName env y v) Q E s := by
  subst e1 e2
  cases S
  obtain ⟨c, hc⟩ := Option.isSome_iff_exists.mp hc
  obtain ⟨o, hm, hd⟩ := cells_at HC hc
  have g := N _ (List.mem_append_right _ (List.mem_append_left _ hm))
  refine wpAny_storeName_cell hk hx hc ⟨o, g.1, hd⟩ fun h' hv hs => ?_
  obtain ⟨CK', C', N'⟩ := cells_set hs hv HC n1 n2 hc fun p hp => N p (List.mem_append_right _ (List.mem_append_left _ hp))
  have hcm : c ∈ env.cells.map (·.2) := by
    rw [← cells_adr HC]
    exact List.mem_map.mpr ⟨_, hm, rfl⟩
  refine h h' CK' (F.change hs g.2.1 g.2.2) (fun p hp => ?_) C'
  rcases List.mem_append.mp hp with hp | hp
  · have q := N p (List.mem_append_left _ hp)
    exact ⟨(hs.2 p.1 (fun e => (off1 p hp).elim (fun o1 => o1 _ (by rw [← hd]; exact congrArg Obj.data (Option.some.inj (q.1.symm.trans (e ▸ g.1))))) fun o1 => o1 (e ▸ hcm))).trans q.1, q.2⟩
  · rcases List.mem_append.mp hp with hp | hp
    · exact N' p hp
    · have q := N p (List.mem_append_right _ (List.mem_append_right _ hp))
      exact ⟨(hs.2 p.1 (fun e => offR p hp (e ▸ hcm))).trans q.1, q.2⟩
theorem sub_appL {α : Type} {a r : List α} : ∀ p ∈ a, p ∈ a ++ r := fun _ h => List.mem_append_left _ h
theorem off_cells {h : Heap} {L x : Addr} {cs : List (Str × Addr)} {o : Obj} {news : Led} (N : News h₀ L h news) (hx : (x, o) ∈ news) (hs : ∀ p ∈ CK, p ∈ news) (HC : CellsAre cm cs CK) (hn : NoCell o) : x ∉ cs.map (·.2) := fun h => by
  rw [← cells_adr HC] at h
  obtain ⟨p, hp, e⟩ := List.mem_map.mp h
  have g := (N p (hs p hp)).1
  rw [e] at g
  have e2 := Option.some.inj (g.symm.trans (N _ hx).1)
  obtain ⟨v, hv⟩ := cells_data HC p hp
  exact hn v (by rw [← hv]; exact congrArg Obj.data e2.symm)
theorem off_L {h : Heap} {L x : Addr} {o tb : Obj} {news : Led} (N : News h₀ L h news) (hx : (x, o) ∈ news) (ht : (290, tb) ∈ news) (hs : ∀ p ∈ CK, p ∈ news) (HC : CellsAre cm (lawCl L) CK) (hn : NoCell o) (hc : o.cls ≠ tb.cls) : OffL L x :=
  ⟨fun e => hc (congrArg Obj.cls (Option.some.inj ((N _ hx).1.symm.trans (e ▸ (N _ ht).1)))), off_cells N hx hs HC hn⟩
theorem off_fresh {L x : Addr} {tb : Obj} {news : Led} (h : ∀ p ∈ news, p.1 < x) (ht : (290, tb) ∈ news) (hs : ∀ p ∈ CK, p ∈ news) (HC : CellsAre cm (lawCl L) CK) : OffL L x :=
  ⟨Nat.ne_of_gt (h _ ht), fun hx => by
    rw [← cells_adr HC] at hx
    obtain ⟨p, hp, e⟩ := List.mem_map.mp hx
    exact Nat.lt_irrefl _ (e ▸ h p (hs p hp))⟩
theorem off_swap {cm2 : Str → Option Value} {CK2 X : Led} {I : Addr} {cs : List (Str × Addr)} (h : ∀ p ∈ CK ++ X, p.1 ≠ I) (HC : CellsAre cm cs CK) (HC2 : CellsAre cm2 cs CK2) : ∀ p ∈ CK2 ++ X, p.1 ≠ I := fun p hp e => by
  rcases List.mem_append.mp hp with hp | hp
  · have : p.1 ∈ CK.map (·.1) := by rw [cells_adr HC, ← cells_adr HC2]; exact List.mem_map.mpr ⟨p, hp, rfl⟩
    obtain ⟨q, hq, e2⟩ := List.mem_map.mp this
    exact h q (List.mem_append_left _ hq) (e2.trans e)
  · exact h p (List.mem_append_right _ hp) e
theorem comp_GL {prog : Program} {w : World} {hp : Heap} {tk0 : Tok} {news₀ src : Led} {n : Nat} {P : Nat → Value → Prop} {elt target iter : Expr} {ifs : List Expr} {scope : Scope} {cl : List (Str × Addr)} {pos py : Pos} {y : Str} {x : Value} {Q : Shared → Prop}
    (S : SrcAt prog w A { s with heap := hp, toks := tk0 } news₀ src x n P) (F : Fr h₀ env.locals hp m) (N : News h₀ env.locals hp news₀) (hn : n ≤ sizeLine)
    (J : Nat → List Value → Led → Prop) (h0 : J 0 [] news₀)
    (turn : ∀ (E' : Value → Shared → Prop) (Ky : Value → Shared → Prop) (Kn : Shared → Prop) I C D it oC mc i v ys yk news h tk, i < n → P i v → ys.length ≤ i → @LT.lt Nat _ I D → @LT.lt Nat _ D C → (∀ p ∈ news₀, @LT.lt Nat _ p.1 I) → (∀ p ∈ src, p ∈ news) → (∀ p ∈ news, p.1 ≠ I ∧ p.1 ≠ C ∧ p.1 ≠ D) → NsO oC mc → Fr h₀ env.locals h m →
      News h₀ env.locals h ((C, oC) :: (D, listOf ys.toArray yk) :: (I, it) :: news) →
      YieldG h₀ env.locals m s src I C D it yk Ky (J (i + 1)) ys →
      SkipG h₀ env.locals m s src I C D it yk Kn (J (i + 1)) ys → J i ys news →
      wpAny (model prog w) A (assign target (compEnvC scope cl C env) v) (fun _ s₂ =>
        wpAny (model prog w) A (forIn ifs true fun c r => if r = true then do let ok ← isTrue c (compEnvC scope cl C env) (eval c (compEnvC scope cl C env)); pure (ForInStep.yield ok) else pure (ForInStep.yield r)) (fun ok s₃ =>
          if ok = true then wpAny (model prog w) A (eval elt (compEnvC scope cl C env)) Ky E' s₃ else Kn s₃) E' s₂) E' { s with heap := h, toks := tk })
    (done : ∀ D ys yk news h tk, J n ys news → ys.length ≤ n → (∀ p ∈ src, p ∈ news) → (∀ p ∈ news, p.1 ≠ D) → (∀ p ∈ news₀, p.1 < D) → Fr h₀ env.locals h (fun z => if z = y then some (.ref D) else m z) → News h₀ env.locals h ((D, listOf ys.toArray yk) :: news) → Q { s with heap := h, toks := tk })
    (hy : env.kindOf y = some .local := by rfl) (hp' : (env.scope.kind == .class || (env.scope.kind == .module && env.locals != env.globals)) = false := by rfl)
    (hcell : ∀ x ∈ scope.names, x.2 ≠ .cell := by decide +kernel) (hkind : scope.kind = .function := by rfl) :
    wpAny (model prog w) A (pyIter x) (fun it s₂ => CompAt prog w A E env (.ListComp elt [⟨target, iter, ifs, 0⟩] scope pos) scope cl (some (assign (.Name y py) env)) (fun _ s' => Q s') it s₂) E { s with heap := hp, toks := tk0 } := by
  refine comp_at (use := some (assign (.Name y py) env)) S F N hn J h0 (fun E' I C D it oC mc i v ys yk nn h tk hi hv hJ hyl hID hDC hlt hsub hoff nC F1 N1 => turn E' _ _ I C D it oC mc i v ys yk nn h tk hi hv hyl hID hDC hlt hsub hoff nC F1 N1
    (fun y oC' mc' news' h' tk' hJ' hs nC' F' N' ho => ⟨oC', mc', news', h', tk', hJ', hs, nC', F', N', ho, rfl⟩) (fun oC' mc' news' h' tk' hJ' hs nC' F' N' ho => ⟨oC', mc', news', h', tk', hJ', hs, nC', F', N', ho, rfl⟩) hJ) (fun C D oC mc ys yk news h tk hJ hl hsub hoff hDC hlt nC F N => ?_) hcell hkind
  unfold compPost
  dsimp only
  refine wpAny_assign_Name (wpAny_storeName_local hy F.ns (fun h₂ hn₂ hs₂ => ?_) hp')
  have F' : Fr h₀ env.locals h₂ (fun z => if z = y then some (.ref D) else m z) := F.set hn₂ hs₂
  have N' := N.set hs₂
  have gC := N' _ (List.mem_cons_self ..)
  refine ⟨mc, nC.ns gC.1, fun h3 hs => ?_⟩
  exact done D ys yk news h3 _ hJ hl hsub (fun p hp => (hoff p hp).2) hlt (F'.change hs gC.2.1 gC.2.2) (news_past N' hs hDC fun p hp => (hoff p hp).1)
structure ListsIn (r : Led) (ys : List Value) (rows : List (List Str)) : Prop where
  len : ys.length = rows.length
  at_ : ∀ (i : Nat) (row : List Str), rows[i]? = some row → ∃ (t : Addr) (vs : List Value) (k : Nat), ys[i]? = some (Value.ref t) ∧ (t, listOf vs.toArray k) ∈ r ∧ StrsAre vs row
theorem ListsIn.mono {r r' : Led} {ys : List Value} {rows : List (List Str)} (h : ListsIn r ys rows) (s : ∀ p ∈ r, p ∈ r') : ListsIn r' ys rows :=
  ⟨h.len, fun i row e => by obtain ⟨t, vs, k, a, b, c⟩ := h.at_ i row e; exact ⟨t, vs, k, a, s _ b, c⟩⟩
theorem ListsIn.nil {r : Led} : ListsIn r [] [] := ⟨rfl, fun i _ e => by cases e⟩
theorem ListsIn.snoc {r r' : Led} {ys : List Value} {rows : List (List Str)} {t : Addr} {vs : List Value} {k : Nat} {row : List Str} (h : ListsIn r ys rows) (hm : (t, listOf vs.toArray k) ∈ r') (hv : StrsAre vs row) (hs : ∀ p ∈ r, p ∈ r') : ListsIn r' (ys ++ [Value.ref t]) (rows ++ [row]) :=
  ⟨by rw [List.length_append, List.length_append, h.len]; rfl, fun i g e => by
    rcases Nat.lt_trichotomy i rows.length with hi | hi | hi
    · rw [List.getElem?_append_left hi] at e
      obtain ⟨t', vs', k', a, b, c⟩ := h.at_ i g e
      exact ⟨t', vs', k', by rw [List.getElem?_append_left (by rw [h.len]; exact hi)]; exact a, hs _ b, c⟩
    · subst hi
      rw [List.getElem?_append_right (Nat.le_refl _), Nat.sub_self] at e
      cases e
      exact ⟨t, vs, k, by rw [← h.len, List.getElem?_append_right (Nat.le_refl _), Nat.sub_self]; rfl, hm, hv⟩
    · rw [List.getElem?_eq_none (by rw [List.length_append]; exact hi)] at e
      cases e⟩
noncomputable abbrev dLists (xs : List (List Str)) : List PyData := xs.map fun r => PyData.list (dStrs r)
theorem can_lists : ∀ {xs : List (List Str)}, (∀ r ∈ xs, ∀ x ∈ r, PyData.strOk x = true) → PyData.canLayAll0 (dLists xs) = true
  | [], _ => by simp [PyData.canLayAll0]
  | x :: xs, h => by
    show PyData.canLayAll0 (.list (dStrs x) :: dLists xs) = true
    have := h x (List.mem_cons_self ..)
    simp only [PyData.canLayAll0, PyData.canLay0, can_strs this, can_lists fun y hy => h y (List.mem_cons_of_mem _ hy), Bool.and_true]
theorem dep_lists : ∀ xs : List (List Str), PyData.depthAll (dLists xs) ≤ 1
  | [] => by simp [PyData.depthAll]
  | x :: xs => by
    show PyData.depthAll (.list (dStrs x) :: dLists xs) ≤ 1
    have := dep_lists xs
    simp only [PyData.depthAll, PyData.depth, dep_strs]
    lia
theorem eqv_lists : ∀ xs : List (List Str), PyData.eqvAll (dLists xs) (dLists xs) = true
  | [] => by simp [PyData.eqvAll]
  | x :: xs => by
    show PyData.eqvAll (.list (dStrs x) :: dLists xs) (.list (dStrs x) :: dLists xs) = true
    rw [PyData.eqvAll, PyData.eqv, eqv_lists xs, eqv_strs, decide_eq_true rfl]; rfl
theorem read_lists {L : Addr} {news : Led} {hp : Heap} (N : News h₀ L hp news) : ∀ {us : List Value} {xs : List (List Str)}, ListsIn news us xs → ∃ as, ReadsAll hp us (dLists xs) as
  | [], [], _ => ⟨_, .nil⟩
  | [], _ :: _, H => by cases H.len
  | _ :: _, [], H => by cases H.len
  | u :: us, x :: xs, H => by
    obtain ⟨t, vs, k, ht, hm, hv⟩ := H.at_ 0 x rfl
    cases ht
    obtain ⟨as, h⟩ := read_lists N (us := us) (xs := xs) ⟨by simpa using H.len, fun i r hi => H.at_ (i + 1) r hi⟩
    exact ⟨_, .cons (.list (N _ hm).1 rfl rfl (strs_readAll _ hv)) h⟩
theorem ne_lists {prog : Program} {w : World} {L D1 D2 : Addr} {us vs : List Value} {xs : List (List Str)} {k j : Nat} {news : Led} {Q : Value → Shared → Prop} (N : News h₀ L s.heap news) (m1 : (D1, listOf us.toArray k) ∈ news) (m2 : (D2, listOf vs.toArray j) ∈ news) (h1 : ListsIn news us xs) (h2 : ListsIn news vs xs)
    (o1 : ∀ r ∈ xs, ∀ x ∈ r, PyData.strOk x = true) (hu : A.units + 8 < cLine) (h : Q (.bool false) s) : wpAny (model prog w) A (compareOp .NotEq (.ref D1) (.ref D2)) Q E s := by
  obtain ⟨as, r1⟩ := read_lists N h1
  obtain ⟨bs, r2⟩ := read_lists N h2
  refine SeqAt.compareNe_reads (.list (N _ m1).1 rfl rfl r1) (.list (N _ m2).1 rfl rfl r2) (by rw [PyData.canLay0]; exact can_lists o1) (by rw [PyData.canLay0]; exact can_lists o1) ?_ ?_
  · have d1 := dep_lists xs
    simp only [PyData.depth]; lia
  · rw [PyData.eqv, eqv_lists]; exact h
theorem ne_pairs {prog : Program} {w : World} {L D1 D2 : Addr} {us vs : List Value} {xs : List (Str × Str)} {k j : Nat} {news : Led} {Q : Value → Shared → Prop} (N : News h₀ L s.heap news) (m1 : (D1, listOf us.toArray k) ∈ news) (m2 : (D2, listOf vs.toArray j) ∈ news) (h1 : PairsIn news us xs) (h2 : PairsIn news vs xs)
    (o1 : ∀ x ∈ xs, PyData.strOk x.1 = true ∧ PyData.strOk x.2 = true) (hu : A.units + 8 < cLine) (h : Q (.bool false) s) : wpAny (model prog w) A (compareOp .NotEq (.ref D1) (.ref D2)) Q E s := by
  obtain ⟨as, r1⟩ := read_pairs N h1
  obtain ⟨bs, r2⟩ := read_pairs N h2
  refine SeqAt.compareNe_reads (.list (N _ m1).1 rfl rfl r1) (.list (N _ m2).1 rfl rfl r2) (by rw [PyData.canLay0]; exact can_pairs o1) (by rw [PyData.canLay0]; exact can_pairs o1) ?_ ?_
  · have d1 := dep_pairs xs
    simp only [PyData.depth]; lia
  · rw [PyData.eqv, eqv_pairs, decide_eq_true rfl]; exact h
theorem off_cons {X : LexP} {as : List Addr} {led rest R : Led} {ln : Int} {tl : Tok} {ps : List Value} {k : Nat} {q : Addr × Obj} (hl : led.map (·.1) = as) (h : ∀ p ∈ lexL X ln tl ps k ++ (led ++ rest), p.1 ≠ q.1) (O : Off (X.adr ++ as) R) : Off (X.adr ++ as) (q :: R) := fun p hp a ha => by
  rcases List.mem_cons.mp hp with rfl | hp
  · have : a ∈ (lexL X ln tl ps k ++ led).map (·.1) := by rw [List.map_append, hl]; exact ha
    obtain ⟨c, hc, e⟩ := List.mem_map.mp this
    rw [← e]
    refine Ne.symm (h c ?_)
    rw [← List.append_assoc]
    exact List.mem_append_left _ hc
  · exact O p hp a ha
theorem off_app {as : List Addr} {A B : Led} (h1 : Off as A) (h2 : Off as B) : Off as (A ++ B) := fun p hp a ha => by
  rcases List.mem_append.mp hp with hp | hp
  · exact h1 p hp a ha
  · exact h2 p hp a ha
theorem off_app_r {as : List Addr} {A B : Led} (h1 : Off as (A ++ B)) : Off as B := fun p hp a ha => h1 p (List.mem_append_right _ hp) a ha
theorem off_l {X : LexP} {as : List Addr} {led Rr : Led} {L l : Addr} {ol : Obj} {ln : Int} {tl : Tok} {ps : List Value} {k : Nat} (HC : CellsAre cm (lawCl L) CK) (hc : ∀ p ∈ lexL X ln tl ps k ++ (led ++ ((l, ol) :: Rr)), p.1 ∉ (lawCl L).map (·.2)) (O : Off (X.adr ++ as) ((l, ol) :: Rr)) (hl : led.map (·.1) = as) (h : ∀ p ∈ Rr, p.1 ≠ l) :
    ∀ p ∈ CK ++ (lexL X ln tl ps k ++ (led ++ Rr)), p.1 ≠ l := fun p hp e => by
  rcases List.mem_append.mp hp with hp | hp
  · refine hc (l, ol) (List.mem_append_right _ (List.mem_append_right _ (.head _))) ?_
    rw [← cells_adr HC]
    exact List.mem_map.mpr ⟨p, hp, e⟩
  · rw [← List.append_assoc] at hp
    rcases List.mem_append.mp hp with hp | hp
    · have : p.1 ∈ (lexL X ln tl ps k ++ led).map (·.1) := List.mem_map.mpr ⟨p, hp, rfl⟩
      rw [List.map_append, hl] at this
      exact O (l, ol) (.head _) p.1 this e.symm
    · exact h p hp e
theorem fresh_off {X : LexP} {as : List Addr} {led R R' : Led} {x : Addr} {o : Obj} {ln : Int} {tl : Tok} {ps : List Value} {k : Nat} (h : ∀ p ∈ CK ++ (lexL X ln tl ps k ++ (led ++ R)), @LT.lt Nat _ p.1 x) (hl : led.map (·.1) = as) (O : Off (X.adr ++ as) R') : Off (X.adr ++ as) ((x, o) :: R') :=
  off_cons (ln := ln) (tl := tl) (ps := ps) (k := k) (rest := []) hl (fun p hp => by
    rw [List.append_nil] at hp
    refine Nat.ne_of_lt (h p (List.mem_append_right _ ?_))
    rw [← List.append_assoc]
    exact List.mem_append_left _ hp) O
theorem fresh_cell {L : Addr} {R : Led} {x : Addr} (HC : CellsAre cm (lawCl L) CK) (h : ∀ p ∈ CK ++ R, @LT.lt Nat _ p.1 x) : x ∉ (lawCl L).map (·.2) := fun hx => by
  rw [← cells_adr HC] at hx
  obtain ⟨q, hq, rfl⟩ := List.mem_map.mp hx
  exact Nat.lt_irrefl _ (h q (List.mem_append_left _ hq))
theorem news_pull {L : Addr} {h : Heap} {x : Addr × Obj} {A B R : Led} (N : News h₀ L h (CK ++ (A ++ (B ++ (x :: R))))) : News h₀ L h (x :: (CK ++ (A ++ (B ++ R)))) := news_sub N fun p hp => by
  exact Mine.sub_at hp (by wtm_at "per")
theorem news_push {L : Addr} {h : Heap} {x : Addr × Obj} {A B R : Led} (N : News h₀ L h (x :: (CK ++ (A ++ (B ++ R))))) : News h₀ L h (CK ++ (A ++ (B ++ (x :: R)))) := news_sub N fun p hp => by
  exact Mine.sub_at hp (by wtm_at "per")
theorem sub_rr {A B R : Led} : ∀ p ∈ R, p ∈ CK ++ (A ++ (B ++ R)) := fun _ h => List.mem_append_right _ (List.mem_append_right _ (List.mem_append_right _ h))
structure Bk (X : LexP) (as : List Addr) (b l : Addr) (vs : List Value) (k : Nat) (Rr Rk : Led) (kvs : List (Str × Str)) : Prop where
  off : Off (X.adr ++ as) ((l, listOf vs.toArray k) :: Rr)
  ne : ∀ p ∈ Rr, p.1 ≠ l
  book : IsBook Rr b l
  prs : PairsIn Rr vs kvs
  sub : ∀ p ∈ Rk, p ∈ Rr
theorem fresh_offs {X : LexP} {as : List Addr} {led R R' add : Led} {ln : Int} {tl : Tok} {ps : List Value} {k : Nat} (h : ∀ p ∈ add, ∀ q ∈ CK ++ (lexL X ln tl ps k ++ (led ++ R)), @LT.lt Nat _ q.1 p.1) (hl : led.map (·.1) = as) (O : Off (X.adr ++ as) R') : Off (X.adr ++ as) (add ++ R') := fun p hp a ha => by
  rcases List.mem_append.mp hp with hp | hp
  · exact fresh_off (o := p.2) (h p hp) hl O _ (.head _) a ha
  · exact O p hp a ha
theorem grow {X : LexP} {as : List Addr} {led Rr add : Led} {L l : Addr} {ol o2 : Obj} {ln : Int} {tl : Tok} {ps : List Value} {k : Nat} (HC : CellsAre cm (lawCl L) CK) (hled : led.map (·.1) = as) (O : Off (X.adr ++ as) ((l, ol) :: Rr)) (hl : ∀ p ∈ Rr, p.1 ≠ l) (hR2 : ∀ p ∈ lexL X ln tl ps k ++ (led ++ ((l, ol) :: Rr)), p.1 ∉ (lawCl L).map (·.2))
    (h : ∀ p ∈ add, @LT.lt Nat _ l p.1 ∧ ∀ q ∈ CK ++ (lexL X ln tl ps k ++ (led ++ Rr)), @LT.lt Nat _ q.1 p.1) :
    Off (X.adr ++ as) ((l, o2) :: (add ++ Rr)) ∧ (∀ p ∈ add ++ Rr, p.1 ≠ l) ∧ (∀ p ∈ lexL X ln tl ps k ++ (led ++ ((l, o2) :: (add ++ Rr))), p.1 ∉ (lawCl L).map (·.2)) := by
  have O2 : Off (X.adr ++ as) (add ++ Rr) := fresh_offs (fun p hp => (h p hp).2) hled fun p hp a ha => O p (.tail _ hp) a ha
  refine ⟨fun p hp a ha => ?_, fun p hp => ?_, fun p hp => ?_⟩
  · rcases List.mem_cons.mp hp with rfl | hp
    · exact O (l, ol) (.head _) a ha
    · exact O2 p hp a ha
  · rcases List.mem_append.mp hp with hp | hp
    · exact Nat.ne_of_gt (h p hp).1
    · exact hl p hp
  · rcases List.mem_append.mp hp with hp | hp
    · exact hR2 p (List.mem_append_left _ hp)
    · rcases List.mem_append.mp hp with hp | hp
      · exact hR2 p (List.mem_append_right _ (List.mem_append_left _ hp))
      · rcases List.mem_cons.mp hp with rfl | hp
        · exact hR2 (l, ol) (List.mem_append_right _ (List.mem_append_right _ (.head _)))
        · rcases List.mem_append.mp hp with hp | hp
          · exact fresh_cell HC (h p hp).2
          · exact hR2 p (List.mem_append_right _ (List.mem_append_right _ (.tail _ hp)))
theorem news_bk2 {L : Addr} {h : Heap} {x : Addr × Obj} {add A B R : Led} (N : News h₀ L h (x :: (add ++ (CK ++ (A ++ (B ++ R)))))) : News h₀ L h (CK ++ (A ++ (B ++ (x :: (add ++ R))))) := news_sub N fun p hp => by
  exact Mine.sub_at hp (by wtm_at "per")
theorem news_sw {L : Addr} {h : Heap} {a b : Addr × Obj} {R : Led} (N : News h₀ L h (a :: b :: R)) : News h₀ L h (b :: a :: R) := news_sub N fun p hp => by
  exact Mine.sub_at hp (by wtm_at "per")
theorem news_sw3 {L : Addr} {h : Heap} {a b c : Addr × Obj} {R : Led} (N : News h₀ L h (a :: b :: c :: R)) : News h₀ L h (c :: a :: b :: R) := news_sub N fun p hp => by
  exact Mine.sub_at hp (by wtm_at "per")
noncomputable abbrev lexT (X : LexP) (ln : Int) (tl : Tok) : Led := [(X.lx, instObj 228 X.dlx), (X.dlx, X.outer ln tl), (X.st, instObj 228 X.dst), (X.dst, X.inner)]
theorem news_pb {X : LexP} {L : Addr} {h : Heap} {x : Addr × Obj} {R : Led} {ln : Int} {tl : Tok} {ps : List Value} {k : Nat} (N : News h₀ L h (x :: (CK ++ (lexL X ln tl ps k ++ R)))) : News h₀ L h ((X.pb, listOf ps.toArray k) :: x :: (CK ++ (lexT X ln tl ++ R))) := news_sub N fun p hp => by
  simp only [lexL, lexT, List.cons_append, List.nil_append] at hp ⊢
  exact Mine.sub_at hp (by wtm_at "per")
theorem news_pbI {X : LexP} {L : Addr} {h : Heap} {R A : Led} {ln : Int} {tl : Tok} {ps : List Value} {k : Nat} (N : News h₀ L h ((X.pb, listOf ps.toArray k) :: (A ++ (CK ++ (lexT X ln tl ++ R))))) : News h₀ L h (A ++ (CK ++ (lexL X ln tl ps k ++ R))) := news_sub N fun p hp => by
  simp only [lexL, lexT, List.cons_append, List.nil_append] at hp ⊢
  exact Mine.sub_at hp (by wtm_at "per")
theorem dist_pb {X : LexP} {as : List Addr} (D : Dist (X.adr ++ as)) : (@Ne Nat X.lx X.pb ∧ @Ne Nat X.dlx X.pb ∧ @Ne Nat X.st X.pb ∧ @Ne Nat X.dst X.pb) ∧ ∀ a ∈ as, @Ne Nat a X.pb := by
  obtain ⟨h1, _, h3⟩ := List.pairwise_append.mp D
  rw [List.pairwise_cons, List.pairwise_cons, List.pairwise_cons] at h1
  exact ⟨⟨h1.1 _ (.tail _ (.head _)), h1.2.1 _ (.head _), Ne.symm (h1.2.2.1 _ (.head _)), Ne.symm (h1.2.2.1 _ (.tail _ (.head _)))⟩, fun a ha => Ne.symm (h3 X.pb (.tail _ (.tail _ (.head _))) a ha)⟩
theorem pb_off {X : LexP} {as : List Addr} {led R : Led} {L : Addr} {ln : Int} {tl : Tok} {ps : List Value} {k : Nat} (HC : CellsAre cm (lawCl L) CK) (hc : ∀ p ∈ lexL X ln tl ps k ++ (led ++ R), p.1 ∉ (lawCl L).map (·.2)) (DI : Dist (X.adr ++ as)) (hl : led.map (·.1) = as) (O : Off (X.adr ++ as) R) :
    ∀ p ∈ CK ++ (lexT X ln tl ++ (led ++ R)), p.1 ≠ X.pb := fun p hp e => by
  obtain ⟨h1, h2⟩ := dist_pb DI
  rcases List.mem_append.mp hp with hp | hp
  · refine hc (X.pb, listOf ps.toArray k) (List.mem_append_left _ (.tail _ (.tail _ (.head _)))) ?_
    rw [← cells_adr HC]
    exact List.mem_map.mpr ⟨p, hp, e⟩
  · rcases List.mem_append.mp hp with hp | hp
    · simp only [lexT, List.mem_cons, List.not_mem_nil, or_false] at hp
      rcases hp with rfl | rfl | rfl | rfl
      · exact h1.1 e
      · exact h1.2.1 e
      · exact h1.2.2.1 e
      · exact h1.2.2.2 e
    · rcases List.mem_append.mp hp with hp | hp
      · exact h2 p.1 (hl ▸ List.mem_map.mpr ⟨p, hp, rfl⟩) e
      · exact O p hp X.pb (.tail _ (.tail _ (.head _))) e
theorem ne_nones {prog : Program} {w : World} {L D1 D2 : Addr} {k j : Nat} {news : Led} {Q : Value → Shared → Prop} (N : News h₀ L s.heap news) (m1 : (D1, listOf #[.none, .none] k) ∈ news) (m2 : (D2, listOf #[.none, .none] j) ∈ news) (hu : A.units + 8 < cLine) (h : Q (.bool false) s) : wpAny (model prog w) A (compareOp .NotEq (.ref D1) (.ref D2)) Q E s := by
  have r : ReadsAll s.heap [.none, .none] [PyData.none, PyData.none] [] := .cons (.none) (.cons .none .nil)
  refine SeqAt.compareNe_reads (.list (N _ m1).1 rfl rfl r) (.list (N _ m2).1 rfl rfl r) (by decide) (by decide) ?_ ?_
  · exact Nat.lt_of_le_of_lt (Nat.add_le_add_left (by decide) _) hu
  · rw [show PyData.eqv (.list [PyData.none, PyData.none]) (.list [PyData.none, PyData.none]) = true by simp [PyData.eqv, PyData.eqvAll]]; exact h
theorem news_pb0 {X : LexP} {L : Addr} {h : Heap} {R : Led} {ln : Int} {tl : Tok} {ps : List Value} {k : Nat} (N : News h₀ L h (CK ++ (lexL X ln tl ps k ++ R))) : News h₀ L h ((X.pb, listOf ps.toArray k) :: (CK ++ (lexT X ln tl ++ R))) := news_sub N fun p hp => by
  simp only [lexL, lexT, List.cons_append, List.nil_append] at hp ⊢
  exact Mine.sub_at hp (by wtm_at "per")
theorem dp_cells {A B R : Led} {l : Addr × Obj} {x : Addr} {o o2 : Obj} {c : List Addr} (h : ∀ p ∈ A ++ (B ++ (l :: (x, o) :: R)), p.1 ∉ c) : ∀ p ∈ A ++ (B ++ (l :: (x, o2) :: R)), p.1 ∉ c := fun p hp => by
  simp only [List.mem_append, List.mem_cons] at hp h
  rcases hp with hp | hp | hp | hp | hp
  · exact h p (.inl hp)
  · exact h p (.inr (.inl hp))
  · exact h p (.inr (.inr (.inl hp)))
  · rw [hp]; exact h (x, o) (.inr (.inr (.inr (.inl rfl))))
  · exact h p (.inr (.inr (.inr (.inr hp))))
theorem news_in0 {L : Addr} {h : Heap} {x : Addr × Obj} {R : Led} (N : News h₀ L h (x :: (CK ++ R))) : News h₀ L h (CK ++ x :: R) := news_sub N fun p hp => by
  exact Mine.sub_at hp (by wtm_at "per")
theorem execs_eq (env : Env) (ys : List Stmt) : ∀ xs : List Stmt, execs (xs ++ ys) env = (execs xs env >>= fun f => match f with | .next => execs ys env | f => pure f)
  | [] => by
    show execs ys env = (pure Flow.next >>= _)
    rw [pure_bind]
  | x :: xs => by
    rw [List.cons_append, execs_cons, execs_cons, LawfulMonad.bind_assoc]
    congr 1
    funext f
    cases f with
    | next => exact execs_eq env ys xs
    | _ => rw [pure_bind]
theorem execs_app {xs ys : List Stmt} {Q : Flow → Shared → Prop} (h : wpAny M A (execs xs env) (fun f s => match f with | .next => wpAny M A (execs ys env) Q E s | f => Q f s) E s) : wpAny M A (execs (xs ++ ys) env) Q E s := by
  rw [execs_eq]
  refine wpAny_bind (wpAny_mono h (fun f s' hf => ?_) fun _ _ e => e)
  cases f with
  | next => exact hf
  | _ => exact wpAny_pure hf
theorem ne_strs {prog : Program} {w : World} {L D1 D2 : Addr} {us vs : List Value} {xs ys : List Str} {k j : Nat} {news : Led} {Q : Value → Shared → Prop} (N : News h₀ L s.heap news) (m1 : (D1, listOf us.toArray k) ∈ news) (m2 : (D2, listOf vs.toArray j) ∈ news) (h1 : StrsAre us xs) (h2 : StrsAre vs ys)
    (o1 : ∀ x ∈ xs, PyData.strOk x = true) (o2 : ∀ x ∈ ys, PyData.strOk x = true) (hu : A.units + 8 < cLine) (h : Q (.bool (!decide (xs = ys))) s) : wpAny (model prog w) A (compareOp .NotEq (.ref D1) (.ref D2)) Q E s := by
  refine SeqAt.compareNe_reads (.list (N _ m1).1 rfl rfl (strs_readAll _ h1)) (.list (N _ m2).1 rfl rfl (strs_readAll _ h2)) (by rw [PyData.canLay0]; exact can_strs o1) (by rw [PyData.canLay0]; exact can_strs o2) ?_ ?_
  · simp only [PyData.depth, dep_strs]; lia
  · rw [PyData.eqv, eqv_strs]; exact h
end
end Mine
end
section
open PySem PySem.W PyProof.Rows PySem.Calls PySem.Spec
set_option Elab.async false
set_option maxRecDepth 100000
namespace Mine
noncomputable def wordsL (low : Nat) : List Str := (List.range 5).map fun k => wordOf (low + k)
theorem wordsL_len (low : Nat) : (wordsL low).length = 5 := by unfold wordsL; rw [List.length_map, List.length_range]
theorem wordsL_get {low i : Nat} (h : i < 5) : (wordsL low)[i]? = some (wordOf (low + i)) := by unfold wordsL; rw [List.getElem?_map, List.getElem?_range h]; rfl
theorem wordsL_at {low i : Nat} (h : i < 5) : (wordsL low).getD i Str.empty = wordOf (low + i) := by rw [List.getD_eq_getElem?_getD, wordsL_get h]; rfl
theorem bits_pow : ∀ i : Fin 5, bitsOf (2 ^ i.val) = [i.val] ∧ 0 < 2 ^ i.val ∧ 2 ^ i.val < 32 := by decide +kernel
theorem join_one : ∀ n : Fin 33, Txt.join (Str.ofString ", ") [wordOf n] = wordOf n := by decide +kernel
theorem told_one {low i : Nat} (hl : low < 29) (hi : i < 5) : Txt.join (Str.ofString ", ") (pGo 32 0 (1 * 2 ^ (low + i)) []) = wordOf (low + i) := by
  obtain ⟨h1, h2, h3⟩ := bits_pow ⟨i, hi⟩
  have e : (1 * 2 ^ (low + i) : Int) = ((2 ^ i * 2 ^ low : Nat) : Int) := by rw [Int.one_mul, ← Nat.pow_add, Nat.add_comm i low]; push_cast; rfl
  rw [e, pretty_words hl h2 h3]
  unfold wordsOf
  rw [h1]
  exact join_one ⟨low + i, by lia⟩
theorem pow_bd {n : Nat} (h : n < 40) : (0 : Int) ≤ 1 * 2 ^ n ∧ (1 : Int) * 2 ^ n < 2 ^ 40 := by
  rw [Int.one_mul]
  have := Nat.pow_lt_pow_right (a := 2) (by decide) h
  exact ⟨Int.le_of_lt (Int.pow_pos (by decide)), by exact_mod_cast this⟩
theorem told_b : Txt.join (Str.ofString ", ") (pGo 32 0 (7 * 2 ^ 31) []) = Str.ofString "0x80000000, 0x300000000" := by decide +kernel
theorem word_sok {n : Nat} (h : n < 33) : PyData.strOk (wordOf n) = true := (word_plain h).strOk
theorem wordsL_sok {low : Nat} (h : low < 29) : ∀ x ∈ wordsL low, PyData.strOk x = true := fun x hx => by
  unfold wordsL at hx
  obtain ⟨k, hk, rfl⟩ := List.mem_map.mp hx
  have := List.mem_range.mp hk
  exact word_sok (by lia)
end Mine
end
section
open PySem PySem.W PyProof.Rows PySem.Calls PySem.Spec
set_option Elab.async false
set_option maxRecDepth 100000
namespace Mine
noncomputable def rowOf (fs : List Fact) (pr : Nat × Nat) (t : Nat) : List Nat := match fs[t]? with
  | some f => [f.1, f.2.1, f.2.2]
  | none => [pr.1, pr.2]
noncomputable def styleOf (xs : List Int) (t : Nat) : Nat := (((xs.getD t 0).fdiv 1000).fmod 3).toNat
noncomputable def writeL (low j : Nat) (row : List Nat) : List Str := row.map fun k => written (wordOf (low + k)) j
noncomputable def lineOf (low j : Nat) (row : List Nat) : Str := Txt.join (Str.ofString "") (writeL low j row) ++ Str.ofString "\n"
noncomputable def textAt (fs : List Fact) (pr : Nat × Nat) (xs : List Int) (low : Nat) : Nat → Str
  | 0 => Str.ofString ""
  | t + 1 => textAt fs pr xs low t ++ lineOf low (styleOf xs t) (rowOf fs pr t)
theorem style_lt (xs : List Int) (t : Nat) : styleOf xs t < 3 ∧ ((xs.getD t 0).fdiv 1000).fmod 3 = (styleOf xs t : Int) := by
  have h0 := Int.fmod_nonneg_of_pos ((xs.getD t 0).fdiv 1000) (b := 3) (by decide)
  have h1 := Int.fmod_lt_of_pos ((xs.getD t 0).fdiv 1000) (b := 3) (by decide)
  unfold styleOf
  exact ⟨(Int.toNat_lt h0).mpr h1, (Int.toNat_of_nonneg h0).symm⟩
theorem row_ok {fs : List Fact} {pr : Nat × Nat} (hs : Small fs) (hp : pr.1 < 5 ∧ pr.2 < 5) (t : Nat) : (rowOf fs pr t).length ≤ 3 ∧ ∀ k ∈ rowOf fs pr t, k < 5 := by
  unfold rowOf
  cases e : fs[t]? with
  | none => exact ⟨Nat.le_succ 2, fun k hk => by
      rcases List.mem_cons.mp hk with rfl | hk
      · exact hp.1
      · rw [List.mem_singleton.mp hk]; exact hp.2⟩
  | some f =>
    have h := hs f (List.mem_of_getElem? e)
    exact ⟨Nat.le_refl 3, fun k hk => by
      rcases List.mem_cons.mp hk with rfl | hk
      · exact h.1
      · rcases List.mem_cons.mp hk with rfl | hk
        · exact h.2.1
        · rw [List.mem_singleton.mp hk]; exact h.2.2⟩
theorem written_len : ∀ (n : Fin 33) (j : Fin 3), (written (wordOf n) j).length ≤ 30 ∧ (wordOf n).length ≤ 100 := by decide +kernel
theorem writeL_len {low j : Nat} (hl : low < 29) (hj : j < 3) {row : List Nat} (h : ∀ k ∈ row, k < 5) : ∀ x ∈ writeL low j row, x.length ≤ 30 := fun x hx => by
  obtain ⟨k, hk, rfl⟩ := List.mem_map.mp hx
  have := h k hk
  exact (written_len ⟨low + k, by lia⟩ ⟨j, hj⟩).1
theorem join0 : ∀ l : List Str, (Str.join (Str.ofString "") l).cps.toList = l.flatMap fun x => x.cps.toList
  | [] => rfl
  | [x] => by show x.cps.toList = x.cps.toList ++ []; rw [List.append_nil]
  | x :: y :: r => by
    show (x ++ Str.ofString "" ++ Str.join (Str.ofString "") (y :: r)).cps.toList = _
    rw [str_app, str_app, join0 (y :: r), show (Str.ofString "").cps.toList = [] from rfl, List.append_nil]
    rfl
theorem join0_cps (l : List Str) : (Txt.join (Str.ofString "") l).cps.toList = l.flatMap fun x => x.cps.toList := by
  show (Builtin.Str.glued (Str.ofString "") l).cps.toList = _
  rw [StrLaws.glued_eq_join, join0]
theorem line_cps (low j : Nat) (row : List Nat) : (lineOf low j row).cps.toList = (row.flatMap fun k => (written (wordOf (low + k)) j).cps.toList) ++ [10] := by
  unfold lineOf writeL
  rw [str_app, join0_cps, List.flatMap_map]
  rfl
theorem line_len {low j : Nat} (hl : low < 29) (hj : j < 3) : ∀ {row : List Nat}, (∀ k ∈ row, k < 5) → (lineOf low j row).length ≤ 30 * row.length + 1
  | [], _ => by rw [str_len, line_cps]; exact Nat.le_refl 1
  | k :: row, h => by
    have h1 := line_len hl hj (row := row) fun k hk => h k (.tail _ hk)
    have h2 := (written_len ⟨low + k, by have := h k (.head _); lia⟩ ⟨j, hj⟩).1
    rw [str_len, line_cps] at h1 ⊢
    rw [str_len] at h2
    rw [List.flatMap_cons, List.append_assoc, List.length_append, List.length_cons]
    dsimp only at h2
    lia
theorem text_len {fs : List Fact} {pr : Nat × Nat} {xs : List Int} {low : Nat} (hl : low < 29) (hs : Small fs) (hp : pr.1 < 5 ∧ pr.2 < 5) : ∀ t, (textAt fs pr xs low t).length ≤ 91 * t
  | 0 => by show (Str.ofString "").length ≤ 0; decide
  | t + 1 => by
    have h1 := text_len (xs := xs) hl hs hp t
    have h2 := row_ok hs hp t
    have h3 := line_len hl (style_lt xs t).1 h2.2
    show (textAt fs pr xs low t ++ lineOf low (styleOf xs t) (rowOf fs pr t)).length ≤ _
    rw [str_len] at h1 h3 ⊢
    rw [str_app, List.length_append]
    lia
theorem sumlen_cps : ∀ l : List Str, (l.map (·.length)).sum = (l.flatMap fun x => x.cps.toList).length
  | [] => rfl
  | x :: r => by rw [List.map_cons, List.sum_cons, sumlen_cps r, List.flatMap_cons, List.length_append, str_len]
theorem write_sum0 {low j : Nat} (hl : low < 29) (hj : j < 3) {row : List Nat} (h3 : row.length ≤ 3) (h5 : ∀ k ∈ row, k < 5) : ((writeL low j row).map (·.length)).sum ≤ 90 := by
  have h := line_len hl hj h5
  rw [str_len, line_cps] at h
  rw [sumlen_cps]
  unfold writeL
  rw [List.flatMap_map]
  rw [List.length_append] at h
  simp only [List.length_cons, List.length_nil] at h
  lia
theorem write_sum {low j : Nat} (hl : low < 29) (hj : j < 3) {row : List Nat} (h3 : row.length ≤ 3) (h5 : ∀ k ∈ row, k < 5) : ((writeL low j row).map (·.length)).sum + (writeL low j row).length * (Str.ofString "").length ≤ 16777216 := by
  have h := write_sum0 hl hj h3 h5
  rw [show (Str.ofString "").length = 0 from rfl, Nat.mul_zero]
  exact Nat.le_trans h (by decide)
theorem join_wl {low j : Nat} (hl : low < 29) (hj : j < 3) {row : List Nat} (h3 : row.length ≤ 3) (h5 : ∀ k ∈ row, k < 5) : (Txt.join (Str.ofString "") (writeL low j row)).length ≤ 90 := by
  rw [str_len, join0_cps, ← sumlen_cps]
  exact write_sum0 hl hj h3 h5
end Mine
end
section
open PySem PySem.W PyProof.Rows PySem.Calls PySem.Spec
set_option Elab.async false
set_option maxRecDepth 100000
namespace Mine
noncomputable def rowSg (low j : Nat) (row : List Nat) : List Nat := row.flatMap fun k => (written (wordOf (low + k)) j).cps.toList
noncomputable def endSg (low : Nat) : List Nat := 92 :: 10 :: ((wordOf low).cps.toList ++ [92])
noncomputable def leftOf (low : Nat) : List (List Nat × Nat) → List Nat
  | [] => endSg low
  | q :: r => rowSg low q.2 q.1 ++ 10 :: leftOf low r
noncomputable def linesOf (fs : List Fact) (pr : Nat × Nat) (xs : List Int) : List (List Nat × Nat) := (List.range 5).map fun t => (rowOf fs pr t, styleOf xs t)
theorem lines_drop {fs : List Fact} {pr : Nat × Nat} {xs : List Int} {t : Nat} (h : t < 5) : (linesOf fs pr xs).drop t = (rowOf fs pr t, styleOf xs t) :: (linesOf fs pr xs).drop (t + 1) := by
  unfold linesOf
  rw [List.drop_eq_getElem_cons (by rw [List.length_map, List.length_range]; exact h)]
  congr 1
  rw [List.getElem_map, List.getElem_range]
theorem text_left {fs : List Fact} {pr : Nat × Nat} {xs : List Int} {low : Nat} : ∀ t, t ≤ 5 → (textAt fs pr xs low t).cps.toList ++ leftOf low ((linesOf fs pr xs).drop t) = leftOf low (linesOf fs pr xs)
  | 0, _ => rfl
  | t + 1, h => by
    rw [← text_left t (by lia), lines_drop (by lia : t < 5)]
    show (textAt fs pr xs low t ++ lineOf low (styleOf xs t) (rowOf fs pr t)).cps.toList ++ _ = _
    rw [str_app, line_cps, List.append_assoc, List.append_assoc]
    rfl
noncomputable def textOf (fs : List Fact) (pr : Nat × Nat) (xs : List Int) (low : Nat) : Str := textAt fs pr xs low 5 ++ Str.ofString "\\\n" ++ wordOf low ++ Str.ofString "\\"
theorem lit1 : (Str.ofString "\\\n").cps.toList = [92, 10] := by decide +kernel
theorem lit2 : (Str.ofString "\\").cps.toList = [92] := by decide +kernel
theorem text_of {fs : List Fact} {pr : Nat × Nat} {xs : List Int} {low : Nat} : (textOf fs pr xs low).cps.toList = leftOf low (linesOf fs pr xs) := by
  rw [← text_left 5 (Nat.le_refl 5)]
  unfold textOf
  rw [str_app, str_app, str_app, lit1, lit2, List.append_assoc, List.append_assoc]
  rfl
theorem cnt10_app (a b : List Nat) : cnt10 (a ++ b) = cnt10 a + cnt10 b := by
  unfold cnt10
  rw [List.filter_append, List.length_append]
  rfl
theorem cnt_w : ∀ (n : Fin 33) (j : Fin 3), cnt10 (written (wordOf n) j).cps.toList = 0 ∧ cnt10 (wordOf n).cps.toList = 0 := by decide +kernel
theorem cnt_row {low j : Nat} (hl : low < 29) (hj : j < 3) : ∀ {row : List Nat}, (∀ k ∈ row, k < 5) → cnt10 (rowSg low j row) = 0
  | [], _ => rfl
  | k :: row, h => by
    show cnt10 ((written (wordOf (low + k)) j).cps.toList ++ rowSg low j row) = 0
    rw [cnt10_app, (cnt_w ⟨low + k, by have := h k (.head _); lia⟩ ⟨j, hj⟩).1, cnt_row hl hj fun k hk => h k (.tail _ hk)]
    rfl
theorem cnt_end {low : Nat} (hl : low < 29) : cnt10 (endSg low) = 1 := by
  show cnt10 ([92, 10] ++ ((wordOf low).cps.toList ++ [92])) = 1
  rw [cnt10_app, cnt10_app, (cnt_w ⟨low, by lia⟩ ⟨0, by decide⟩).2]
  decide
theorem cnt_left {fs : List Fact} {pr : Nat × Nat} {xs : List Int} {low : Nat} (hl : low < 29) (hs : Small fs) (hp : pr.1 < 5 ∧ pr.2 < 5) : cnt10 (leftOf low (linesOf fs pr xs)) = 6 := by
  have step : ∀ t, t < 5 → cnt10 (leftOf low ((linesOf fs pr xs).drop t)) = cnt10 (leftOf low ((linesOf fs pr xs).drop (t + 1))) + 1 := fun t ht => by
    rw [lines_drop ht]
    show cnt10 (rowSg low (styleOf xs t) (rowOf fs pr t) ++ ([10] ++ leftOf low ((linesOf fs pr xs).drop (t + 1)))) = _
    rw [cnt10_app, cnt10_app, cnt_row hl (style_lt xs t).1 (row_ok hs hp t).2]
    show 0 + (1 + _) = _
    lia
  have e5 : cnt10 (leftOf low ((linesOf fs pr xs).drop 5)) = 1 := by
    rw [List.drop_eq_nil_of_le (by unfold linesOf; rw [List.length_map, List.length_range]; exact Nat.le_refl 5)]
    exact cnt_end hl
  show cnt10 (leftOf low ((linesOf fs pr xs).drop 0)) = 6
  rw [step 0 (by decide), step 1 (by decide), step 2 (by decide), step 3 (by decide), step 4 (by decide), e5]
  rfl
noncomputable def unread (fs : List Fact) (pr : Nat × Nat) (xs : List Int) (low t i : Nat) : List Nat :=
  (if t = 0 ∨ 0 < i then [] else [10]) ++ (rowSg low (styleOf xs t) ((rowOf fs pr t).drop i) ++ 10 :: leftOf low ((linesOf fs pr xs).drop (t + 1)))
theorem unread_start {fs : List Fact} {pr : Nat × Nat} {xs : List Int} {low : Nat} : unread fs pr xs low 0 0 = (textOf fs pr xs low).cps.toList := by
  rw [text_of]
  show [] ++ _ = leftOf low ((linesOf fs pr xs).drop 0)
  rw [lines_drop (by decide : 0 < 5), List.drop_zero]
  rfl
theorem row_pos (fs : List Fact) (pr : Nat × Nat) (t : Nat) : 0 < (rowOf fs pr t).length := by
  unfold rowOf
  cases fs[t]? <;> exact Nat.succ_pos _
theorem unread_next {fs : List Fact} {pr : Nat × Nat} {xs : List Int} {low t : Nat} (ht : t + 1 < 5) : unread fs pr xs low t (rowOf fs pr t).length = unread fs pr xs low (t + 1) 0 := by
  unfold unread
  rw [if_pos (Or.inr (row_pos fs pr t)), List.drop_length, lines_drop ht, List.drop_zero, if_neg (by lia)]
  rfl
theorem unread_end {fs : List Fact} {pr : Nat × Nat} {xs : List Int} {low : Nat} : unread fs pr xs low 4 (rowOf fs pr 4).length = 10 :: endSg low := by
  unfold unread
  rw [if_pos (Or.inr (row_pos fs pr 4)), List.drop_length, List.drop_eq_nil_of_le (by unfold linesOf; rw [List.length_map, List.length_range]; exact Nat.le_refl 5)]
  rfl
theorem unread_tok {fs : List Fact} {pr : Nat × Nat} {xs : List Int} {low t i k : Nat} (hl : low < 29) (hk : (rowOf fs pr t)[i]? = some k) (k5 : k < 5) : tokO (unread fs pr xs low t i) = ((wordOf (low + k)).cps.toList, unread fs pr xs low t (i + 1)) := by
  have hi := (List.getElem?_eq_some_iff.mp hk)
  obtain ⟨hi, he⟩ := hi
  unfold unread
  rw [List.drop_eq_getElem_cons hi, he]
  have h1 : ∀ r, tokO ((if t = 0 ∨ 0 < i then [] else [10]) ++ r) = tokO r := fun r => by
    split
    · rfl
    · exact tok_nl r
  rw [h1, if_pos (Or.inr (Nat.succ_pos i))]
  show tokO (((written (wordOf (low + k)) (styleOf xs t)).cps.toList ++ rowSg low (styleOf xs t) ((rowOf fs pr t).drop (i + 1))) ++ _) = _
  rw [List.append_assoc, read_word (by lia) (style_lt xs t).1]
  rfl
theorem end_tok {low : Nat} (hl : low < 29) : tokO (10 :: endSg low) = (10 :: (wordOf low).cps.toList, []) := tok_end (word_tok (by lia : low < 33))
theorem cnt_last {low : Nat} (hl : low < 29) : cnt10 (10 :: endSg low) = 2 := by
  show cnt10 ([10] ++ endSg low) = 2
  rw [cnt10_app, cnt_end hl]
  decide
theorem textOf_len {fs : List Fact} {pr : Nat × Nat} {xs : List Int} {low : Nat} (hl : low < 29) (hs : Small fs) (hp : pr.1 < 5 ∧ pr.2 < 5) : (textOf fs pr xs low).length ≤ 600 := by
  have h := text_len (xs := xs) hl hs hp 5
  have h2 := (written_len ⟨low, by lia⟩ ⟨0, by decide⟩).2
  unfold textOf
  rw [str_len] at h h2 ⊢
  rw [str_app, str_app, str_app, lit1, lit2, List.length_append, List.length_append, List.length_append]
  dsimp only at h2
  simp only [List.length_cons, List.length_nil]
  lia
noncomputable def sgAt (fs : List Fact) (pr : Nat × Nat) (xs : List Int) (low t : Nat) : List Nat := if t < 5 then unread fs pr xs low t 0 else 10 :: endSg low
theorem sgAt_zero {fs : List Fact} {pr : Nat × Nat} {xs : List Int} {low : Nat} : sgAt fs pr xs low 0 = (textOf fs pr xs low).cps.toList := unread_start
theorem sgAt_five {fs : List Fact} {pr : Nat × Nat} {xs : List Int} {low : Nat} : sgAt fs pr xs low 5 = 10 :: endSg low := rfl
theorem sgAt_in {fs : List Fact} {pr : Nat × Nat} {xs : List Int} {low t : Nat} (h : t < 5) : sgAt fs pr xs low t = unread fs pr xs low t 0 := if_pos h
theorem sgAt_next {fs : List Fact} {pr : Nat × Nat} {xs : List Int} {low t : Nat} (h : t < 5) : unread fs pr xs low t (rowOf fs pr t).length = sgAt fs pr xs low (t + 1) := by
  by_cases h5 : t + 1 < 5
  · rw [unread_next h5, sgAt_in h5]
  · obtain rfl : t = 4 := by lia
    exact unread_end
noncomputable def rowW (fs : List Fact) (pr : Nat × Nat) (low t : Nat) : List Str := (rowOf fs pr t).map fun k => wordOf (low + k)
noncomputable def rowsW (fs : List Fact) (pr : Nat × Nat) (low : Nat) : List (List Str) := (List.range 5).map (rowW fs pr low)
theorem unread_len {fs : List Fact} {pr : Nat × Nat} {xs : List Int} {low t i : Nat} (hl : low < 29) (hs : Small fs) (hp : pr.1 < 5 ∧ pr.2 < 5) (ht : t < 5) : (unread fs pr xs low t i).length ≤ 4000 := by
  have h := textOf_len (xs := xs) hl hs hp
  have len : ∀ j, j ≤ 5 → (leftOf low ((linesOf fs pr xs).drop j)).length ≤ 600 := fun j hj => by
    have e := text_left (fs := fs) (pr := pr) (xs := xs) (low := low) j hj
    rw [str_len, text_of, ← e, List.length_append] at h
    lia
  have h1 := len (t + 1) ht
  have h2 : (rowSg low (styleOf xs t) ((rowOf fs pr t).drop i)).length ≤ 90 := by
    have h3 := line_len hl (style_lt xs t).1 (row := (rowOf fs pr t).drop i) fun k hk => (row_ok hs hp t).2 k (List.mem_of_mem_drop hk)
    have h4 := (row_ok hs hp t).1
    rw [str_len, line_cps, List.length_append, List.length_drop] at h3
    simp only [List.length_cons, List.length_nil] at h3
    unfold rowSg
    lia
  have h0 : (if t = 0 ∨ 0 < i then ([] : List Nat) else [10]).length ≤ 1 := by split <;> simp
  unfold unread
  rw [List.length_append, List.length_append, List.length_cons]
  lia
theorem word_str (n : Nat) : (⟨(wordOf n).cps.toList.toArray⟩ : Str) = wordOf n := rfl
theorem rowW_take {fs : List Fact} {pr : Nat × Nat} {low t i k : Nat} (h : (rowOf fs pr t)[i]? = some k) : (rowW fs pr low t).take (i + 1) = (rowW fs pr low t).take i ++ [wordOf (low + k)] := by
  unfold rowW
  rw [List.take_succ, List.getElem?_map, h]
  rfl
theorem rowsW_take {fs : List Fact} {pr : Nat × Nat} {low t : Nat} (h : t < 5) : (rowsW fs pr low).take (t + 1) = (rowsW fs pr low).take t ++ [rowW fs pr low t] := by
  unfold rowsW
  rw [List.take_succ, List.getElem?_map, List.getElem?_range h]
  rfl
theorem rowsW_len (fs : List Fact) (pr : Nat × Nat) (low : Nat) : (rowsW fs pr low).length = 5 := by unfold rowsW; rw [List.length_map, List.length_range]
end Mine
end
section
open PySem PySem.W PyProof.Rows PySem.Calls PySem.Spec
set_option Elab.async false
set_option maxRecDepth 100000
namespace Mine
noncomputable def kvs0 (low : Nat) : List (Str × Str) := [(wordOf low, Str.ofString ""), (Txt.lower (wordOf low), wordOf (low + 1))]
theorem word_fit {n : Nat} (h : n < 33) : okStr (wordOf n) ∧ (wordOf n).length < 2 ^ 20 ∧ okStr (Txt.lower (wordOf n)) ∧ (Txt.lower (wordOf n)).length < 2 ^ 20 ∧ okStr (Txt.upper (wordOf n)) ∧ (Txt.upper (wordOf n)).length < 2 ^ 20 ∧ Txt.lower (Txt.upper (wordOf n)) = Txt.lower (wordOf n) ∧ Txt.lower (Txt.lower (wordOf n)) = Txt.lower (wordOf n) := by
  have hp := word_plain h
  have hl : (wordOf n).length < 2 ^ 20 := Nat.lt_of_le_of_lt (written_len ⟨n, h⟩ ⟨0, by decide⟩).2 (by decide)
  exact ⟨hp.ok, hl, hp.lower.ok, by rw [lower_len hp]; exact hl, hp.upper.ok, by rw [show Txt.upper (wordOf n) = cased true (wordOf n) from rfl, cased_len hp]; exact hl, lower_cased hp true, lower_cased hp false⟩
theorem empty_ok : okStr (Str.ofString "") := fun i hi => absurd hi (Nat.not_lt_zero i)
theorem kvs0_ok {low : Nat} (hl : low < 29) : ∀ kv ∈ kvs0 low, okStr kv.1 ∧ okStr kv.2 ∧ kv.1.length < 2 ^ 20 ∧ kv.2.length < 2 ^ 20 := fun kv hk => by
  have h0 := word_fit (by lia : low < 33)
  have h1 := word_fit (by lia : low + 1 < 33)
  rcases List.mem_cons.mp hk with rfl | hk
  · exact ⟨h0.1, empty_ok, h0.2.1, by show (Str.ofString "").length < 2 ^ 20; decide⟩
  · rw [List.mem_singleton.mp hk]
    exact ⟨h0.2.2.1, h1.1, h0.2.2.2.1, h1.2.1⟩
theorem kvs0_keys {low : Nat} (hl : low < 29) : ∀ kv ∈ kvs0 low, (Txt.lower kv.1).length < 2 ^ 20 ∧ kv.1.length < 2 ^ 20 := fun kv hk => by
  have h0 := word_fit (by lia : low < 33)
  rcases List.mem_cons.mp hk with rfl | hk
  · exact ⟨h0.2.2.2.1, h0.2.1⟩
  · rw [List.mem_singleton.mp hk]
    exact ⟨by rw [h0.2.2.2.2.2.2.2]; exact h0.2.2.2.1, h0.2.2.2.1⟩
theorem hget_kvs0 (low : Nat) : hget (kvs0 low) (Txt.lower (wordOf low)) = some (Str.ofString "") := by
  unfold hget kvs0
  rw [List.find?_cons_of_pos (by exact beq_self_eq_true _)]
  rfl
noncomputable def wS (low k : Nat) : Str := wordOf (low + k)
noncomputable def wN (low k : Nat) : Nat := 2 ^ (low + k)
noncomputable def kvsRun (low t : Nat) : List (Str × Str) := if t = 0 then kvs0 low else bookKv (List.range t) (wS low) (wN low)
theorem wd_low : ∀ i j : Fin 33, Txt.lower (wordOf i) = Txt.lower (wordOf j) → i = j := fun i j h => by
  have h2 : (Txt.lower (wordOf i)).cps.toList = (Txt.lower (wordOf j)).cps.toList := by rw [h]
  rw [lower_cps (word_plain i.2), lower_cps (word_plain j.2), word_wd, word_wd] at h2
  exact wd_inj i j h2
noncomputable def wL (low k : Nat) : Str := Txt.lower (wordOf (low + k))
theorem spells_run {low t : Nat} (hl : low < 29) (ht : t ≤ 5) : Spells (List.range t) (wS low) (wL low) :=
  ⟨fun k hk => rfl, fun k hk => Nat.lt_of_lt_of_le (List.mem_range.mp hk) ht, fun i j hi hj h => by
    have := wd_low ⟨low + i, by lia⟩ ⟨low + j, by lia⟩ h
    have := congrArg Fin.val this
    simp only at this
    lia⟩
theorem kvsRun_next {low t : Nat} (hl : low < 29) (ht : t < 5) : (kvsRun low t).filter (fun kv => Txt.lower kv.1 != Txt.lower (wordOf (low + t))) ++ [(wordOf (low + t), octStr (2 ^ (low + t)))] = kvsRun low (t + 1) := by
  cases t with
  | zero =>
    have h0 := word_fit (by lia : low < 33)
    show (kvs0 low).filter _ ++ _ = bookKv [0] _ _
    unfold kvs0
    rw [List.filter_cons_of_neg (by simp), List.filter_cons_of_neg (by simp [h0.2.2.2.2.2.2.2])]
    rfl
  | succ t =>
    show (bookKv (List.range (t + 1)) (wS low) (wN low)).filter _ ++ _ = bookKv (List.range (t + 1 + 1)) (wS low) (wN low)
    rw [book_put (spells_run hl (Nat.le_of_lt ht)) (k := t + 1) ht rfl, List.range_succ (n := t + 1)]
    have e1 : (List.range (t + 1)).filter (fun i => i != t + 1) = List.range (t + 1) := List.filter_eq_self.mpr fun i hi => by
      have := List.mem_range.mp hi
      simp only [bne_iff_ne, ne_eq]
      lia
    have e2 : upd (wS low) (t + 1) (wordOf (low + (t + 1))) = wS low := by
      funext i
      unfold upd
      split
      · rename_i h; rw [h]; rfl
      · rfl
    have e3 : upd (wN low) (t + 1) (2 ^ (low + (t + 1))) = wN low := by
      funext i
      unfold upd
      split
      · rename_i h; rw [h]; rfl
      · rfl
    rw [e1, e2, e3]
theorem kvsRun_keys {low t : Nat} (hl : low < 29) (ht : t ≤ 5) : ∀ kv ∈ kvsRun low t, (Txt.lower kv.1).length < 2 ^ 20 ∧ kv.1.length < 2 ^ 20 := by
  unfold kvsRun
  split
  · exact kvs0_keys hl
  · intro kv hk
    obtain ⟨k, hk2, rfl⟩ := List.mem_map.mp hk
    have := List.mem_range.mp hk2
    have h0 := word_fit (by lia : low + k < 33)
    exact ⟨h0.2.2.2.1, h0.2.1⟩
theorem kvsRun_len (low t : Nat) : (kvsRun low t).length ≤ t + 2 := by
  unfold kvsRun
  split
  · exact Nat.le_add_left 2 t
  · unfold bookKv; rw [List.length_map, List.length_range]; lia
theorem octA_ok : ∀ r : Fin 64, okC (octA r) = true ∧ okC (octB r) = true ∧ octA r < 256 ∧ octB r < 256 := by decide +kernel
theorem octGo_ok : ∀ (f n : Nat) (l : List Nat), (∀ c ∈ l, okC c = true ∧ c < 256) → ∀ c ∈ octGo f n l, okC c = true ∧ c < 256
  | 0, _, _, h => h
  | f + 1, n, l, h => by
    unfold octGo
    split
    · refine octGo_ok f _ _ fun c hc => ?_
      rcases List.mem_cons.mp hc with rfl | hc
      · rw [octB_64]
        have := octA_ok ⟨n / 64 % 64, Nat.mod_lt _ (by decide)⟩
        exact ⟨this.2.1, this.2.2.2⟩
      · exact h c hc
    · exact h
theorem octs_ok (n : Nat) : ∀ c ∈ octs n, okC c = true ∧ c < 256 := by
  unfold octs
  refine octGo_ok 10 n _ fun c hc => ?_
  rw [List.mem_singleton.mp hc, octA_64]
  have := octA_ok ⟨n % 64, Nat.mod_lt _ (by decide)⟩
  exact ⟨this.1, this.2.2.1⟩
theorem octStr_ok (n : Nat) : okStr (octStr n) := fun i hi => by
  have hm : (octStr n).cps.getD i 0 ∈ (octs n) := by
    have : (octStr n).cps.getD i 0 = (octStr n).cps[i] := by rw [Array.getD_eq_getD_getElem?, Array.getElem?_eq_getElem hi]; rfl
    rw [this]
    exact List.mem_toArray.mp (Array.getElem_mem hi)
  exact (octs_ok n _ hm).1
theorem octStr_len {n : Nat} (h : n < 2 ^ 40) : (octStr n).length < 2 ^ 20 := by
  obtain ⟨n0, ns, e, c, l, v⟩ := octs_spec h
  rw [str_len]
  show (octs n).length < _
  rw [e, List.length_cons]
  exact Nat.lt_of_le_of_lt (Nat.succ_le_succ l) (by decide)
theorem wN_lt {low k : Nat} (hl : low < 29) (hk : k < 5) : 2 ^ (low + k) < 2 ^ 40 := Nat.pow_lt_pow_right (by decide) (by lia)
end Mine
end
section
open PySem PySem.W PyProof.Rows PySem.Calls PySem.Spec
set_option Elab.async false
set_option maxRecDepth 100000
namespace Mine
theorem lw_word {low z : Nat} (h : z < 5) : lwOf (wordsL low) z = Txt.lower (wordOf (low + z)) := by unfold lwOf; rw [wordsL_at h]
theorem rowW_pair {fs : List Fact} {pr : Nat × Nat} {low : Nat} (h4 : fs.length = 4) : rowW fs pr low 4 = [wordOf (low + pr.1), wordOf (low + pr.2)] := by
  unfold rowW rowOf
  rw [List.getElem?_eq_none (by rw [h4]; exact Nat.le_refl 4)]
  rfl
theorem rowsW_get {fs : List Fact} {pr : Nat × Nat} {low t : Nat} (h : t < 5) : (rowsW fs pr low)[t]? = some (rowW fs pr low t) := by
  unfold rowsW
  rw [List.getElem?_map, List.getElem?_range h]
  rfl
theorem push_pair {pr : Nat × Nat} {low : Nat} (hp : pr.1 < 5 ∧ pr.2 < 5) : pushL (wordsL low) [pr] = [Txt.lower (wordOf (low + pr.1)), Txt.lower (wordOf (low + pr.2))] := by
  unfold pushL
  rw [← lw_word hp.1, ← lw_word hp.2]
  rfl
end Mine
end
section
open PySem PySem.W PyProof.Rows PySem.Calls PySem.Spec
set_option Elab.async false
set_option maxRecDepth 100000
namespace Mine
noncomputable def nOf (M : List Nat) (low k : Nat) : Nat := mkk M k * 2 ^ low
theorem or_sh (a b n : Nat) : a * 2 ^ n ||| b * 2 ^ n = (a ||| b) * 2 ^ n := by
  rw [← Nat.shiftLeft_eq, ← Nat.shiftLeft_eq, ← Nat.shiftLeft_eq, Nat.shiftLeft_or_distrib]
theorem and_sh (a b n : Nat) : a * 2 ^ n &&& b * 2 ^ n = (a &&& b) * 2 ^ n := by
  rw [← Nat.shiftLeft_eq, ← Nat.shiftLeft_eq, ← Nat.shiftLeft_eq, Nat.shiftLeft_and_distrib]
theorem sh_inj {a b n : Nat} : a * 2 ^ n = b * 2 ^ n ↔ a = b := ⟨fun h => Nat.eq_of_mul_eq_mul_right (Nat.pow_pos (by decide)) h, fun h => by rw [h]⟩
theorem m_lt {M : List Nat} (hM : M ∈ parts) {k : Nat} (hk : k < 5) : 0 < mkk M k ∧ mkk M k < 32 := by
  have := (parts_bits M hM).2 ⟨k, hk⟩
  exact ⟨this.2.1, this.1⟩
theorem sh_lt {low x : Nat} (hl : low < 29) (hx : x < 32) : x * 2 ^ low < 2 ^ 40 := by
  have h1 : x * 2 ^ low < 2 ^ 5 * 2 ^ low := Nat.mul_lt_mul_of_pos_right hx (Nat.pow_pos (by decide))
  rw [← Nat.pow_add] at h1
  exact Nat.lt_of_lt_of_le h1 (Nat.pow_le_pow_right (by decide) (by lia))
theorem nOf_lt {low : Nat} {M : List Nat} (hl : low < 29) (hM : M ∈ parts) {k : Nat} (hk : k < 5) : nOf M low k < 2 ^ 40 := sh_lt hl (m_lt hM hk).2
structure LoopP (fs : List Fact) (pr : Nat × Nat) (low : Nat) (M : List Nat) (pend : List (Nat × Nat)) (St : List Nat) (S : Nat → Str) (t : Nat) : Prop where
  inv : Inv fs pr M pend
  cnt : t + pend.length + 3 * (ncl M - 1) ≤ 16
  sp : Spells St S (wL low)
  perm : St.Perm (List.range 5)
  pl : ∀ k, k < 5 → Plain (S k) ∧ (S k).length < 2 ^ 20
section
variable {fs : List Fact} {pr : Nat × Nat} {low : Nat} {M : List Nat} {pend : List (Nat × Nat)} {St : List Nat} {S : Nat → Str} {t : Nat}
theorem LoopP.all (h : LoopP fs pr low M pend St S t) : ∀ j, j < 5 → j ∈ St := fun j hj => h.perm.mem_iff.mpr (List.mem_range.mpr hj)
theorem LoopP.len (h : LoopP fs pr low M pend St S t) : St.length = 5 := h.perm.length_eq.trans List.length_range
theorem LoopP.start (hl : low < 29) (hs : Small fs) (hp : pr.1 < 5 ∧ pr.2 < 5) (h4 : fs.length = 4) : LoopP fs pr low [1, 2, 4, 8, 16] (pr :: pushes [1, 2, 4, 8, 16] fs) [0, 1, 2, 3, 4] (wS low) 0 :=
  ⟨Inv.start hs hp, by
    have := pushes_len (M := [1, 2, 4, 8, 16]) h4
    rw [ncl_start, List.length_cons]
    lia, spells_run hl (Nat.le_refl 5), List.Perm.refl _, fun k hk => ⟨word_plain (by lia), (word_fit (by lia : low + k < 33)).2.1⟩⟩
theorem pow5 : ∀ k : Fin 5, mkk [1, 2, 4, 8, 16] k = 2 ^ k.val := by decide +kernel
theorem book_congr {N N' : Nat → Nat} {S' : Nat → Str} (h : ∀ k ∈ St, S k = S' k ∧ N k = N' k) : bookKv St S N = bookKv St S' N' := by
  unfold bookKv
  exact List.map_congr_left fun k hk => by rw [(h k hk).1, (h k hk).2]
theorem kvsRun5 (low : Nat) : kvsRun low 5 = bookKv [0, 1, 2, 3, 4] (wS low) (nOf [1, 2, 4, 8, 16] low) := by
  show bookKv (List.range 5) (wS low) (wN low) = _
  refine book_congr fun k hk => ⟨rfl, ?_⟩
  have hk := List.mem_range.mp hk
  unfold wN nOf
  rw [pow5 ⟨k, hk⟩, ← Nat.pow_add, Nat.add_comm]
theorem LoopP.skip {q : Nat × Nat} (h : LoopP fs pr low M (q :: pend) St S t) (e : Rel M q.1 q.2) : LoopP fs pr low M pend St S (t + 1) :=
  ⟨h.inv.skip e, by have := h.cnt; rw [List.length_cons] at this; lia, h.sp, h.perm, h.pl⟩
noncomputable def mergedOf (M : List Nat) (both : Nat) : List Nat := (List.range 5).filter fun k => decide (both &&& mkk M k = mkk M k)
noncomputable def bothOf (M : List Nat) (q : Nat × Nat) : Nat := mkk M q.1 ||| mkk M q.2
noncomputable def stI (St ms : List Nat) : List Nat := St.filter (fun k => !ms.contains k) ++ ms
noncomputable def fI {α : Type} (f g : Nat → α) (ms : List Nat) (k : Nat) : α := if ms.contains k then g k else f k
theorem fI_in {α : Type} {f g : Nat → α} {ms : List Nat} {k : Nat} (h : k ∈ ms) : fI f g ms k = g k := if_pos (List.contains_iff_mem.mpr h)
theorem fI_out {α : Type} {f g : Nat → α} {ms : List Nat} {k : Nat} (h : k ∉ ms) : fI f g ms k = f k := if_neg fun e => h (List.contains_iff_mem.mp e)
theorem stI_nil (St : List Nat) : stI St [] = St := by
  unfold stI
  rw [List.append_nil]
  exact List.filter_eq_self.mpr fun _ _ => rfl
theorem fI_nil {α : Type} (f g : Nat → α) : fI f g [] = f := rfl
theorem stI_next {ms : List Nat} {k : Nat} (h : k ∉ ms) : (stI St ms).filter (fun i => i != k) ++ [k] = stI St (ms ++ [k]) := by
  unfold stI
  rw [List.filter_append, List.filter_filter, ← List.append_assoc]
  congr 1
  have e1 : ms.filter (fun i => i != k) = ms := List.filter_eq_self.mpr fun i hi => by
    simp only [bne_iff_ne, ne_eq]
    rintro rfl
    exact h hi
  rw [e1]
  congr 1
  refine List.filter_congr fun i _ => ?_
  have h1 : ((!ms.contains i) = true) ↔ i ∉ ms := by rw [Bool.not_eq_true', ← Bool.not_eq_true, List.contains_iff_mem]
  have h2 : ((!(ms ++ [k]).contains i) = true) ↔ i ∉ ms ++ [k] := by rw [Bool.not_eq_true', ← Bool.not_eq_true, List.contains_iff_mem]
  rw [Bool.eq_iff_iff, Bool.and_eq_true, h1, h2, bne_iff_ne, List.mem_append, List.mem_singleton]
  exact ⟨fun ⟨a, b⟩ c => c.elim (fun x => by first | exact a x | exact b x) (fun x => by first | exact b x | exact a x), fun c => by
    constructor
    · intro x; exact c (by first | exact .inl x | exact .inr x)
    · intro x; exact c (by first | exact .inl x | exact .inr x)⟩
theorem fI_next {α : Type} {f g : Nat → α} {ms : List Nat} {k : Nat} : upd (fI f g ms) k (g k) = fI f g (ms ++ [k]) := by
  funext i
  unfold upd
  by_cases e : i = k
  · subst e
    rw [if_pos rfl, fI_in (List.mem_append_right _ (.head _))]
  · rw [if_neg e]
    by_cases h : i ∈ ms
    · rw [fI_in h, fI_in (List.mem_append_left _ h)]
    · rw [fI_out h, fI_out fun hi => (List.mem_append.mp hi).elim h fun hi => e (List.mem_singleton.mp hi)]
noncomputable def sC (low : Nat) (up : Bool) (k : Nat) : Str := cased up (wordOf (low + k))
theorem sC_ok {up : Bool} {k : Nat} (hl : low < 29) (hk : k < 5) : Txt.lower (sC low up k) = wL low k ∧ Plain (sC low up k) ∧ (sC low up k).length < 2 ^ 20 := by
  have hp := word_plain (by lia : low + k < 33)
  exact ⟨lower_cased hp up, hp.cased up, by unfold sC; rw [cased_len hp]; exact (word_fit (by lia : low + k < 33)).2.1⟩
theorem mg_lt {both k : Nat} (h : k ∈ mergedOf M both) : k < 5 := List.mem_range.mp (List.mem_filter.mp h).1
theorem mg_nodup (M : List Nat) (both : Nat) : (mergedOf M both).Nodup := List.nodup_range.filter _
theorem spells_in {up : Bool} {ms : List Nat} (hl : low < 29) (h : Spells St S (wL low)) (hm : ∀ k ∈ ms, k < 5) : Spells (stI St ms) (fI S (sC low up) ms) (wL low) := by
  have key : ∀ k ∈ stI St ms, k < 5 ∧ (k ∈ ms ∨ k ∈ St) := fun k hk => by
    rcases List.mem_append.mp hk with hk | hk
    · have := (List.mem_filter.mp hk).1
      exact ⟨h.lt k this, .inr this⟩
    · exact ⟨hm k hk, .inl hk⟩
  refine ⟨fun k hk => ?_, fun k hk => (key k hk).1, h.inj⟩
  by_cases e : k ∈ ms
  · rw [fI_in e]; exact (sC_ok hl (hm k e)).1
  · rw [fI_out e]; exact h.low k ((key k hk).2.resolve_left e)
theorem put_in {up : Bool} {ms : List Nat} {k b : Nat} {N : Nat → Nat} (hl : low < 29) (h : Spells St S (wL low)) (hm : ∀ k ∈ ms, k < 5) (hk : k < 5) (hn : k ∉ ms) :
    (bookKv (stI St ms) (fI S (sC low up) ms) (fI N (fun _ => b) ms)).filter (fun kv => Txt.lower kv.1 != Txt.lower (sC low up k)) ++ [(sC low up k, octStr b)] = bookKv (stI St (ms ++ [k])) (fI S (sC low up) (ms ++ [k])) (fI N (fun _ => b) (ms ++ [k])) := by
  rw [book_put (spells_in hl h hm) hk (sC_ok hl hk).1, stI_next hn, fI_next, show upd (fI N (fun _ => b) ms) k b = upd (fI N (fun _ => b) ms) k ((fun _ => b) k) from rfl, fI_next]
theorem join_at {q : Nat × Nat} (hM : M ∈ parts) {k : Nat} (hk : k < 5) : mkk (joinM M (bothOf M q)) k = if k ∈ mergedOf M (bothOf M q) then bothOf M q else mkk M k := by
  have hlen := (parts_bits M hM).1
  have hk' : k < M.length := by rw [hlen]; exact hk
  have e : mkk M k = M[k] := by show M.getD k 0 = _; rw [List.getD_eq_getElem?_getD, List.getElem?_eq_getElem hk']; rfl
  have e2 : mkk (joinM M (bothOf M q)) k = if bothOf M q &&& mkk M k = mkk M k then bothOf M q else mkk M k := by
    rw [e]
    show (List.map _ M).getD k 0 = _
    rw [List.getD_eq_getElem?_getD, List.getElem?_map, List.getElem?_eq_getElem hk']
    rfl
  rw [e2]
  have h2 : k ∈ mergedOf M (bothOf M q) ↔ bothOf M q &&& mkk M k = mkk M k := by
    unfold mergedOf
    rw [List.mem_filter, List.mem_range, decide_eq_true_iff]
    exact ⟨fun h => h.2, fun h => ⟨hk, h⟩⟩
  by_cases h : bothOf M q &&& mkk M k = mkk M k
  · rw [if_pos h, if_pos (h2.mpr h)]
  · rw [if_neg h, if_neg fun e => h (h2.mp e)]
theorem merge_ar {t p q a b : Nat} (h1 : t + (p + 1) + 3 * (a - 1) ≤ 16) (h2 : q ≤ 3) (h3 : b + 1 = a) (h4 : 1 ≤ b) : t + 1 + (p + q) + 3 * (b - 1) ≤ 16 := by
  subst h3
  rw [Nat.add_sub_cancel] at h1
  lia
theorem LoopP.merge {q : Nat × Nat} {up : Bool} (hl : low < 29) (hs : Small fs) (h4 : fs.length = 4) (h : LoopP fs pr low M (q :: pend) St S t) (e : ¬ Rel M q.1 q.2) :
    LoopP fs pr low (joinM M (bothOf M q)) (pend ++ pushes (joinM M (bothOf M q)) fs) (stI St (mergedOf M (bothOf M q))) (fI S (sC low up) (mergedOf M (bothOf M q))) (t + 1) := by
  have hq := h.inv.lt q (List.mem_cons_self ..)
  have J := parts_join M h.inv.part ⟨q.1, hq.1⟩ ⟨q.2, hq.2⟩ e
  refine ⟨h.inv.merge hs e, ?_, spells_in hl h.sp fun k hk => mg_lt hk, ?_, fun k hk => ?_⟩
  · have h1 := h.cnt
    have h2 := pushes_len (M := joinM M (bothOf M q)) h4
    have h3 : ncl (joinM M (bothOf M q)) + 1 = ncl M := J.2.1
    have h5 := (ncl_pos _ J.1).1
    have h5 : 1 ≤ ncl (joinM M (bothOf M q)) := h5
    rw [List.length_append]
    exact merge_ar h1 h2 h3 h5
  · unfold stI
    have e1 : St.filter (fun k => !(mergedOf M (bothOf M q)).contains k) = St.filter fun k => !decide (bothOf M q &&& mkk M k = mkk M k) := List.filter_congr fun k hk => by
      have hk5 := h.sp.lt k hk
      congr 1
      rw [Bool.eq_iff_iff, List.contains_iff_mem, mergedOf, List.mem_filter, List.mem_range]
      exact ⟨fun h => h.2, fun h => ⟨hk5, h⟩⟩
    rw [e1]
    refine ((h.perm.filter _).append_right _).trans (List.perm_append_comm.trans ?_)
    exact List.filter_append_perm _ _
  · by_cases hm : k ∈ mergedOf M (bothOf M q)
    · rw [fI_in hm]; exact (sC_ok hl hk).2
    · rw [fI_out hm]; exact h.pl k hk
theorem book_merged {q : Nat × Nat} {up : Bool} (h : LoopP fs pr low M (q :: pend) St S t) : bookKv (stI St (mergedOf M (bothOf M q))) (fI S (sC low up) (mergedOf M (bothOf M q))) (fI (nOf M low) (fun _ => bothOf M q * 2 ^ low) (mergedOf M (bothOf M q))) =
    bookKv (stI St (mergedOf M (bothOf M q))) (fI S (sC low up) (mergedOf M (bothOf M q))) (nOf (joinM M (bothOf M q)) low) := by
  refine book_congr fun k hk => ⟨rfl, ?_⟩
  have h5 : k < 5 := by
    rcases List.mem_append.mp hk with hk | hk
    · exact h.sp.lt k (List.mem_filter.mp hk).1
    · exact mg_lt hk
  unfold nOf
  rw [join_at h.inv.part h5]
  by_cases hm : k ∈ mergedOf M (bothOf M q)
  · rw [fI_in hm, if_pos hm]
  · rw [fI_out hm, if_neg hm]
theorem LoopP.keys (h : LoopP fs pr low M pend St S t) (N : Nat → Nat) : ∀ kv ∈ bookKv St S N, (Txt.lower kv.1).length < 2 ^ 20 ∧ kv.1.length < 2 ^ 20 := fun kv hk => by
  obtain ⟨k, hk2, rfl⟩ := List.mem_map.mp hk
  have := h.pl k (h.sp.lt k hk2)
  exact ⟨by rw [lower_len this.1]; exact this.2, this.2⟩
theorem LoopP.tells (hl : low < 29) (h : LoopP fs pr low M pend St S t) : Tells5 (bookKv St S (nOf M low)) (wordsL low) (nOf M low) :=
  tells_book h.sp h.all (wordsL_len low) (fun j x hx => by
    have hj : j < 5 := by have := (List.getElem?_eq_some_iff.mp hx).1; rw [wordsL_len] at this; exact this
    rw [wordsL_get hj] at hx
    cases hx
    exact ⟨rfl, word_plain (by lia), (word_fit (by lia : low + j < 33)).2.1⟩) (fun k hk => h.pl k (h.sp.lt k hk)) fun j hj => nOf_lt hl h.inv.part hj
theorem LoopP.round (hl : low < 29) (h : LoopP fs pr low M pend St S t) : RoundOk (wordsL low) (nOf M low) M :=
  round_ok hl (fun z hz => wordsL_at hz) (fun i hi => m_lt h.inv.part hi) fun i hi => rfl
theorem LoopP.hget (hl : low < 29) (h : LoopP fs pr low M pend St S t) {j : Nat} {x : Str} (hj : j < 5) (hx : Txt.lower x = wL low j) : ∃ n0 ns, hget (bookKv St S (nOf M low)) (Txt.lower x) = some ⟨(n0 :: ns).toArray⟩ ∧ contOk n0 ns ∧ ns.length ≤ 8 ∧ vGo (n0 % 64) ns = nOf M low j := by
  obtain ⟨n0, ns, e, c, l, v⟩ := octs_spec (nOf_lt hl h.inv.part hj)
  refine ⟨n0, ns, ?_, c, l, v⟩
  rw [hx, hget_book h.sp (h.all j hj)]
  unfold octStr
  rw [e]
theorem push_all (W : List Str) (M : List Nat) {fs : List Fact} (h4 : fs.length = 4) : pushAt W M fs 4 = pushL W (pushes M fs) := by unfold pushAt pushes; rw [h4]
theorem pushL_app (W : List Str) (a b : List (Nat × Nat)) : pushL W (a ++ b) = pushL W a ++ pushL W b := by unfold pushL; rw [List.flatMap_append]
theorem pushL_len (W : List Str) : ∀ a : List (Nat × Nat), (pushL W a).length = 2 * a.length
  | [] => rfl
  | q :: r => by
    show (lwOf W q.1 :: lwOf W q.2 :: pushL W r).length = _
    rw [List.length_cons, List.length_cons, List.length_cons, pushL_len W r]
    lia
theorem pushL_sok (hl : low < 29) : ∀ {a : List (Nat × Nat)}, (∀ q ∈ a, q.1 < 5 ∧ q.2 < 5) → ∀ x ∈ pushL (wordsL low) a, PyData.strOk x = true := fun h x hx => by
  obtain ⟨q, hq, hx⟩ := List.mem_flatMap.mp hx
  have := h q hq
  rcases List.mem_cons.mp hx with rfl | hx
  · rw [lw_word this.1]; exact (word_plain (by lia)).lower.strOk
  · rw [List.mem_singleton.mp hx, lw_word this.2]; exact (word_plain (by lia)).lower.strOk
end
end Mine
end
section
local macro_rules | `(tactic| walk_at "eval Name") => `(tactic| (k_here; k_dflt (apply Mine.name_ck; eq_refl; eq_refl; decide; eq_refl; k_asm; assumption; wtm_at "per"; wtm_at "ar"; k_whole)))
local macro_rules | `(tactic| walk_at "loadName") => `(tactic| (k_here; k_dflt (apply Mine.load_ck; eq_refl; eq_refl; eq_refl; k_asm; assumption; wtm_at "per"; wtm_at "ar"; k_whole)))
local macro_rules | `(tactic| walk_at "storeName") => `(tactic| (k_here; k_dflt (apply Mine.store_ck; eq_refl; eq_refl; eq_refl; k_asm; k_asm; wtm_at "split"; assumption; (first | (apply Mine.nc_all; eq_refl) | repeat' (first | exact Mine.nc_none | refine Mine.nc_cons (by first | exact Mine.safe_seq | assumption) ?_)); exact Mine.lawCl_n1 _; exact Mine.lawCl_n2 _; eq_refl; eq_refl; assumption); intro h' CK' F' N' C'; (try simp only [List.cons_append, List.nil_append] at N')))
local macro_rules | `(tactic| wtm_at "split") => `(tactic| first | exact Mine.Split.here | (apply Mine.Split.cons; wtm_at "split"))
section
open PySem PySem.W PyProof.Rows PySem.Calls PySem.Spec
set_option Elab.async false
set_option maxRecDepth 100000
set_option maxHeartbeats 0
namespace Mine
section
variable {w : World} {p : Program} {loose : List Str} {mean : ExcName → Option Value} {mg mb : Str → Option Value} {dp un : Nat} {gd : Option (List Code)} {cn : Str} {a : Addr} {ccd : Value} {A₀ : Around} {base h₀ : Heap} {L : Addr} {m cm : Str → Option Value} {s : Shared} {CK R : Led}
theorem slice3_ints {prog : Program} {A : Around} {E : Value → Shared → Prop} {news : Led} {value slice : PySem.Expr} {l : Addr} {vs : List Value} {ns : List Int} {vl vu vk : Value} {lo hi st : Option Int} {ops : List Value} {Q : Value → Shared → Prop} (F : Fr h₀ L s.heap m) (N : News h₀ L s.heap news) (hl : s.heap.IsList l vs.toArray) (pl : IsPart vl lo) (pu : IsPart vu hi) (pk : IsPart vk st) (h0 : st ≠ some 0) (hI : IntsAre vs ns)
    (h : ∀ D zs ms h', Fr h₀ L h' m → News h₀ L h' ((D, listOf (List.toArray zs) 0) :: news) → (∀ p ∈ news, p.1 < D) → IntsAre zs ms → Q (.ref D) { s with heap := h' })
    (hs : subscripted slice false (.ref l) (.ref s.heap.objs.size) = operate ops (getItem (.ref l) (.ref s.heap.objs.size))) (ht : ∀ r, letTemporaryGo value (.ref l) r = pure ()) (hz : vs.toArray.size ≤ sizeLine) :
    wpAny (model prog w) A (subscriptTail value slice (.ref l) (.ref s.heap.objs.size)) Q E { s with heap := s.heap.push { cls := .type "slice", data := .fields #[vl, vu, vk] } } :=
  kmk_slice3_lit F N hl pl pu pk h0 rfl (fun D h' F' N' l1 => h D _ _ h' F' N' l1 (hI.pick lo hi st)) hs ht hz
theorem mod_nat {x : Int} {a b : Nat} (ha : 0 < b) : ∃ n : Nat, n < b ∧ (x.fmod (a : Int)).fmod (b : Int) = (n : Int) := by
  have h0 : 0 ≤ (x.fmod (a : Int)).fmod (b : Int) := Int.fmod_nonneg_of_pos _ (Int.ofNat_lt.mpr ha)
  have h1 : (x.fmod (a : Int)).fmod (b : Int) < (b : Int) := Int.fmod_lt_of_pos _ (Int.ofNat_lt.mpr ha)
  exact ⟨_, (Int.toNat_lt h0).mpr h1, (Int.toNat_of_nonneg h0).symm⟩
theorem FactsIn.snoc {r r' : Led} {vs : List Value} {fs : List Fact} {d : Addr} {f : Fact} {t1 t2 t3 : Tok} {n : Nat} (h : FactsIn r vs fs) (hm : (d, tup3 f t1 t2 t3 n) ∈ r') (hs : ∀ p ∈ r, p ∈ r') : FactsIn r' (vs ++ [Value.ref d]) (fs ++ [f]) :=
  ⟨by rw [List.length_append, List.length_append, h.len]; rfl, fun i g e => by
    rcases Nat.lt_trichotomy i fs.length with hi | hi | hi
    · rw [List.getElem?_append_left hi] at e
      obtain ⟨t, u1, u2, u3, z, hv, hm'⟩ := h.at_ i g e
      exact ⟨t, u1, u2, u3, z, by rw [List.getElem?_append_left (by rw [h.len]; exact hi)]; exact hv, hs _ hm'⟩
    · subst hi
      rw [List.getElem?_append_right (Nat.le_refl _), Nat.sub_self] at e
      cases e
      exact ⟨d, t1, t2, t3, n, by rw [← h.len, List.getElem?_append_right (Nat.le_refl _), Nat.sub_self]; rfl, hm⟩
    · rw [List.getElem?_eq_none (by rw [List.length_append]; exact hi)] at e
      cases e⟩
theorem news_l1 {h : Heap} {f x1 x2 t : Addr × Obj} {add CK R : Led} (N : News h₀ L h (f :: (add ++ x1 :: x2 :: (CK ++ t :: R)))) : News h₀ L h (CK ++ t :: (f :: x2 :: (add ++ R))) := news_sub N fun p hp => by
  exact Mine.sub_at hp (by wtm_at "per")
theorem news_l2 {h : Heap} {x : Addr} {q1 q2 n : Nat} {t1 t2 : Tok} {t : Addr × Obj} {CK R : Led} (N : News h₀ L h ((x, ({ cls := .type "tuple", data := .seq #[.int (q1 : Int) t1, .int (q2 : Int) t2] n } : Obj)) :: (CK ++ t :: R))) : News h₀ L h (CK ++ t :: ((x, tup2 (q1, q2) t1 t2 n) :: R)) := news_sub N fun p hp => by
  simp only [List.mem_append, List.mem_cons] at hp ⊢
  rcases hp with h | h | h | h <;> simp only [h, true_or, or_true]
  exact .inl rfl
theorem tup_ex {h : Heap} {x : Addr} {q : Nat × Nat} {n : Nat} {t1 t2 : Tok} {t : Addr × Obj} {CK R : Led} (N : News h₀ L h (CK ++ t :: ((x, tup2 q t1 t2 n) :: R))) : ∃ u1 u2 n2, News h₀ L h (CK ++ t :: ((x, tup2 q u1 u2 n2) :: R)) := ⟨_, _, _, N⟩
theorem law_1 {sa : Addr} {svs : List Value} {ns : List Int} {Q : Flow → Shared → Prop} {E : Value → Shared → Prop}
    (hB : Below A₀ base [] h₀) (hX : Frag.In (Mine.pb.heap_1 w.params) h₀) (hT : Top p loose mean mg mb h₀) (hd : dp + 40 < recursionLimit) (hu : un + 400 < cLine)
    (F : Fr h₀ L s.heap m) (N : News h₀ L s.heap (CK ++ (290, tabObj #[]) :: R)) (HC : CellsAre cm (lawCl L) CK) (hL : 290 < L) (hR : ∀ p ∈ R, OffL L p.1)
    (hs : h₀.IsList sa svs.toArray) (hi : IntsAre svs ns) (hn : ns.length ≤ 63) (hcs : cm (Str.ofString "script") = some (.ref sa))
    (k : ∀ (d : Dat1) (m' cm' : Str → Option Value) (R' : Led) (h' : Heap) (tk' tlow : Tok), St1 h₀ L h' m' cm' R' → Ok1 d R' →
      m' (Str.ofString "facts") = some (.ref d.fl) → m' (Str.ofString "pair") = some (.ref d.pa) → cm' (Str.ofString "cells") = some (.ref d.ca) → cm' (Str.ofString "low") = some (.int (d.low : Int) tlow) → Q .next { s with heap := h', toks := tk' }) :
    wpAny (model PySem.Challenge.rw_ti0052_01.prog w) (lawA dp un gd cn L a ccd) (execs (seg 0 4) (lawEnv cn L a ccd)) Q E s := by
  revert hX; k_fill; intro hX
  have hR2 := offs_tab (tb := tabObj #[]) hL hR
  show wpAny _ _ (execs [_, _, _, _] _) _ _ _
  (show (let V := _; let A9 := _; wpAny _ A9 (execs _ V) _ _ _)); intro V A9
  wtm_at "mQ"
  rename News _ _ _ _ => N9
  rename CellsAre _ _ _ => HC9
  rename Fr _ _ _ _ => F9
  obtain ⟨fv, hfv, N8⟩ := hd_gen N9
  have hfi : IntsAre fv [2311, 1422, 10, 402, 921] := by rw [hfv]; exact .cons _ _ (.cons _ _ (.cons _ _ (.cons _ _ (.cons _ _ .nil))))
  clear hfv N9
  have N9 := N8
  clear N8
  obtain ⟨oF, mF, dF⟩ := cells_at HC9 (y := Str.ofString "fixed") rfl
  obtain ⟨oS, mS, dS⟩ := cells_at HC9 (y := Str.ofString "script") rfl
  have dS : oS.data = .cell (some (.ref sa)) := by rw [dS, upS_ne (by decide), hcs]
  rw [upS_eq] at dF
  refine wpAny_Assign_Name ?_ ?_
  rotate_left
  with_unfolding_all rfl
  refine comp_open (cl := _) (by rfl) ?_
  wtm_at "mQ"
  rename IsRange _ _ _ _ _ _ _ _ => hRg
  rename News _ _ _ _ => N9
  rename Fr _ _ _ _ => F9
  try dsimp only
  refine comp_K0 (n := 5) (src_range hRg (by decide) (by decide)) F9 N9 (by decide) (fun i ys => ∃ xs : List Int, IntsAre ys xs ∧ xs.length = i) ⟨[], .nil, rfl⟩ ?turn ?done
  case turn =>
    intro E2 Ky Kn C R2 oC mc i v ys h9 tk9 hi5 hv hyl hRR hoffC nC F10 N10 hy hx hys
    have e1 := hRR _ (.head _)
    have e2 := hRR _ (.tail _ (List.mem_append_left _ mF))
    have e3 := hRR _ (.tail _ (List.mem_append_left _ mS))
    clear F9 N9 hx hRR
    (first | (with_reducible show wpAny _ _ _ _ _ _; generalize hGoal94 : wpAny _ _ _ _ _ _ = Goal94) | (dsimp only; with_reducible show wpAny _ _ _ _ _ _; generalize hGoal94 : wpAny _ _ _ _ _ _ = Goal94) | (generalize hGoal94 : True = Goal94))
    obtain ⟨tv, rfl⟩ := hv
    obtain ⟨v5, hv5⟩ : ∃ v5, fv[i]? = some v5 := ⟨_, List.getElem?_eq_getElem (by rw [hfi.length]; exact hi5)⟩
    obtain ⟨f, tf, rfl, _⟩ := hfi.at _ _ hv5
    subst hGoal94
    rw [show (0 : Int) + (i : Int) = (i : Int) from Int.zero_add _]
    refine own_name (o := oC) F10 N10 nC hoffC ?_
    intro oC2 h14 tk14 nC2 F14 N14
    clear F10 N10
    refine ifs_nil ?_
    try dsimp only
    wtm_at "mQX"
    skip -- M0
    k_here; k_dflt (refine' slice3_ints ?Fsl ?Nsl ?lsl ?psl ?qsl ?ksl ?osl ?isl ?_ ?ssl ?tsl ?zsl)
    case Fsl => k_asm
    case Nsl => k_asm
    case lsl => kmk_list
    case psl => kmk_part
    case qsl => kmk_part
    case ksl => kmk_part
    case osl => decide
    case isl => assumption
    case ssl => with_unfolding_all rfl
    case tsl => kmk_pure
    case zsl => rw [List.size_toArray, hi.length]; exact Nat.le_trans hn (by decide)
    intro D9 zs ms h20 F20 N20 l20 hms
    skip -- M1
    try dsimp only
    wtm_at "mQX"
    rename Fr _ _ _ _ => F21
    rename News _ _ _ _ => N21
    refine hy _ oC2 _ _ _ ?_ nC2 F21 (news_drop N21)
    obtain ⟨xs, h1, h2⟩ := hys
    exact ⟨xs ++ [_], h1.append (.cons _ _ .nil), by rw [List.length_append, h2]; rfl⟩
  case done =>
    intro D ys yk h9 tk9 hys hyl hlt F10 N10
    clear F9 N9
    (first | (with_reducible show wpAny _ _ _ _ _ _; generalize hGoal95 : wpAny _ _ _ _ _ _ = Goal95) | (dsimp only; with_reducible show wpAny _ _ _ _ _ _; generalize hGoal95 : wpAny _ _ _ _ _ _ = Goal95) | (generalize hGoal95 : True = Goal95))
    obtain ⟨xs, hI, hx5⟩ := hys
    subst hGoal95
    have N10 := drop2 N10
    try dsimp only
    wtm_at "mQX"
    refine comp_assign (cl := _) (by with_unfolding_all rfl) (by rfl) ?_
    wtm_at "mQ"
    rename News _ _ _ _ => N11
    rename Fr _ _ _ _ => F11
    rename IntsAre _ (List.take 4 _) => hI4
    try dsimp only
    refine comp_KL (src_list N11 (.head _) rfl rfl) F11 N11 ?hn4 (fun i zs add => ∃ fs : List Fact, fs.length = i ∧ Small fs ∧ FactsIn add zs fs) ⟨[], rfl, fun _ h => (nomatch h), rfl, fun i f h => by cases h⟩ ?turn4 ?done4
    case hn4 => rw [hI4.length, List.length_take, hx5]; decide
    case turn4 =>
      intro E2 Ky Kn C R2 oC mc i v zs add h12 tk12 hi5 hv hyl hlC hRR hAR hoffC nC F12 N12 hy hx hJ
      clear F11 N11 hx hRR hAR
      (first | (with_reducible show wpAny _ _ _ _ _ _; generalize hGoal96 : wpAny _ _ _ _ _ _ = Goal96) | (dsimp only; with_reducible show wpAny _ _ _ _ _ _; generalize hGoal96 : wpAny _ _ _ _ _ _ = Goal96) | (generalize hGoal96 : True = Goal96))
      obtain ⟨x, tx, rfl, hxi⟩ := hI4.at _ _ hv
      obtain ⟨fs, hf1, hf2, hf3⟩ := hJ
      subst hGoal96
      refine own_name (o := oC) F12 N12 nC hoffC ?_
      intro oC2 h14 tk14 nC2 F14 N14
      clear F12 N12
      refine ifs_nil ?_
      try dsimp only
      wtm_at "mQ"
      rename News _ _ _ _ => N20
      rename Fr _ _ _ _ => F20
      rename _ ∧ AllLt _ _ => l20
      obtain ⟨tx1, tx2, tx3, nt, e3⟩ : ∃ (tx1 tx2 tx3 : Tok) (nt : Nat), (({ cls := .type "tuple", data := .seq #[.int ((x.fmod 10).fmod 3) tx1, .int (((x.fdiv 10).fmod 10).fmod 3) tx2, .int (((x.fdiv 100).fmod 10).fmod 5) tx3] nt } : Obj) = _) := ⟨_, _, _, _, rfl⟩
      rw [← e3] at N20
      obtain ⟨y1, hy1, ey1⟩ := mod_nat (x := x) (a := 10) (b := 3) (by decide)
      obtain ⟨y2, hy2, ey2⟩ := mod_nat (x := x.fdiv 10) (a := 10) (b := 3) (by decide)
      obtain ⟨y3, hy3, ey3⟩ := mod_nat (x := x.fdiv 100) (a := 10) (b := 5) (by decide)
      refine hy _ oC2 _ [(_, _)] _ _ ?_ nC2 F20 N20 (fun p hp => by rw [List.mem_singleton.mp hp]; exact l20.1)
      refine ⟨fs ++ [(y1, y2, y3)], by rw [List.length_append, hf1]; rfl, ?_, FactsIn.snoc (t1 := tx1) (t2 := tx2) (t3 := tx3) (n := nt) hf3 ?_ (fun p hp => List.mem_append_right _ hp)⟩
      · intro f hf
        rcases List.mem_append.mp hf with hf | hf
        · exact hf2 f hf
        · rw [List.mem_singleton.mp hf]
          exact ⟨Nat.lt_trans hy1 (by decide), Nat.lt_trans hy2 (by decide), hy3⟩
      · refine List.mem_append_left _ ?_
        unfold tup3
        rw [← ey1, ← ey2, ← ey3]
        exact .head _
    case done4 =>
      intro D4 zs zk add h12 tk12 hJ hzl hao hlt4 hlt5 F12 N12
      clear F11 N11
      (first | (with_reducible show wpAny _ _ _ _ _ _; generalize hGoal97 : wpAny _ _ _ _ _ _ = Goal97) | (dsimp only; with_reducible show wpAny _ _ _ _ _ _; generalize hGoal97 : wpAny _ _ _ _ _ _ = Goal97) | (generalize hGoal97 : True = Goal97))
      obtain ⟨fs, hf1, hf2, hf3⟩ := hJ
      obtain ⟨v4, hv4⟩ : ∃ v4, ys[4]? = some v4 := ⟨_, List.getElem?_eq_getElem (by rw [hI.length, hx5]; decide)⟩
      obtain ⟨x4, tx4, rfl, _⟩ := hI.at _ _ hv4
      subst hGoal97
      have hR9 : ∀ p ∈ ((D4, listOf zs.toArray zk) :: (D, listOf ys.toArray yk) :: (add ++ R) : Led), OffL L p.1 := by
        intro p hp
        rename CellsAre _ _ _ => HC12
        simp only [List.mem_cons, List.mem_append] at hp
        rcases hp with rfl | rfl | hp | hp
        · exact off_fresh hlt5 (mem_deep 2 (List.mem_append_right _ (.head _))) (fun p hp => mem_deep 2 (List.mem_append_left _ hp)) HC12
        · exact off_fresh hlt (.tail _ (List.mem_append_right _ (.head _))) (fun p hp => .tail _ (List.mem_append_left _ hp)) HC9
        · exact off_fresh (hlt4 p hp) (mem_deep 2 (List.mem_append_right _ (.head _))) (fun p hp => mem_deep 2 (List.mem_append_left _ hp)) HC12
        · exact hR p hp
      have hR10 := offs_tab (tb := tabObj #[]) hL hR9
      have N13 := news_l1 (L := L) N12
      have F12 : Fr h₀ L h12 _ := F12
      clear N12
      try dsimp only
      wtm_at "mQ"
      rename News _ _ _ _ => N14
      rename Fr _ _ _ _ => F14
      try dsimp only
      refine assign_tup F14 N14 ⟨_, (N14 _ (.head _)).1, rfl, _, rfl⟩ rfl rfl (fun h6 F6 N6 => ?_)
      clear F14 N14
      have N6 := news_drop N6
      wtm_at "mQ"
      rename News _ _ _ _ => N15
      rename Fr _ _ _ _ => F15
      rename CellsAre _ _ _ => HC15
      obtain ⟨q1, hq1, e1⟩ := mod_nat (x := x4) (a := 10) (b := 5) (by decide)
      obtain ⟨q2, hq2, e2⟩ := mod_nat (x := x4.fdiv 10) (a := 10) (b := 5) (by decide)
      have e1 : (x4.fmod 10).fmod 5 = (q1 : Int) := e1
      have e2 : ((x4.fdiv 10).fmod 10).fmod 5 = (q2 : Int) := e2
      obtain ⟨lo, hlo, e5⟩ : ∃ n : Nat, n < 29 ∧ (x4.fdiv 100).fmod 29 = (n : Int) :=
        ⟨((x4.fdiv 100).fmod 29).toNat, by have h0 := Int.fmod_nonneg_of_pos (x4.fdiv 100) (b := 29) (by decide); have h1 := Int.fmod_lt_of_pos (x4.fdiv 100) (b := 29) (by decide); lia, by have h0 := Int.fmod_nonneg_of_pos (x4.fdiv 100) (b := 29) (by decide); lia⟩
      rw [e1, e2] at N15
      rw [e5] at HC15
      obtain ⟨u1, u2, n2, N17⟩ := tup_ex (news_l2 N15)
      refine k ⟨D4, _, D, zs, ys, zk, n2, yk, u1, u2, fs, (q1, q2), lo, xs⟩ _ _ _ _ _ _ ⟨F15, ⟨_, N17, HC15⟩, ?off⟩ ?ok rfl rfl rfl rfl
      case ok => exact ⟨.tail _ (.head _), hf3.mono fun p hp => .tail _ (.tail _ (.tail _ (List.mem_append_left _ hp))), by rw [hf1, hI4.length, List.length_take, hx5]; rfl, hf2, .head _, ⟨hq1, hq2⟩, hlo, .tail _ (.tail _ (.head _)), hI, hx5⟩
      case off =>
        intro p hp
        rcases List.mem_cons.mp hp with rfl | hp
        · exact off_L N15 (.head _) (.tail _ (List.mem_append_right _ (.head _))) (fun p hp => .tail _ (List.mem_append_left _ hp)) HC15 nc_seq (by intro h; cases h)
        · exact hR9 p hp
end
end Mine
end
section
open PySem PySem.W PyProof.Rows PySem.Calls PySem.Spec
set_option Elab.async false
set_option maxRecDepth 100000
set_option maxHeartbeats 0
namespace Mine
section
variable {w : World} {p : Program} {loose : List Str} {mean : ExcName → Option Value} {mg mb : Str → Option Value} {dp un : Nat} {gd : Option (List Code)} {cn : Str} {a : Addr} {ccd : Value} {A₀ : Around} {base h₀ : Heap} {L : Addr} {m cm : Str → Option Value} {s : Shared} {R : Led}
theorem law_2 {d : Dat1} {tlow : Tok} {Q : Flow → Shared → Prop} {E : Value → Shared → Prop}
    (hB : Below A₀ base [] h₀) (hX : Frag.In (Mine.pb.heap_1 w.params) h₀) (hT : Top p loose mean mg mb h₀) (hd : dp + 40 < recursionLimit) (hu : un + 400 < cLine) (hL : 290 < L)
    (S : St1 h₀ L s.heap m cm R) (hlo : d.low < 29) (hlow : cm (Str.ofString "low") = some (.int (d.low : Int) tlow))
    (k : ∀ (m' : Str → Option Value) (R' : Led) (h' : Heap) (tk' : Tok) (wl : Addr) (wvs : List Value) (wk : Nat), St1 h₀ L h' m' (upS cm (Str.ofString "words") (.ref wl)) R' → (∀ p ∈ R, p ∈ R') → (wl, listOf wvs.toArray wk) ∈ R' → StrsAre wvs (wordsL d.low) →
      m' (Str.ofString "facts") = m (Str.ofString "facts") → m' (Str.ofString "pair") = m (Str.ofString "pair") → Q .next { s with heap := h', toks := tk' }) :
    wpAny (model PySem.Challenge.rw_ti0052_01.prog w) (lawA dp un gd cn L a ccd) (execs (seg 4 3) (lawEnv cn L a ccd)) Q E s := by
  revert hX; k_fill; intro hX
  obtain ⟨F, ⟨CK, N, HC⟩, hR⟩ := S
  have hR2 := offs_tab (tb := tabObj #[]) hL hR
  obtain ⟨oL, mL, dL⟩ := cells_at HC (y := Str.ofString "low") rfl
  rw [hlow] at dL
  show wpAny _ _ (execs [_, _, _] _) _ _ _
  (show (let V := _; let A9 := _; wpAny _ A9 (execs _ V) _ _ _)); intro V A9
  wtm_at "mQ"
  refine wpAny_Assign_Name ?_ ?_
  rotate_left
  with_unfolding_all rfl
  refine comp_open (cl := _) (by rfl) ?_
  wtm_at "mQ"
  rename IsRange _ _ _ _ _ _ _ _ => hRg
  rename News _ _ _ _ => N9
  rename Fr _ _ _ _ => F9
  try dsimp only
  refine comp_K0 (n := 5) (src_range hRg (by decide) (by decide)) F9 N9 (by decide) (fun i ys => StrsAre ys ((List.range i).map fun j => wordOf (d.low + j))) .nil ?turn ?done
  case turn =>
    intro E2 Ky Kn C R2 oC mc i v ys h9 tk9 hi5 hv hyl hRR hoffC nC F10 N10 hy hx hys
    have e1 := hRR _ (List.mem_append_left _ mL)
    clear F9 N9 hx hRR
    (first | (with_reducible show wpAny _ _ _ _ _ _; generalize hGoal98 : wpAny _ _ _ _ _ _ = Goal98) | (dsimp only; with_reducible show wpAny _ _ _ _ _ _; generalize hGoal98 : wpAny _ _ _ _ _ _ = Goal98) | (generalize hGoal98 : True = Goal98))
    obtain ⟨tv, rfl⟩ := hv
    have hn40 : d.low + i < 40 := by lia
    subst hGoal98
    rw [show (0 : Int) + (i : Int) = (i : Int) from Int.zero_add _]
    refine own_name (o := oC) F10 N10 nC hoffC ?_
    intro oC2 h14 tk14 nC2 F14 N14
    clear F10 N10
    refine ifs_nil ?_
    try dsimp only
    wtm_at "mQ"
    (k_here; k_dflt (refine' Mine.c_word (n := d.low + i) hn40 _ _ _ _ _ _ _ _ _ _ _ _ _ _ _ _ _ ?k1z100 ?k2z100 ?k3z100 ?k4z100 ?k5z100 ?kKz100 ?kdz100 ?kuz100 ?kRz100; (case k1z100 => k_asm); (case k2z100 => k_asm); (case k3z100 => k_asm); (case k4z100 => k_asm); (case k5z100 => k_asm); (case kKz100 => first | exact rfl | assumption); (case kdz100 => wtm_at "mRM"); (case kuz100 => wtm_at "mRU")))
    refine Mine.out1 ?_
    intro tv h9 tk9 F9 N9
    try dsimp only
    try k_fold
    wtm_at "mQ"
    refine hy _ oC2 _ _ _ ?_ nC2 F9 N9
    rw [List.range_succ, List.map_append]
    exact strsAre_snoc hys
  case done =>
    intro D ys yk h9 tk9 hys hyl hlt F10 N10
    clear F9 N9
    try dsimp only
    wtm_at "mQ"
    rename CellsAre _ _ _ => HC9
    obtain ⟨oL9, mL9, dL9⟩ := cells_at HC9 (y := Str.ofString "low") rfl
    rw [upS_ne (by decide), hlow] at dL9
    refine comp_assign (cl := _) (by with_unfolding_all rfl) (by rfl) ?_
    wtm_at "mQ"
    clear hRg
    rename IsRange _ _ _ _ _ _ _ _ => hRg
    rename News _ _ _ _ => N9
    rename Fr _ _ _ _ => F9
    try dsimp only
    refine comp_KL0 (n := 5) (src_range hRg (by decide) (by decide)) F9 N9 (by decide) (fun i ys => StrsAre ys ((List.range i).map fun j => wordOf (d.low + j))) .nil ?turn2 ?done2
    case turn2 =>
      intro E2 Ky Kn C R2 oC mc i v ys h9 tk9 hi5 hv hyl hRR hoffC nC F10 N10 hy hx hys
      have e1 := hRR _ (.tail _ (List.mem_append_left _ mL9))
      clear F9 N9 hx hRR
      (first | (with_reducible show wpAny _ _ _ _ _ _; generalize hGoal99 : wpAny _ _ _ _ _ _ = Goal99) | (dsimp only; with_reducible show wpAny _ _ _ _ _ _; generalize hGoal99 : wpAny _ _ _ _ _ _ = Goal99) | (generalize hGoal99 : True = Goal99))
      obtain ⟨tv, rfl⟩ := hv
      have hn40 : d.low + i ≤ 64 := by lia
      have hpb := pow_bd (n := d.low + i) (by lia)
      subst hGoal99
      rw [show (0 : Int) + (i : Int) = (i : Int) from Int.zero_add _]
      refine own_name (o := oC) F10 N10 nC hoffC ?_
      intro oC2 h14 tk14 nC2 F14 N14
      clear F10 N10
      refine ifs_nil ?_
      try dsimp only
      wtm_at "mQ"
      (k_here; k_dflt (refine' Mine.c_lsh (a := 1) (b := d.low + i) hn40 (by decide) (by decide) _ _ _ _ _ _ _ _ _ _ _ _ _ _ _ _ _ ?k1z101 ?k2z101 ?k3z101 ?k4z101 ?k5z101 ?kKz101 ?kdz101 ?kuz101 ?kRz101; (case k1z101 => k_asm); (case k2z101 => k_asm); (case k3z101 => k_asm); (case k4z101 => k_asm); (case k5z101 => k_asm); (case kKz101 => first | exact rfl | assumption); (case kdz101 => wtm_at "mRM"); (case kuz101 => wtm_at "mRU")))
      refine Mine.out1 ?_
      intro tv h9 tk9 F9 N9
      try dsimp only
      try k_fold
      wtm_at "mQ"
      (k_here; k_dflt (refine' Mine.c_pretty hpb.1 hpb.2 _ _ _ _ _ _ _ _ _ _ _ _ _ _ _ _ _ ?k1z102 ?k2z102 ?k3z102 ?k4z102 ?k5z102 ?kKz102 ?kdz102 ?kuz102 ?kRz102; (case k1z102 => k_asm); (case k2z102 => k_asm); (case k3z102 => k_asm); (case k4z102 => k_asm); (case k5z102 => k_asm); (case kKz102 => first | exact rfl | assumption); (case kdz102 => wtm_at "mRM"); (case kuz102 => wtm_at "mRU")))
      refine Mine.out1 ?_
      intro tv h9 tk9 F9 N9
      rw [told_one hlo hi5]
      try dsimp only
      try k_fold
      wtm_at "mQ"
      rename Fr _ _ _ _ => F20
      rename News _ _ _ _ => N20
      refine hy _ oC2 _ _ _ ?_ nC2 F20 N20
      rw [List.range_succ, List.map_append]
      exact strsAre_snoc hys
    case done2 =>
      intro D2 zs zk h12 tk12 hzs hzl hlt2 F12 N12
      clear F9 N9
      have N12 : News h₀ L h12 _ := N12
      have F12 : Fr h₀ L h12 _ := F12
      try dsimp only
      wtm_at "mQX"
      refine ne_strs N12 (.head _) (.tail _ (.head _)) hzs hys (wordsL_sok hlo) (wordsL_sok hlo) ?ou ?_
      case ou => wtm_at "mRU"
      rw [decide_eq_true rfl]
      try dsimp only
      wtm_at "mQX"
      (k_here; k_dflt (refine' Mine.c_lsh (a := 7) (b := 31) (by decide) (by decide) (by decide) _ _ _ _ _ _ _ _ _ _ _ _ _ _ _ _ _ ?k1z103 ?k2z103 ?k3z103 ?k4z103 ?k5z103 ?kKz103 ?kdz103 ?kuz103 ?kRz103; (case k1z103 => k_asm); (case k2z103 => k_asm); (case k3z103 => k_asm); (case k4z103 => k_asm); (case k5z103 => k_asm); (case kKz103 => first | exact rfl | assumption); (case kdz103 => wtm_at "mRM"); (case kuz103 => wtm_at "mRU")))
      refine Mine.out1 ?_
      intro tv h9 tk9 F9 N9
      try dsimp only
      try k_fold
      wtm_at "mQ"
      (k_here; k_dflt (refine' Mine.c_pretty (n := 7 * 2 ^ 31) (by decide) (by decide) _ _ _ _ _ _ _ _ _ _ _ _ _ _ _ _ _ ?k1z104 ?k2z104 ?k3z104 ?k4z104 ?k5z104 ?kKz104 ?kdz104 ?kuz104 ?kRz104; (case k1z104 => k_asm); (case k2z104 => k_asm); (case k3z104 => k_asm); (case k4z104 => k_asm); (case k5z104 => k_asm); (case kKz104 => first | exact rfl | assumption); (case kdz104 => wtm_at "mRM"); (case kuz104 => wtm_at "mRU")))
      refine Mine.out1 ?_
      intro tv h9 tk9 F9 N9
      rw [told_b]
      try dsimp only
      try k_fold
      wtm_at "mQX"
      refine k _ ((D, listOf ys.toArray yk) :: R) _ _ D ys yk ⟨F9, ⟨_, news_in (news_drop N9), HC9⟩, ?off⟩ (fun p hp => .tail _ hp) (.head _) hys rfl rfl
      case off =>
        intro p hp
        rcases List.mem_cons.mp hp with rfl | hp
        · exact off_fresh hlt (List.mem_append_right _ (.head _)) (fun p hp => List.mem_append_left _ hp) HC
        · exact hR p hp
end
end Mine
end
section
open PySem PySem.W PyProof.Rows PySem.Calls PySem.Spec
set_option Elab.async false
set_option maxRecDepth 100000
set_option maxHeartbeats 0
namespace Mine
section
variable {w : World} {p : Program} {loose : List Str} {mean : ExcName → Option Value} {mg mb : Str → Option Value} {dp un : Nat} {gd : Option (List Code)} {cn : Str} {a : Addr} {ccd : Value} {A₀ : Around} {base h₀ : Heap} {L : Addr} {m cm : Str → Option Value} {s : Shared} {R : Led}
theorem row_at {d : Dat1} {R : Led} (ok : Ok1 d R) {t : Nat} (ht : t < 5) : ∃ (ta : Addr) (ro : Obj) (vs : List Value) (k : Nat), (d.fvs ++ [Value.ref d.pa])[t]? = some (.ref ta) ∧ (ta, ro) ∈ R ∧ ro.cls = .type "tuple" ∧ ro.data = .seq vs.toArray k ∧ IntsN vs (rowOf d.fs d.pr t) := by
  unfold rowOf
  cases e : d.fs[t]? with
  | some f =>
    obtain ⟨a, t1, t2, t3, n, hv, hm⟩ := ok.FI.at_ t f e
    refine ⟨a, _, [.int (f.1 : Int) t1, .int (f.2.1 : Int) t2, .int (f.2.2 : Int) t3], n, ?_, hm, rfl, rfl, rfl, fun i x hx => ?_⟩
    · rw [List.getElem?_append_left (by rw [ok.FI.len]; exact (List.getElem?_eq_some_iff.mp e).1)]; exact hv
    · match i, hx with
      | 0, hx => cases hx; exact ⟨_, rfl⟩
      | 1, hx => cases hx; exact ⟨_, rfl⟩
      | 2, hx => cases hx; exact ⟨_, rfl⟩
  | none =>
    have h4 : t = 4 := by
      have := List.getElem?_eq_none_iff.mp e
      rw [ok.h4] at this
      lia
    refine ⟨d.pa, _, [.int (d.pr.1 : Int) d.u1, .int (d.pr.2 : Int) d.u2], d.n2, ?_, ok.mpa, rfl, rfl, rfl, fun i x hx => ?_⟩
    · subst h4; rw [List.getElem?_append_right (by rw [ok.FI.len, ok.h4]; exact Nat.le_refl _), ok.FI.len, ok.h4]; rfl
    · match i, hx with
      | 0, hx => cases hx; exact ⟨_, rfl⟩
      | 1, hx => cases hx; exact ⟨_, rfl⟩
inductive TxtI (L : Addr) (R1 : Led) (wl D5 : Addr) (d : Dat1) (cm : Str → Option Value) (t : Nat) (mm : Str → Option Value) (nn : Led) : Prop
  | mk (CK' : Led) (cm' : Str → Option Value) (tt : Tok) : nn = CK' ++ (290, tabObj #[]) :: R1 → CellsAre cm' (lawCl L) CK' → cm' (Str.ofString "words") = some (.ref wl) → cm' (Str.ofString "cells") = some (.ref d.ca) → cm' (Str.ofString "low") = cm (Str.ofString "low") →
    mm (Str.ofString "rows") = some (.ref D5) → mm (Str.ofString "text") = some (.str (textAt d.fs d.pr d.xs d.low t) tt) → mm (Str.ofString "facts") = some (.ref d.fl) → mm (Str.ofString "pair") = some (.ref d.pa) → TxtI L R1 wl D5 d cm t mm nn
theorem law_3 {d : Dat1} {wl : Addr} {wvs : List Value} {wk : Nat} {Q : Flow → Shared → Prop} {E : Value → Shared → Prop}
    (hB : Below A₀ base [] h₀) (hX : Frag.In (Mine.pb.heap_1 w.params) h₀) (hT : Top p loose mean mg mb h₀) (hd : dp + 40 < recursionLimit) (hu : un + 400 < cLine) (hL : 290 < L)
    (S : St1 h₀ L s.heap m cm R) (ok : Ok1 d R) (mw : (wl, listOf wvs.toArray wk) ∈ R) (hw : StrsAre wvs (wordsL d.low))
    (hmf : m (Str.ofString "facts") = some (.ref d.fl)) (hmp : m (Str.ofString "pair") = some (.ref d.pa)) (hcc : cm (Str.ofString "cells") = some (.ref d.ca)) (hcw : cm (Str.ofString "words") = some (.ref wl))
    (k : ∀ (m' cm' : Str → Option Value) (R' : Led) (h' : Heap) (tk' tt : Tok) (rl : Addr) (rk : Nat), St1 h₀ L h' m' cm' R' → (∀ p ∈ R, p ∈ R') → (rl, listOf (d.fvs ++ [Value.ref d.pa]).toArray rk) ∈ R' →
      m' (Str.ofString "rows") = some (.ref rl) → m' (Str.ofString "text") = some (.str (textAt d.fs d.pr d.xs d.low 5) tt) → m' (Str.ofString "facts") = some (.ref d.fl) → m' (Str.ofString "pair") = some (.ref d.pa) →
      cm' (Str.ofString "words") = some (.ref wl) → cm' (Str.ofString "low") = cm (Str.ofString "low") → Q .next { s with heap := h', toks := tk' }) :
    wpAny (model PySem.Challenge.rw_ti0052_01.prog w) (lawA dp un gd cn L a ccd) (execs (seg 7 2) (lawEnv cn L a ccd)) Q E s := by
  revert hX; k_fill; intro hX
  obtain ⟨F, ⟨CK, N, HC⟩, hR⟩ := S
  have hR2 := offs_tab (tb := tabObj #[]) hL hR
  have mfl := ok.mfl
  show wpAny _ _ (execs [_, _] _) _ _ _
  (show (let V := _; let A9 := _; wpAny _ A9 (execs _ V) _ _ _)); intro V A9
  wtm_at "mQ"
  rename News _ _ _ _ => N1
  rename Fr _ _ _ _ => F1
  refine kmk_add_lit F1 N1 ⟨_, (N1 _ (.tail _ (List.mem_append_right _ (.tail _ mfl)))).1, rfl, _, rfl⟩ ⟨_, (N1 _ (.head _)).1, rfl, _, rfl⟩ (zs := d.fvs ++ [Value.ref d.pa]) rfl (fun D5 h5 F5 N5 l5 => ?_) ?z5
  case z5 => show d.fvs.length + 1 ≤ sizeLine; rw [ok.FI.len, ok.h4]; decide
  have N5 := drop2 N5
  clear F1 N1
  try dsimp only
  wtm_at "mQ"
  rename News _ _ _ _ => N6
  rename Fr _ _ _ _ => F6
  have N6 := news_in (news_drop N6)
  (first | (with_reducible show wpAny _ _ _ _ _ _; generalize hGoal105 : wpAny _ _ _ _ _ _ = Goal105) | (dsimp only; with_reducible show wpAny _ _ _ _ _ _; generalize hGoal105 : wpAny _ _ _ _ _ _ = Goal105) | (generalize hGoal105 : True = Goal105))
  obtain ⟨R1, hR1⟩ : ∃ R1 : Led, R1 = (D5, listOf (d.fvs ++ [Value.ref d.pa]).toArray 0) :: R := ⟨_, rfl⟩
  rw [← hR1] at N6
  have mR : ∀ p ∈ R, p ∈ R1 := fun p hp => by rw [hR1]; exact .tail _ hp
  have mD : (D5, listOf (d.fvs ++ [Value.ref d.pa]).toArray 0) ∈ R1 := by rw [hR1]; exact .head _
  have oR : ∀ p ∈ R1, OffL L p.1 := fun p hp => by
    rw [hR1] at hp
    rcases List.mem_cons.mp hp with rfl | hp
    · exact off_fresh l5 (.tail _ (List.mem_append_right _ (.head _))) (fun p hp => .tail _ (List.mem_append_left _ hp)) HC
    · exact hR p hp
  have hR2 := offs_tab (tb := tabObj #[]) hL oR
  clear hR1
  subst hGoal105
  refine wpAny_For ?_
  wtm_at "mQ"
  rename IsRange _ _ _ _ _ _ _ _ => hRg
  rename News _ _ _ _ => N7
  rename Fr _ _ _ _ => F7
  try dsimp only
  refine for_K (n := 5) (src_range hRg (by decide) (by decide)) F7 N7 (TxtI L R1 wl D5 d cm) ⟨CK, cm, _, rfl, HC, hcw, hcc, rfl, rfl, rfl, hmf, hmp⟩ ?turn ?done
  case turn =>
    intro E1 K I it t v mm nn h7 tk7 ht hv hsub hoffI F8 N8 hn hJ
    clear F7 N7
    (first | (with_reducible show wpAny _ _ _ _ _ _; generalize hGoal106 : wpAny _ _ _ _ _ _ = Goal106) | (dsimp only; with_reducible show wpAny _ _ _ _ _ _; generalize hGoal106 : wpAny _ _ _ _ _ _ = Goal106) | (generalize hGoal106 : True = Goal106))
    obtain ⟨tv, rfl⟩ := hv
    obtain ⟨CK', cm', tt, rfl, HC', c1, c2, c3, n1, n2, n3, n4⟩ := hJ
    have hIs : Safe (lawCl L) (I, it) := safe_off hoffI (fun p hp => List.mem_append_left _ hp) HC'
    obtain ⟨ta, ro, rvs, rk, hrow, mrow, rc, rd, hI⟩ := row_at ok ht
    have mrow := mR _ mrow
    have hT := text_len (xs := d.xs) ok.hlow ok.hsm ok.hp t
    obtain ⟨hj, ej⟩ := style_lt d.xs t
    obtain ⟨hr3, hr5⟩ := row_ok ok.hsm ok.hp t
    obtain ⟨xv, hxv⟩ : ∃ xv, d.cvs[t]? = some xv := ⟨_, List.getElem?_eq_getElem (by rw [ok.hxs.length, ok.hx5]; exact ht)⟩
    obtain ⟨x, tx, rfl, hx⟩ := ok.hxs.at _ _ hxv
    have ej : (x.fdiv 1000).fmod 3 = (styleOf d.xs t : Int) := by rw [← ej, List.getD_eq_getElem?_getD, hx]; rfl
    have mca := mR _ ok.mca
    have mw := mR _ mw
    subst hGoal106
    rw [show (0 : Int) + (t : Int) = (t : Int) from Int.zero_add _]
    wtm_at "mQ"
    rename CellsAre _ _ _ => HC9
    obtain ⟨oW, mW, dW⟩ := cells_at HC9 (y := Str.ofString "words") rfl
    obtain ⟨oK, mK, dK⟩ := cells_at HC9 (y := Str.ofString "cells") rfl
    obtain ⟨oT, mT, dT⟩ := cells_at HC9 (y := Str.ofString "t") rfl
    rw [upS_ne (by decide), c1] at dW
    rw [upS_ne (by decide), c2] at dK
    rw [upS_eq] at dT
    refine comp_open (cl := _) (by rfl) ?_
    wtm_at "mQ"
    rename News _ _ _ _ => N9
    rename Fr _ _ _ _ => F9
    try dsimp only
    refine comp_K0 (src_tup N9 (.tail _ (List.mem_append_right _ (.tail _ mrow))) rc rd) F9 N9 ?hn2 (fun i ys => StrsAre ys ((writeL d.low (styleOf d.xs t) (rowOf d.fs d.pr t)).take i)) .nil ?turn2 ?done2
    case hn2 => rw [hI.1]; exact Nat.le_trans hr3 (by decide)
    case turn2 =>
      intro E2 Ky Kn C R2 oC2 mc i v ys h9 tk9 hi5 hv hyl hRR hoffC nC F10 N10 hy hx hys
      have e1 := hRR _ (.tail _ (List.mem_append_left _ mW))
      have e2 := hRR _ (.tail _ (List.mem_append_left _ mK))
      have e3 := hRR _ (.tail _ (List.mem_append_left _ mT))
      have e4 := hRR _ (.tail _ (List.mem_append_right _ (.tail _ mw)))
      have e5 := hRR _ (.tail _ (List.mem_append_right _ (.tail _ mca)))
      clear F9 N9 hx hRR
      (first | (with_reducible show wpAny _ _ _ _ _ _; generalize hGoal107 : wpAny _ _ _ _ _ _ = Goal107) | (dsimp only; with_reducible show wpAny _ _ _ _ _ _; generalize hGoal107 : wpAny _ _ _ _ _ _ = Goal107) | (generalize hGoal107 : True = Goal107))
      obtain ⟨kk, hk⟩ : ∃ kk, (rowOf d.fs d.pr t)[i]? = some kk := ⟨_, List.getElem?_eq_getElem (by rw [← hI.1]; exact hi5)⟩
      obtain ⟨tkk, hvv⟩ := hI.2 i kk hk
      rw [hvv] at hv
      cases hv
      have k5 := hr5 kk (List.mem_of_getElem? hk)
      obtain ⟨tw, hwk⟩ := strsAre_get hw (wordsL_get (low := d.low) k5)
      have hwl := (written_len ⟨d.low + kk, by have := ok.hlow; lia⟩ ⟨0, by decide⟩).2
      subst hGoal107
      refine own_name (o := oC2) F10 N10 nC hoffC ?_
      intro oC3 h14 tk14 nC3 F14 N14
      clear F10 N10
      refine ifs_nil ?_
      try dsimp only
      wtm_at "mQ"
      rw [ej]
      (k_here; k_dflt (refine' Mine.c_written (x := wordOf (d.low + kk)) (j := styleOf d.xs t) hwl hj _ _ _ _ _ _ _ _ _ _ _ _ _ _ _ _ _ ?k1z109 ?k2z109 ?k3z109 ?k4z109 ?k5z109 ?kKz109 ?kdz109 ?kuz109 ?kRz109; (case k1z109 => k_asm); (case k2z109 => k_asm); (case k3z109 => k_asm); (case k4z109 => k_asm); (case k5z109 => k_asm); (case kKz109 => first | exact rfl | assumption); (case kdz109 => wtm_at "mRM"); (case kuz109 => wtm_at "mRU")))
      refine Mine.out1 ?_
      intro tv h9 tk9 F9 N9
      try dsimp only
      try k_fold
      wtm_at "mQ"
      refine hy _ oC3 _ _ _ ?_ nC3 F9 N9
      unfold writeL at hys ⊢
      rw [← List.map_take] at hys
      rw [List.take_succ, List.getElem?_map, hk]
      exact strsAre_snoc (by rw [← List.map_take]; exact hys)
    case done2 =>
      intro D ys yk h12 tk12 hys hyl hlt F12 N12
      clear F9 N9
      have N12 : News h₀ L h12 _ := N12
      have F12 : Fr h₀ L h12 _ := F12
      try dsimp only
      wtm_at "mQ"
      have hys : StrsAre ys (writeL d.low (styleOf d.xs t) (rowOf d.fs d.pr t)) := by
        rw [← List.take_length (l := writeL d.low (styleOf d.xs t) (rowOf d.fs d.pr t)), show (writeL d.low (styleOf d.xs t) (rowOf d.fs d.pr t)).length = rvs.length by unfold writeL; rw [List.length_map, hI.1]]; exact hys
      refine join_list (ys := writeL d.low (styleOf d.xs t) (rowOf d.fs d.pr t)) ⟨_, (N12 _ (.head _)).1, rfl, _, rfl⟩ hys ?sum (fun t' k' => ?_)
      case sum => exact write_sum ok.hlow hj hr3 hr5
      have hl5 := join_wl (j := styleOf d.xs t) ok.hlow hj hr3 hr5
      wtm_at "mQ"
      rename Fr _ _ _ _ => F14
      rename News _ _ _ _ => N14
      refine hn _ _ _ _ ?_ (fun p hp => nomatch hp) F14 (news_drop N14) (off_swap hoffI HC' HC9)
      exact ⟨_, _, _, rfl, HC9, (upS_ne (by decide)).trans c1, (upS_ne (by decide)).trans c2, (upS_ne (by decide)).trans c3, n1, rfl, n3, n4⟩
  case done =>
    intro E1 mm nn h7 tk7 hJ hsub F8 N8
    clear F7 N7
    (first | (with_reducible show wpAny _ _ _ _ _ _; generalize hGoal108 : wpAny _ _ _ _ _ _ = Goal108) | (dsimp only; with_reducible show wpAny _ _ _ _ _ _; generalize hGoal108 : wpAny _ _ _ _ _ _ = Goal108) | (generalize hGoal108 : True = Goal108))
    obtain ⟨CK', cm', tt, rfl, HC', c1, c2, c3, n1, n2, n3, n4⟩ := hJ
    subst hGoal108
    wtm_at "mQ"
    exact k _ _ R1 _ _ _ D5 _ ⟨F8, ⟨_, N8, HC'⟩, oR⟩ mR mD n1 n2 n3 n4 c1 c3
end
end Mine
end
section
open PySem PySem.W PyProof.Rows PySem.Calls PySem.Spec
set_option Elab.async false
set_option maxRecDepth 100000
set_option maxHeartbeats 0
namespace Mine
section
variable {w : World} {p : Program} {loose : List Str} {mean : ExcName → Option Value} {mg mb : Str → Option Value} {dp un : Nat} {gd : Option (List Code)} {cn : Str} {a : Addr} {ccd : Value} {A₀ : Around} {base h₀ : Heap} {L : Addr} {m cm : Str → Option Value} {s : Shared} {R : Led}
theorem news_l4a {h : Heap} {t : Addr × Obj} {CK R : Led} (N : News h₀ L h (CK ++ t :: R)) : News h₀ L h (t :: (CK ++ R)) := news_sub N fun p hp => by
  exact Mine.sub_at hp (by wtm_at "per")
theorem news_l4b {h : Heap} {t q : Addr × Obj} {A B CK R : Led} (N : News h₀ L h (A ++ (B ++ t :: q :: (CK ++ R)))) : News h₀ L h (CK ++ (A ++ (B ++ t :: R))) := news_sub N fun p hp => by
  exact Mine.sub_at hp (by wtm_at "per")
theorem off_l4 {X : LexP} {as : List Addr} {led CK R : Led} {ln : Int} {tl : Tok} {ps : List Value} {k : Nat} {q t t2 : Addr × Obj} (HC : CellsAre cm (lawCl L) CK) (hl : led.map (·.1) = as) (O : Off (X.adr ++ as) (t :: q :: (CK ++ R))) (hR : ∀ p ∈ t2 :: R, p.1 ∉ (lawCl L).map (·.2)) :
    ∀ p ∈ lexL X ln tl ps k ++ (led ++ (t2 :: R)), p.1 ∉ (lawCl L).map (·.2) := fun p hp => by
  have key : ∀ a ∈ X.adr ++ as, a ∉ (lawCl L).map (·.2) := fun a ha hx => by
    rw [← cells_adr HC] at hx
    obtain ⟨c, hc, e⟩ := List.mem_map.mp hx
    exact O c (.tail _ (.tail _ (List.mem_append_left _ hc))) a ha e
  rw [← List.append_assoc] at hp
  rcases List.mem_append.mp hp with hp | hp
  · refine key _ ?_
    have := List.mem_map.mpr ⟨p, hp, (rfl : p.1 = p.1)⟩
    rw [List.map_append, hl] at this
    exact this
  · exact hR p hp
theorem off_l4b {as : List Addr} {CK R : Led} {q : Addr × Obj} {x : Addr} {o o2 : Obj} (O : Off as ((x, o) :: q :: (CK ++ R))) : Off as ((x, o2) :: R) := fun p hp a ha => by
  rcases List.mem_cons.mp hp with rfl | hp
  · exact O (x, o) (.head _) a ha
  · exact O p (.tail _ (.tail _ (List.mem_append_right _ hp))) a ha
theorem law_4 {d : Dat1} {wl : Addr} {wvs : List Value} {wk : Nat} {tt : Tok} {Q : Flow → Shared → Prop} {E : Value → Shared → Prop}
    (hB : Below A₀ base [] h₀) (hX : Frag.In (Mine.pb.heap_1 w.params) h₀) (hT : Top p loose mean mg mb h₀) (hd : dp + 40 < recursionLimit) (hu : un + 400 < cLine) (hL : 290 < L)
    (S : St1 h₀ L s.heap m cm R) (ok : Ok1 d R) (mw : (wl, listOf wvs.toArray wk) ∈ R) (hw : StrsAre wvs (wordsL d.low))
    (hcw : cm (Str.ofString "words") = some (.ref wl)) (hmt : m (Str.ofString "text") = some (.str (textAt d.fs d.pr d.xs d.low 5) tt))
    (k : ∀ (h' : Heap) (tk' : Tok) (X : LexP) (as : List Addr) (Rd : List Nat → Led → Prop) (led : Led) (tl : Tok) (tp : Array Value), St2 h₀ L h' m (upS cm (Str.ofString "line") (.ref X.lx)) (lexL X 1 tl [] 0 ++ (led ++ ((290, tabObj tp) :: R))) →
      Reads1 w p loose mean mg mb X.f as Rd → Rd (textOf d.fs d.pr d.xs d.low).cps.toList led → Dist (X.adr ++ as) → Off (X.adr ++ as) ((290, tabObj tp) :: R) → Q .next { s with heap := h', toks := tk' }) :
    wpAny (model PySem.Challenge.rw_ti0052_01.prog w) (lawA dp un gd cn L a ccd) (execs (seg 9 1) (lawEnv cn L a ccd)) Q E s := by
  revert hX; k_fill; intro hX
  obtain ⟨F, ⟨CK, N, HC⟩, hR⟩ := S
  have hR2 := offs_tab (tb := tabObj #[]) hL hR
  obtain ⟨oW, mW, dW⟩ := cells_at HC (y := Str.ofString "words") rfl
  rw [hcw] at dW
  have mw1 : (wl, listOf wvs.toArray wk) ∈ CK ++ (290, tabObj #[]) :: R := List.mem_append_right _ (.tail _ mw)
  obtain ⟨tw, hwk⟩ := strsAre_get hw (wordsL_get (low := d.low) (i := 0) (by decide))
  rw [Nat.add_zero] at hwk
  have hwk : wvs[Int.toNat 0]? = some (.str (wordOf d.low) tw) := hwk
  have hT5 := text_len (xs := d.xs) ok.hlow ok.hsm ok.hp 5
  have hwl := (written_len ⟨d.low, by have := ok.hlow; lia⟩ ⟨0, by decide⟩).2
  have hof : ∀ p ∈ CK ++ R, p.1 ≠ 290 := fun p hp => by
    rcases List.mem_append.mp hp with hp | hp
    · exact Nat.ne_of_gt (Nat.lt_trans hL (lawCl_lt L _ (by rw [← cells_adr HC]; exact List.mem_map.mpr ⟨p, hp, rfl⟩)))
    · exact (hR p hp).1
  show wpAny _ _ (execs [_] _) _ _ _
  (show (let V := _; let A9 := _; wpAny _ A9 (execs _ V) _ _ _)); intro V A9
  wtm_at "mQ"
  (k_here; k_dflt (refine' Mine.c_lexer (x := textOf d.fs d.pr d.xs d.low) (Nat.le_trans (textOf_len ok.hlow ok.hsm ok.hp) (by decide)) hof _ _ _ _ _ _ _ _ _ _ _ _ _ _ _ _ _ ?k1z111 ?k2z111 ?k3z111 ?k4z111 ?k5z111 ?kKz111 ?kdz111 ?kuz111 ?kRz111; (case k1z111 => k_asm); (case k2z111 => k_asm); (case k3z111 => k_asm); (case k4z111 => exact news_l4a N); (case k5z111 => k_asm); (case kKz111 => first | exact rfl | assumption); (case kdz111 => wtm_at "mRM"); (case kuz111 => wtm_at "mRU")))
  intro v9 n9 h9 tk9 hp9 F9 N9
  (first | (with_reducible show wpAny _ _ _ _ _ _; generalize hGoal110 : wpAny _ _ _ _ _ _ = Goal110) | (dsimp only; with_reducible show wpAny _ _ _ _ _ _; generalize hGoal110 : wpAny _ _ _ _ _ _ = Goal110) | (generalize hGoal110 : True = Goal110))
  obtain ⟨X, as, Rd, led, tl, tp, rfl, rfl, rd1, rd2, rd3, rd4⟩ := hp9
  have N9 : News h₀ L h9 _ := news_l4b N9
  have F9 : Fr h₀ L h9 _ := F9
  have hoff : ∀ p ∈ lexL X 1 tl [] 0 ++ (led ++ ((290, tabObj tp) :: R)), p.1 ∉ (lawCl L).map (·.2) := off_l4 HC (rd1.1 _ _ rd2).1 rd4 (offs_tab (tb := tabObj tp) hL hR)
  have rd4 : Off (X.adr ++ as) ((290, tabObj tp) :: R) := off_l4b rd4
  subst hGoal110
  try dsimp only
  wtm_at "mQ"
  rename CellsAre (upS _ _ _) _ _ => HC9
  rename Fr _ _ _ _ => F10
  rename News _ _ _ _ => N10
  exact k _ _ X as Rd led tl tp ⟨F10, ⟨_, N10, HC9⟩, hoff⟩ rd1 rd2 rd3 rd4
end
end Mine
end
section
open PySem PySem.W PyProof.Rows PySem.Calls PySem.Spec
set_option Elab.async false
set_option maxRecDepth 100000
set_option maxHeartbeats 0
namespace Mine
section
variable {w : World} {p : Program} {loose : List Str} {mean : ExcName → Option Value} {mg mb : Str → Option Value} {dp un : Nat} {gd : Option (List Code)} {cn : Str} {a : Addr} {ccd : Value} {A₀ : Around} {base h₀ : Heap} {L : Addr} {m cm : Str → Option Value} {s : Shared} {R : Led}
theorem news_l5a {h : Heap} {c1 c2 c3 d1 d2 d3 : Addr × Obj} {A B R : Led} (N : News h₀ L h (c1 :: c2 :: c3 :: d1 :: d2 :: d3 :: (A ++ (B ++ R)))) : News h₀ L h (A ++ (B ++ (c1 :: c2 :: c3 :: d1 :: d2 :: d3 :: R))) := news_sub N fun p hp => by
  exact Mine.sub_at hp (by wtm_at "per")
theorem news_l5b {h : Heap} {c1 c2 c3 d1 d2 d3 : Addr × Obj} {A B R : Led} (N : News h₀ L h (A ++ (B ++ (c1 :: c2 :: c3 :: d1 :: d2 :: d3 :: R)))) : News h₀ L h (c1 :: c2 :: c3 :: d1 :: d2 :: d3 :: (A ++ (B ++ R))) := news_sub N fun p hp => by
  exact Mine.sub_at hp (by wtm_at "per")
theorem news_l5c {h : Heap} {A B C R : Led} (N : News h₀ L h (A ++ (B ++ (C ++ R)))) : News h₀ L h (B ++ (C ++ (A ++ R))) := news_sub N fun p hp => by
  exact Mine.sub_at hp (by wtm_at "per")
theorem news_l5d {h : Heap} {x c1 c2 c3 : Addr × Obj} {A B C R : Led} (N : News h₀ L h (x :: c1 :: c2 :: c3 :: (A ++ (B ++ (C ++ R))))) : News h₀ L h (c1 :: c2 :: c3 :: (A ++ (B ++ ((x :: C) ++ R)))) := news_sub N fun p hp => by
  exact Mine.sub_at hp (by wtm_at "per")
theorem lex_adr {X : LexP} {P : Addr → Prop} {pre led led' R : Led} {ln ln' : Int} {tl tl' : Tok} {ps ps' : List Value} {k k' : Nat} (h : ∀ p ∈ pre ++ (lexL X ln tl ps k ++ (led ++ R)), P p.1) (e : led'.map (·.1) = led.map (·.1)) :
    ∀ p ∈ pre ++ (lexL X ln' tl' ps' k' ++ (led' ++ R)), P p.1 := fun p hp => by
  have e2 : (pre ++ (lexL X ln' tl' ps' k' ++ (led' ++ R))).map (·.1) = (pre ++ (lexL X ln tl ps k ++ (led ++ R))).map (·.1) := by simp only [List.map_append, e]; rfl
  have : p.1 ∈ (pre ++ (lexL X ln tl ps k ++ (led ++ R))).map (·.1) := by rw [← e2]; exact List.mem_map.mpr ⟨p, hp, rfl⟩
  obtain ⟨q, hq, e3⟩ := List.mem_map.mp this
  rw [← e3]
  exact h q hq
theorem lex_adr0 {X : LexP} {P : Addr → Prop} {led led' R : Led} {ln ln' : Int} {tl tl' : Tok} {ps ps' : List Value} {k k' : Nat} (h : ∀ p ∈ lexL X ln tl ps k ++ (led ++ R), P p.1) (e : led'.map (·.1) = led.map (·.1)) :
    ∀ p ∈ lexL X ln' tl' ps' k' ++ (led' ++ R), P p.1 := lex_adr (pre := []) h e
theorem news_l5e {h : Heap} {x : Addr × Obj} {A B C CK R : Led} (N : News h₀ L h (x :: (A ++ (B ++ (C ++ (CK ++ R)))))) : News h₀ L h (CK ++ (A ++ (B ++ ((x :: C) ++ R)))) := news_sub N fun p hp => by
  exact Mine.sub_at hp (by wtm_at "per")
theorem news_l5f {h : Heap} {x : Addr × Obj} {A R : Led} (N : News h₀ L h (x :: (A ++ R))) : News h₀ L h R := news_sub N fun p hp => .tail _ (List.mem_append_right _ hp)
theorem rowsW_sok {fs : List Fact} {pr : Nat × Nat} {low : Nat} (hl : low < 29) (hs : Small fs) (hp : pr.1 < 5 ∧ pr.2 < 5) : ∀ r ∈ rowsW fs pr low, ∀ x ∈ r, PyData.strOk x = true := fun r hr x hx => by
  obtain ⟨t, _, rfl⟩ := List.mem_map.mp hr
  obtain ⟨k, hk, rfl⟩ := List.mem_map.mp hx
  have := (row_ok hs hp t).2 k hk
  exact word_sok (by lia)
inductive RdsI (d : Dat1) (X : LexP) (as : List Addr) (Rd : List Nat → Led → Prop) (CK R : Led) (i : Nat) (ys : List Value) (nn : Led) : Prop
  | mk (ln : Int) (tl : Tok) (led add : Led) : Rd (sgAt d.fs d.pr d.xs d.low i) led → ln + cnt10 (sgAt d.fs d.pr d.xs d.low i) = 7 → nn = lexL X ln tl [] 0 ++ (led ++ (add ++ (CK ++ R))) → ListsIn add ys ((rowsW d.fs d.pr d.low).take i) → Off (X.adr ++ as) (add ++ (CK ++ R)) → (∀ p ∈ add, ∀ q ∈ CK ++ R, @LT.lt Nat _ q.1 p.1) → RdsI d X as Rd CK R i ys nn
inductive RdI (d : Dat1) (X : LexP) (Rd : List Nat → Led → Prop) (tail : Led) (C D I : Addr) (oC2 it : Obj) (ys : List Value) (yk i j : Nat) (zs : List Value) (nn : Led) : Prop
  | mk (ln : Int) (tl : Tok) (led : Led) : Rd (unread d.fs d.pr d.xs d.low i j) led → ln + cnt10 (unread d.fs d.pr d.xs d.low i j) = 7 → nn = (C, oC2) :: (D, listOf ys.toArray yk) :: (I, it) :: (lexL X ln tl [] 0 ++ (led ++ tail)) → StrsAre zs ((rowW d.fs d.pr d.low i).take j) → RdI d X Rd tail C D I oC2 it ys yk i j zs nn
theorem law_5 {d : Dat1} {X : LexP} {as : List Addr} {Rd : List Nat → Led → Prop} {led : Led} {tl : Tok} {wl rl : Addr} {wvs : List Value} {wk rk : Nat} {Q : Flow → Shared → Prop} {E : Value → Shared → Prop}
    (hB : Below A₀ base [] h₀) (hX : Frag.In (Mine.pb.heap_1 w.params) h₀) (hT : Top p loose mean mg mb h₀) (hd : dp + 40 < recursionLimit) (hu : un + 400 < cLine) (hL : 290 < L)
    (S : St2 h₀ L s.heap m cm (lexL X 1 tl [] 0 ++ (led ++ R))) (RD : Reads1 w p loose mean mg mb X.f as Rd) (hR0 : Rd (sgAt d.fs d.pr d.xs d.low 0) led) (DI : Dist (X.adr ++ as)) (O : Off (X.adr ++ as) R)
    (ok : Ok1 d R) (mw : (wl, listOf wvs.toArray wk) ∈ R) (hw : StrsAre wvs (wordsL d.low)) (mr : (rl, listOf (d.fvs ++ [Value.ref d.pa]).toArray rk) ∈ R)
    (hcw : cm (Str.ofString "words") = some (.ref wl)) (hcl : cm (Str.ofString "line") = some (.ref X.lx)) (hmr : m (Str.ofString "rows") = some (.ref rl))
    (k : ∀ (m' : Str → Option Value) (h' : Heap) (tk' tl' : Tok) (led' add : Led) (D : Addr) (rvs : List Value) (k : Nat), St2 h₀ L h' m' cm (lexL X 5 tl' [] 0 ++ (led' ++ (add ++ R))) → Rd (10 :: endSg d.low) led' → Off (X.adr ++ as) (add ++ R) →
      m' (Str.ofString "read") = some (.ref D) → (D, listOf rvs.toArray k) ∈ add → ListsIn add rvs (rowsW d.fs d.pr d.low) → m' (Str.ofString "facts") = m (Str.ofString "facts") → m' (Str.ofString "pair") = m (Str.ofString "pair") → Q .next { s with heap := h', toks := tk' }) :
    wpAny (model PySem.Challenge.rw_ti0052_01.prog w) (lawA dp un gd cn L a ccd) (execs (seg 10 2) (lawEnv cn L a ccd)) Q E s := by
  revert hX; k_fill; intro hX
  obtain ⟨F, ⟨CK, N, HC⟩, hR2⟩ := S
  obtain ⟨oL, mL, dL⟩ := cells_at HC (y := Str.ofString "line") rfl
  obtain ⟨oW, mW, dW⟩ := cells_at HC (y := Str.ofString "words") rfl
  rw [hcl] at dL
  rw [hcw] at dW
  have N := news_l5c N
  have OC : Off (X.adr ++ as) (CK ++ R) := off_app (fun c hc x hx e => by
    have h1 : x ∉ (lawCl L).map (·.2) := by
      have h2 : x ∈ (lexL X 1 tl [] 0 ++ led).map (·.1) := by rw [List.map_append, (RD.1 _ _ hR0).1]; exact hx
      obtain ⟨q, hq, rfl⟩ := List.mem_map.mp h2
      exact hR2 q (by rw [← List.append_assoc]; exact List.mem_append_left _ hq)
    exact h1 (by rw [← cells_adr HC, ← e]; exact List.mem_map.mpr ⟨c, hc, rfl⟩)) O
  have hlow := ok.hlow
  have hsm := ok.hsm
  have hpp := ok.hp
  show wpAny _ _ (execs [_, _] _) _ _ _
  (show (let V := _; let A9 := _; wpAny _ A9 (execs _ V) _ _ _)); intro V A9
  wtm_at "mQ"
  refine comp_assign (cl := _) (by with_unfolding_all rfl) (by rfl) ?_
  have mr1 : (rl, listOf (d.fvs ++ [Value.ref d.pa]).toArray rk) ∈ lexL X 1 tl [] 0 ++ (led ++ (CK ++ R)) := List.mem_append_right _ (List.mem_append_right _ (List.mem_append_right _ mr))
  wtm_at "mQ"
  rename News _ _ _ _ => N1
  rename Fr _ _ _ _ => F1
  try dsimp only
  refine comp_GL (src_list N1 mr1 rfl rfl) F1 N1 ?hn (RdsI d X as Rd CK R)
    ⟨1, tl, led, [], hR0, by rw [sgAt_zero, text_of, cnt_left hlow hsm hpp]; rfl, rfl, .nil, OC, fun _ h => nomatch h⟩ ?turn ?done
  case hn => rw [List.length_append, ok.FI.len, ok.h4]; show (5 : Nat) ≤ sizeLine; decide
  case turn =>
    intro E1 Ky Kn I C D it oC mc i v ys yk nn h7 tk7 hi hv hyl hID hDC hlt hsub hoff nC F2 N2 hy hx hJ
    clear F1 N1 hx
    (first | (with_reducible show wpAny _ _ _ _ _ _; generalize hGoal112 : wpAny _ _ _ _ _ _ = Goal112) | (dsimp only; with_reducible show wpAny _ _ _ _ _ _; generalize hGoal112 : wpAny _ _ _ _ _ _ = Goal112) | (generalize hGoal112 : True = Goal112))
    obtain ⟨ln, tl, led, add, rd, hln, rfl, hys, oo, hlt2⟩ := hJ
    have ht : i < 5 := by rw [List.length_append, ok.FI.len, ok.h4] at hi; exact hi
    obtain ⟨ta, ro, rvs, rk2, hrow, mrow, rc, rdd, hI⟩ := row_at ok ht
    rw [hrow] at hv
    cases hv
    have hsgi := sgAt_in (fs := d.fs) (pr := d.pr) (xs := d.xs) (low := d.low) ht
    rw [hsgi] at rd hln
    obtain ⟨hr3, hr5⟩ := row_ok hsm hpp i
    have hoffC : ∀ p ∈ (D, listOf ys.toArray yk) :: (I, it) :: (lexL X ln tl [] 0 ++ (led ++ (add ++ (CK ++ R)))), p.1 ≠ C := fun p hp => by
      rcases List.mem_cons.mp hp with rfl | hp
      · exact Nat.ne_of_lt hDC
      · rcases List.mem_cons.mp hp with rfl | hp
        · exact Nat.ne_of_lt (Nat.lt_trans hID hDC)
        · exact (hoff p hp).2.1
    subst hGoal112
    refine own_name (o := oC) F2 N2 nC hoffC ?_
    intro oC2 h14 tk14 nC2 F14 N14
    clear F2 N2
    refine ifs_nil ?_
    try dsimp only
    refine comp_open (cl := _) (by rfl) ?_
    wtm_at "mQ"
    rename News _ _ _ _ => N3
    rename Fr _ _ _ _ => F3
    try dsimp only
    have N3 : News h₀ L h14 ((C, oC2) :: (D, listOf ys.toArray yk) :: (I, it) :: (lexL X ln tl [] 0 ++ (led ++ (add ++ (CK ++ R))))) := N3
    have F3 : Fr h₀ L h14 _ := F3
    have mrow1 : (ta, ro) ∈ (C, oC2) :: (D, listOf ys.toArray yk) :: (I, it) :: (lexL X ln tl [] 0 ++ (led ++ (add ++ (CK ++ R)))) := mem_deep 3 (List.mem_append_right _ (List.mem_append_right _ (List.mem_append_right _ (List.mem_append_right _ mrow))))
    refine comp_G (src_tup N3 mrow1 rc rdd) F3 N3 ?hn2 (RdI d X Rd (add ++ (CK ++ R)) C D I oC2 it ys yk i)
      ⟨ln, tl, led, rd, hln, rfl, .nil⟩ ?turn2 ?done2
    case hn2 => rw [hI.1]; exact Nat.le_trans hr3 (by decide)
    case turn2 =>
      intro E2 Ky2 Kn2 I2 C2 D2 it2 oC3 mc2 j v zs zk nn h9 tk9 hj hv hzl hID2 hDC2 hltB hsub2 hoff2 nC3 F4 N4 hy2 hx2 hJ2
      clear F3 N3 hx2
      (first | (with_reducible show wpAny _ _ _ _ _ _; generalize hGoal113 : wpAny _ _ _ _ _ _ = Goal113) | (dsimp only; with_reducible show wpAny _ _ _ _ _ _; generalize hGoal113 : wpAny _ _ _ _ _ _ = Goal113) | (generalize hGoal113 : True = Goal113))
      obtain ⟨ln2, tl2, led2, rd2, hln2, rfl, hzs⟩ := hJ2
      obtain ⟨kk, hk⟩ : ∃ kk, (rowOf d.fs d.pr i)[j]? = some kk := ⟨_, List.getElem?_eq_getElem (by rw [← hI.1]; exact hj)⟩
      have k5 := hr5 kk (List.mem_of_getElem? hk)
      have utok := unread_tok (fs := d.fs) (pr := d.pr) (xs := d.xs) hlow hk k5
      have hoffC2 : ∀ p ∈ (D2, listOf zs.toArray zk) :: (I2, it2) :: (C, oC2) :: (D, listOf ys.toArray yk) :: (I, it) :: (lexL X ln2 tl2 [] 0 ++ (led2 ++ (add ++ (CK ++ R)))), p.1 ≠ C2 := fun p hp => by
        rcases List.mem_cons.mp hp with rfl | hp
        · exact Nat.ne_of_lt hDC2
        · rcases List.mem_cons.mp hp with rfl | hp
          · exact Nat.ne_of_lt (Nat.lt_trans hID2 hDC2)
          · exact (hoff2 p hp).2.1
      have hl2 := (RD.1 _ _ rd2).1
      have O2 : ∀ o : Obj, Off (X.adr ++ as) ((C2, o) :: (D2, listOf zs.toArray zk) :: (I2, it2) :: (C, oC2) :: (D, listOf ys.toArray yk) :: (I, it) :: (add ++ (CK ++ R))) := fun o =>
        off_cons hl2 (fun p hp => (hoff2 p (mem_deep 3 hp)).2.1) (off_cons hl2 (fun p hp => (hoff2 p (mem_deep 3 hp)).2.2) (off_cons hl2 (fun p hp => (hoff2 p (mem_deep 3 hp)).1)
          (off_cons (RD.1 _ _ rd).1 (fun p hp => (hoff p hp).2.1) (off_cons (RD.1 _ _ rd).1 (fun p hp => (hoff p hp).2.2) (off_cons (RD.1 _ _ rd).1 (fun p hp => (hoff p hp).1) oo)))))
      subst hGoal113
      refine own_name (o := oC3) F4 N4 nC3 hoffC2 ?_
      intro oC4 h16 tk16 nC4 F16 N16
      clear F4 N4
      refine ifs_nil ?_
      have N17 : News h₀ L h16 _ := news_l5a (A := lexL X ln2 tl2 [] 0) N16
      have e1 : (_, oL) ∈ led2 ++ ((C2, oC4) :: (D2, listOf zs.toArray zk) :: (I2, it2) :: (C, oC2) :: (D, listOf ys.toArray yk) :: (I, it) :: (add ++ (CK ++ R))) := List.mem_append_right _ (mem_deep 6 (List.mem_append_right _ (List.mem_append_left _ mL)))
      clear N16
      dsimp only [lexL, LexP.outer, lexE, List.cons_append, List.nil_append] at N17
      try dsimp only
      wtm_at "mQ"
      (k_here; k_dflt (refine' Mine.c_tokL (X := X) (ln := ln2) (tl := tl2) (k := 0) (sg := unread d.fs d.pr d.xs d.low i j) RD rd2 (unread_len hlow hsm hpp ht) DI (O2 oC4) _ _ _ _ _ _ _ _ _ _ _ _ _ _ _ _ _ ?k1z119 ?k2z119 ?k3z119 ?k4z119 ?k5z119 ?kKz119 ?kdz119 ?kuz119 ?kRz119; (case k1z119 => k_asm); (case k2z119 => k_asm); (case k3z119 => k_asm); (case k4z119 => exact N17); (case k5z119 => k_asm); (case kKz119 => first | exact rfl | assumption); (case kdz119 => wtm_at "mRM"); (case kuz119 => wtm_at "mRU")))
      intro v9 n9 h9 tk9 hp9 F9 N9
      clear N17
      (first | (with_reducible show wpAny _ _ _ _ _ _; generalize hGoal114 : wpAny _ _ _ _ _ _ = Goal114) | (dsimp only; with_reducible show wpAny _ _ _ _ _ _; generalize hGoal114 : wpAny _ _ _ _ _ _ = Goal114) | (generalize hGoal114 : True = Goal114))
      obtain ⟨⟨u9, hu9⟩, ln3, tl3, led3, rd3, hln3, rfl⟩ := hp9
      rw [utok] at hu9 rd3 hln3
      have hu9 : v9 = .str (wordOf (d.low + kk)) u9 := hu9
      subst hu9
      have hln3 : ln3 + cnt10 (unread d.fs d.pr d.xs d.low i (j + 1)) = 7 := hln3.trans hln2
      have hl3 : led3.map (·.1) = led2.map (·.1) := (RD.1 _ _ rd3).1.trans hl2.symm
      have N9 : News h₀ L h9 _ := news_l5b (A := lexL X ln3 tl3 [] 0) N9
      subst hGoal114
      try dsimp only
      try k_fold
      wtm_at "mQ"
      refine hy2 _ oC4 _ ((C, oC2) :: (D, listOf ys.toArray yk) :: (I, it) :: (lexL X ln3 tl3 [] 0 ++ (led3 ++ (add ++ (CK ++ R))))) _ _ ⟨ln3, tl3, led3, rd3, hln3, rfl, ?_⟩ ?sub2 nC4 F9 N9 ?off2
      · rw [rowW_take hk]
        exact strsAre_snoc hzs
      case sub2 => exact fun p hp => by rw [List.mem_singleton.mp hp]; exact mem_deep 3 (List.mem_append_right _ (List.mem_append_right _ (List.mem_append_right _ (List.mem_append_right _ mrow))))
      case off2 => exact lex_adr (pre := [_, _, _]) (P := fun x => x ≠ I2 ∧ x ≠ C2 ∧ x ≠ D2) hoff2 hl3
    case done2 =>
      intro D2 zs zk nn h9 tk9 hJ2 hzl hsub2 hoffD hltD F4 N4
      clear F3 N3
      (first | (with_reducible show wpAny _ _ _ _ _ _; generalize hGoal115 : wpAny _ _ _ _ _ _ = Goal115) | (dsimp only; with_reducible show wpAny _ _ _ _ _ _; generalize hGoal115 : wpAny _ _ _ _ _ _ = Goal115) | (generalize hGoal115 : True = Goal115))
      obtain ⟨ln2, tl2, led2, rd2, hln2, rfl, hzs⟩ := hJ2
      rw [hI.1, sgAt_next ht] at rd2 hln2
      have hzs : StrsAre zs (rowW d.fs d.pr d.low i) := by
        rw [← List.take_length (l := rowW d.fs d.pr d.low i), show (rowW d.fs d.pr d.low i).length = rvs.length by unfold rowW; rw [List.length_map, hI.1]]; exact hzs
      have hl2 := (RD.1 _ _ rd2).1.trans (RD.1 _ _ rd).1.symm
      have N4 := news_l5d (A := lexL X ln2 tl2 [] 0) N4
      subst hGoal115
      try dsimp only
      wtm_at "mQ"
      refine hy _ oC2 _ (lexL X ln2 tl2 [] 0 ++ (led2 ++ (((D2, listOf zs.toArray zk) :: add) ++ (CK ++ R)))) _ _ ⟨ln2, tl2, led2, (D2, listOf zs.toArray zk) :: add, rd2, hln2, rfl, ?_, ?_, ?_⟩ ?sub3 nC2 F4 N4 ?off3
      · rw [rowsW_take ht]
        exact hys.snoc (.head _) hzs fun p hp => .tail _ hp
      · exact off_cons (RD.1 _ _ rd2).1 (fun p hp => hoffD p (mem_deep 3 hp)) oo
      · intro p hp q hq
        rcases List.mem_cons.mp hp with rfl | hp
        · exact hltD q (mem_deep 3 (List.mem_append_right _ (List.mem_append_right _ (List.mem_append_right _ hq))))
        · exact hlt2 p hp q hq
      case sub3 => exact fun p hp => by rw [List.mem_singleton.mp hp]; exact List.mem_append_right _ (List.mem_append_right _ (List.mem_append_right _ (List.mem_append_right _ mr)))
      case off3 =>
        intro p hp
        have h1 := lex_adr0 (P := fun x => x ≠ I ∧ x ≠ C ∧ x ≠ D) hoff hl2 (ln' := ln2) (tl' := tl2) (ps' := []) (k' := 0)
        have h2 := hltD (I, it) (.tail _ (.tail _ (.head _)))
        have h3 := hltD (C, oC2) (.head _)
        have h4 := hltD (D, listOf ys.toArray yk) (.tail _ (.head _))
        rcases List.mem_append.mp hp with hp | hp
        · exact h1 p (List.mem_append_left _ hp)
        · rcases List.mem_append.mp hp with hp | hp
          · exact h1 p (List.mem_append_right _ (List.mem_append_left _ hp))
          · rcases List.mem_cons.mp hp with rfl | hp
            · exact ⟨Nat.ne_of_gt h2, Nat.ne_of_gt h3, Nat.ne_of_gt h4⟩
            · exact h1 p (List.mem_append_right _ (List.mem_append_right _ hp))
  case done =>
    intro D rvs rk2 nn h7 tk7 hJ hrl hsub hoffD hltD F2 N2
    clear F1 N1
    (first | (with_reducible show wpAny _ _ _ _ _ _; generalize hGoal116 : wpAny _ _ _ _ _ _ = Goal116) | (dsimp only; with_reducible show wpAny _ _ _ _ _ _; generalize hGoal116 : wpAny _ _ _ _ _ _ = Goal116) | (generalize hGoal116 : True = Goal116))
    obtain ⟨ln, tl2, led2, add, rd, hln, rfl, hys, oo, hlt2⟩ := hJ
    have h5l : (d.fvs ++ [Value.ref d.pa]).length = 5 := by rw [List.length_append, ok.FI.len, ok.h4]; rfl
    rw [h5l] at rd hln hys
    have hys : ListsIn add rvs (rowsW d.fs d.pr d.low) := by
      rw [List.take_of_length_le (by rw [rowsW_len]; exact Nat.le_refl 5)] at hys
      exact hys
    rw [sgAt_five, cnt_last hlow] at hln
    obtain rfl : ln = 5 := by lia
    rw [sgAt_five] at rd
    have N2 := news_l5e (A := lexL X 5 tl2 [] 0) N2
    have OO : Off (X.adr ++ as) (((D, listOf rvs.toArray rk2) :: add) ++ R) := off_cons (RD.1 _ _ rd).1 hoffD (off_app (fun p hp => oo p (List.mem_append_left _ hp)) O)
    have hR3 : ∀ p ∈ lexL X 5 tl2 [] 0 ++ (led2 ++ (((D, listOf rvs.toArray rk2) :: add) ++ R)), p.1 ∉ (lawCl L).map (·.2) := by
      have h1 := lex_adr0 (P := fun x => x ∉ (lawCl L).map (·.2)) hR2 ((RD.1 _ _ rd).1.trans (RD.1 _ _ hR0).1.symm) (ln' := 5) (tl' := tl2) (ps' := []) (k' := 0)
      have h0 : ∀ x, (∀ q ∈ CK, @LT.lt Nat _ q.1 x) → x ∉ (lawCl L).map (·.2) := fun x hx hm => by
        rw [← cells_adr HC] at hm
        obtain ⟨q, hq, rfl⟩ := List.mem_map.mp hm
        exact Nat.lt_irrefl _ (hx q hq)
      intro p hp
      rcases List.mem_append.mp hp with hp | hp
      · exact h1 p (List.mem_append_left _ hp)
      · rcases List.mem_append.mp hp with hp | hp
        · exact h1 p (List.mem_append_right _ (List.mem_append_left _ hp))
        · rcases List.mem_cons.mp hp with rfl | hp
          · exact h0 _ fun q hq => hltD q (List.mem_append_right _ (List.mem_append_right _ (List.mem_append_left _ hq)))
          · rcases List.mem_append.mp hp with hp | hp
            · exact h0 _ fun q hq => hlt2 p hp q (List.mem_append_left _ hq)
            · exact h1 p (List.mem_append_right _ (List.mem_append_right _ hp))
    have mlx : (X.lx, instObj 228 X.dlx) ∈ CK ++ (lexL X 5 tl2 [] 0 ++ (led2 ++ (((D, listOf rvs.toArray rk2) :: add) ++ R))) := List.mem_append_right _ (.head _)
    have mdl : (X.dlx, X.outer 5 tl2) ∈ CK ++ (lexL X 5 tl2 [] 0 ++ (led2 ++ (((D, listOf rvs.toArray rk2) :: add) ++ R))) := List.mem_append_right _ (.tail _ (.head _))
    have mL1 : (_, oL) ∈ CK ++ (lexL X 5 tl2 [] 0 ++ (led2 ++ (((D, listOf rvs.toArray rk2) :: add) ++ R))) := List.mem_append_left _ mL
    have mW1 : (_, oW) ∈ CK ++ (lexL X 5 tl2 [] 0 ++ (led2 ++ (((D, listOf rvs.toArray rk2) :: add) ++ R))) := List.mem_append_left _ mW
    have up : ∀ p ∈ R, p ∈ CK ++ (lexL X 5 tl2 [] 0 ++ (led2 ++ (((D, listOf rvs.toArray rk2) :: add) ++ R))) := fun p hp => List.mem_append_right _ (List.mem_append_right _ (List.mem_append_right _ (List.mem_append_right _ hp)))
    have mD : (D, listOf rvs.toArray rk2) ∈ CK ++ (lexL X 5 tl2 [] 0 ++ (led2 ++ (((D, listOf rvs.toArray rk2) :: add) ++ R))) := List.mem_append_right _ (List.mem_append_right _ (List.mem_append_right _ (.head _)))
    have upA : ∀ p ∈ add, p ∈ CK ++ (lexL X 5 tl2 [] 0 ++ (led2 ++ (((D, listOf rvs.toArray rk2) :: add) ++ R))) := fun p hp => List.mem_append_right _ (List.mem_append_right _ (List.mem_append_right _ (List.mem_append_left _ (.tail _ hp))))
    have kk : ∀ (h' : Heap) (tk' : Tok), Fr h₀ L h' (fun z => if z = Str.ofString "read" then some (.ref D) else m z) → News h₀ L h' (CK ++ (lexL X 5 tl2 [] 0 ++ (led2 ++ (((D, listOf rvs.toArray rk2) :: add) ++ R)))) → Q .next { s with heap := h', toks := tk' } := fun h' tk' F' N' => k _ h' tk' tl2 led2 ((D, listOf rvs.toArray rk2) :: add) D rvs rk2 ⟨F', ⟨CK, N', HC⟩, hR3⟩ rd OO rfl (.head _) (hys.mono fun p hp => .tail _ hp) rfl rfl
    clear k hR3 OO oo hlt2
    have N2 : News h₀ L h7 _ := N2
    have HC2 := HC
    generalize CK ++ (lexL X 5 tl2 [] 0 ++ (led2 ++ (((D, listOf rvs.toArray rk2) :: add) ++ R))) = W1 at N2 mlx mdl mL1 mW1 up mD upA kk
    dsimp only [LexP.outer, lexE, List.cons_append, List.nil_append] at mdl
    have N2 := news_more (news_more N2 mdl) (.tail _ mlx)
    subst hGoal116
    try dsimp only
    wtm_at "mQX"
    refine comp_open (cl := _) (by rfl) ?_
    have mr2 : (rl, listOf (d.fvs ++ [Value.ref d.pa]).toArray rk) ∈ W1 := up _ mr
    wtm_at "mQX"
    rename News _ _ _ _ => N3
    rename Fr _ _ _ _ => F3
    try dsimp only
    refine comp_K (src_list N3 (.tail _ (.tail _ mr2)) rfl rfl) F3 N3 ?hn3 (fun i ys add2 => ListsIn add2 ys ((rowsW d.fs d.pr d.low).take i)) .nil ?turn3 ?done3
    case hn3 => rw [h5l]; decide
    case turn3 =>
      intro E1 Ky Kn C R1 oC mc i v ys add2 h9 tk9 hi hv hyl hlC hRR hAR hoffC nC F4 N4 hy hx hJ
      clear F3 N3 hx
      (first | (with_reducible show wpAny _ _ _ _ _ _; generalize hGoal117 : wpAny _ _ _ _ _ _ = Goal117) | (dsimp only; with_reducible show wpAny _ _ _ _ _ _; generalize hGoal117 : wpAny _ _ _ _ _ _ = Goal117) | (generalize hGoal117 : True = Goal117))
      have ht : i < 5 := by rw [h5l] at hi; exact hi
      obtain ⟨ta, ro, rvs3, rk3, hrow, mrow, rc, rdd, hI⟩ := row_at ok ht
      rw [hrow] at hv
      cases hv
      obtain ⟨hr3, hr5⟩ := row_ok hsm hpp i
      have mrow := hRR _ (.tail _ (.tail _ (up _ mrow)))
      have mW2 := hRR _ (.tail _ (.tail _ mW1))
      have mw2 := hRR _ (.tail _ (.tail _ (up _ mw)))
      subst hGoal117
      refine own_name (o := oC) F4 N4 nC hoffC ?_
      intro oC2 h14 tk14 nC2 F14 N14
      clear F4 N4
      refine ifs_nil ?_
      try dsimp only
      refine comp_open (cl := _) (by rfl) ?_
      wtm_at "mQ"
      rename News _ _ _ _ => N5
      rename Fr _ _ _ _ => F5
      try dsimp only
      refine comp_K0 (src_tup N5 (.tail _ mrow) rc rdd) F5 N5 ?hn4 (fun j zs => StrsAre zs ((rowW d.fs d.pr d.low i).take j)) .nil ?turn4 ?done4
      case hn4 => rw [hI.1]; exact Nat.le_trans hr3 (by decide)
      case turn4 =>
        intro E2 Ky2 Kn2 C2 R2 oC3 mc2 j v zs h16 tk16 hj hv hzl hRR2 hoffC2 nC3 F6 N6 hy2 hx2 hzs
        clear F5 N5 hx2
        (first | (with_reducible show wpAny _ _ _ _ _ _; generalize hGoal118 : wpAny _ _ _ _ _ _ = Goal118) | (dsimp only; with_reducible show wpAny _ _ _ _ _ _; generalize hGoal118 : wpAny _ _ _ _ _ _ = Goal118) | (generalize hGoal118 : True = Goal118))
        obtain ⟨kk9, hk⟩ : ∃ kk, (rowOf d.fs d.pr i)[j]? = some kk := ⟨_, List.getElem?_eq_getElem (by rw [← hI.1]; exact hj)⟩
        obtain ⟨tkk, hvv⟩ := hI.2 j kk9 hk
        rw [hvv] at hv
        cases hv
        have k5 := hr5 kk9 (List.mem_of_getElem? hk)
        obtain ⟨tw, hwk⟩ := strsAre_get hw (wordsL_get (low := d.low) k5)
        have e1 := hRR2 _ (.tail _ mW2)
        have e2 := hRR2 _ (.tail _ mw2)
        subst hGoal118
        refine own_name (o := oC3) F6 N6 nC3 hoffC2 ?_
        intro oC4 h18 tk18 nC4 F18 N18
        clear F6 N6
        refine ifs_nil ?_
        try dsimp only
        wtm_at "mQ"
        refine hy2 _ oC4 _ _ _ ?_ nC4 F18 N18
        rw [rowW_take hk]
        exact strsAre_snoc hzs
      case done4 =>
        intro D2 zs zk h16 tk16 hzs hzl hltD F6 N6
        clear F5 N5
        try dsimp only
        wtm_at "mQ"
        refine hy _ oC2 _ [(D2, listOf zs.toArray zk)] _ _ ?_ nC2 F6 N6 (fun p hp => by rw [List.mem_singleton.mp hp]; exact hltD _ (.head _))
        rw [rowsW_take ht]
        refine ListsIn.snoc hJ (.head _) ?_ fun p hp => .tail _ hp
        rw [← List.take_length (l := rowW d.fs d.pr d.low i), show (rowW d.fs d.pr d.low i).length = rvs3.length by unfold rowW; rw [List.length_map, hI.1]]
        exact hzs
    case done3 =>
      intro D3 zs zk add2 h9 tk9 hJ hzl hA1 hA2 hA3 F4 N4
      clear F3 N3
      have hJ : ListsIn add2 zs (rowsW d.fs d.pr d.low) := by
        rw [h5l, List.take_of_length_le (by rw [rowsW_len]; exact Nat.le_refl 5)] at hJ
        exact hJ
      try dsimp only
      wtm_at "mQX"
      refine ne_lists N4 (.tail _ (List.mem_append_right _ (.tail _ (.tail _ mD)))) (.head _) (hys.mono fun p hp => .tail _ (List.mem_append_right _ (.tail _ (.tail _ (upA p hp))))) (hJ.mono fun p hp => .tail _ (List.mem_append_left _ hp)) (rowsW_sok hlow hsm hpp) ?ou ?_
      case ou => wtm_at "mRU"
      have N4 := news_l5f N4
      try dsimp only
      wtm_at "mQX"
      exact kk _ _ F4 (news_drop (news_drop N4))
end
end Mine
end
section
open PySem PySem.W PyProof.Rows PySem.Calls PySem.Spec
set_option Elab.async false
set_option maxRecDepth 100000
set_option maxHeartbeats 0
namespace Mine
section
variable {w : World} {p : Program} {loose : List Str} {mean : ExcName → Option Value} {mg mb : Str → Option Value} {dp un : Nat} {gd : Option (List Code)} {cn : Str} {a : Addr} {ccd : Value} {A₀ : Around} {base h₀ : Heap} {L : Addr} {m cm : Str → Option Value} {s : Shared} {R : Led}
theorem pairs_two {r : Led} {t1 t2 : Addr} {k1 v1 k2 v2 : Str} {a1 a2 b1 b2 : Tok} {n1 n2 : Nat} {kvs : List (Str × Str)} (m1 : (t1, tupO k1 a1 v1 b1 n1) ∈ r) (m2 : (t2, tupO k2 a2 v2 b2 n2) ∈ r) (h : kvs = [(k1, v1), (k2, v2)]) : PairsIn r [.ref t1, .ref t2] kvs := by
  subst h
  refine ⟨rfl, fun i k v e => ?_⟩
  match i, e with
  | 0, e => cases e; exact ⟨t1, a1, b1, n1, rfl, m1⟩
  | 1, e => cases e; exact ⟨t2, a2, b2, n2, rfl, m2⟩
theorem two_gen {h : Heap} {l t1 t2 : Addr} {k1 v1 k2 v2 : Str} {a1 b1 a2 b2 : Tok} {W : Led} (N : News h₀ L h ((l, listOf #[.ref t1, .ref t2] 0) :: (t2, tupO k2 a2 v2 b2 0) :: (t1, tupO k1 a1 v1 b1 0) :: W)) :
    PairsIn ((t2, tupO k2 a2 v2 b2 0) :: (t1, tupO k1 a1 v1 b1 0) :: W) [.ref t1, .ref t2] [(k1, v1), (k2, v2)] ∧ News h₀ L h ((l, listOf (List.toArray [.ref t1, .ref t2]) 0) :: (t2, tupO k2 a2 v2 b2 0) :: (t1, tupO k1 a1 v1 b1 0) :: W) :=
  ⟨pairs_two (.tail _ (.head _)) (.head _) rfl, N⟩
theorem news_l6 {h : Heap} {b dx l : Addr} {hs : Int} {t : Tok} {vs : List Value} {k : Nat} {t1 t2 : Addr × Obj} {A B CK R : Led} (N : News h₀ L h (bookL b dx l hs t 1 vs k ++ (t2 :: t1 :: (CK ++ (A ++ (B ++ R)))))) :
    News h₀ L h (CK ++ (A ++ (B ++ ((l, listOf vs.toArray k) :: (b, instObj 171 dx) :: (dx, dictOf [⟨hs, .str (Str.ofString "_headers") t, .ref l⟩] 1) :: t2 :: t1 :: R)))) := news_sub N fun p hp => by
  simp only [bookL, List.cons_append, List.nil_append] at hp ⊢
  exact Mine.sub_at hp (by wtm_at "per")
theorem l6_end {X : LexP} {as : List Addr} {led R1 CK : Led} {ln : Int} {tl : Tok} {ps : List Value} {kp : Nat} {t1 t2 l dx b : Addr} {o1 o2 o3 o4 ol : Obj} (HC : CellsAre cm (lawCl L) CK) (hled : led.map (·.1) = as) (O : Off (X.adr ++ as) R1) (hR2 : ∀ p ∈ lexL X ln tl ps kp ++ (led ++ R1), p.1 ∉ (lawCl L).map (·.2))
    (C1 : ∀ p ∈ CK ++ (lexL X ln tl ps kp ++ (led ++ R1)), @LT.lt Nat _ p.1 t1) (B1 : @LT.lt Nat _ t1 t2) (A1 : @LT.lt Nat _ t2 l) (D1 : @LT.lt Nat _ l dx) (D2 : @LT.lt Nat _ dx b) :
    Off (X.adr ++ as) ((l, ol) :: (b, o1) :: (dx, o2) :: (t2, o3) :: (t1, o4) :: R1) ∧ (∀ p ∈ ((b, o1) :: (dx, o2) :: (t2, o3) :: (t1, o4) :: R1 : Led), p.1 ≠ l) ∧ (∀ p ∈ lexL X ln tl ps kp ++ (led ++ ((l, ol) :: (b, o1) :: (dx, o2) :: (t2, o3) :: (t1, o4) :: R1)), p.1 ∉ (lawCl L).map (·.2)) := by
  have C2 : ∀ p ∈ CK ++ (lexL X ln tl ps kp ++ (led ++ R1)), @LT.lt Nat _ p.1 t2 := fun p hp => Nat.lt_trans (C1 p hp) B1
  have C3 : ∀ p ∈ CK ++ (lexL X ln tl ps kp ++ (led ++ R1)), @LT.lt Nat _ p.1 l := fun p hp => Nat.lt_trans (C2 p hp) A1
  have C4 : ∀ p ∈ CK ++ (lexL X ln tl ps kp ++ (led ++ R1)), @LT.lt Nat _ p.1 dx := fun p hp => Nat.lt_trans (C3 p hp) D1
  have C5 : ∀ p ∈ CK ++ (lexL X ln tl ps kp ++ (led ++ R1)), @LT.lt Nat _ p.1 b := fun p hp => Nat.lt_trans (C4 p hp) D2
  refine ⟨fresh_off C3 hled (fresh_off C5 hled (fresh_off C4 hled (fresh_off C2 hled (fresh_off C1 hled O)))), fun p hp => ?_, fun p hp => ?_⟩
  · rcases List.mem_cons.mp hp with rfl | hp
    · exact Nat.ne_of_gt (Nat.lt_trans D1 D2)
    · rcases List.mem_cons.mp hp with rfl | hp
      · exact Nat.ne_of_gt D1
      · rcases List.mem_cons.mp hp with rfl | hp
        · exact Nat.ne_of_lt A1
        · rcases List.mem_cons.mp hp with rfl | hp
          · exact Nat.ne_of_lt (Nat.lt_trans B1 A1)
          · exact Nat.ne_of_lt (C3 p (List.mem_append_right _ (List.mem_append_right _ (List.mem_append_right _ hp))))
  · rcases List.mem_append.mp hp with hp | hp
    · exact hR2 p (List.mem_append_left _ hp)
    · rcases List.mem_append.mp hp with hp | hp
      · exact hR2 p (List.mem_append_right _ (List.mem_append_left _ hp))
      · rcases List.mem_cons.mp hp with rfl | hp
        · exact fresh_cell HC C3
        · rcases List.mem_cons.mp hp with rfl | hp
          · exact fresh_cell HC C5
          · rcases List.mem_cons.mp hp with rfl | hp
            · exact fresh_cell HC C4
            · rcases List.mem_cons.mp hp with rfl | hp
              · exact fresh_cell HC C2
              · rcases List.mem_cons.mp hp with rfl | hp
                · exact fresh_cell HC C1
                · exact hR2 p (List.mem_append_right _ (List.mem_append_right _ hp))
theorem l6_all {h : Heap} {X : LexP} {as : List Addr} {led R1 CK : Led} {ln : Int} {tl : Tok} {ps : List Value} {kp : Nat} {t1 t2 l dx b : Addr} {k1 v1 k2 v2 : Str} {a1 b1 a2 b2 t : Tok} {hs : Int} {k : Nat} (HC : CellsAre cm (lawCl L) CK) (hled : led.map (·.1) = as) (O : Off (X.adr ++ as) R1) (hR2 : ∀ p ∈ lexL X ln tl ps kp ++ (led ++ R1), p.1 ∉ (lawCl L).map (·.2))
    (C1 : ∀ p ∈ CK ++ (lexL X ln tl ps kp ++ (led ++ R1)), @LT.lt Nat _ p.1 t1) (B1 : @LT.lt Nat _ t1 t2) (A1 : @LT.lt Nat _ t2 l) (D1 : @LT.lt Nat _ l dx) (D2 : @LT.lt Nat _ dx b)
    (P : PairsIn ((t2, tupO k2 a2 v2 b2 0) :: (t1, tupO k1 a1 v1 b1 0) :: (CK ++ (lexL X ln tl ps kp ++ (led ++ R1)))) [.ref t1, .ref t2] [(k1, v1), (k2, v2)])
    (N : News h₀ L h (bookL b dx l hs t 1 [.ref t1, .ref t2] k ++ ((t2, tupO k2 a2 v2 b2 0) :: (t1, tupO k1 a1 v1 b1 0) :: (CK ++ (lexL X ln tl ps kp ++ (led ++ R1)))))) :
    ∃ Rr : Led, News h₀ L h (CK ++ (lexL X ln tl ps kp ++ (led ++ ((l, listOf (List.toArray [Value.ref t1, .ref t2]) k) :: Rr)))) ∧ Off (X.adr ++ as) ((l, listOf (List.toArray [Value.ref t1, .ref t2]) k) :: Rr) ∧ (∀ p ∈ Rr, p.1 ≠ l) ∧ (∀ p ∈ lexL X ln tl ps kp ++ (led ++ ((l, listOf (List.toArray [Value.ref t1, .ref t2]) k) :: Rr)), p.1 ∉ (lawCl L).map (·.2)) ∧
      IsBook Rr b l ∧ PairsIn Rr [.ref t1, .ref t2] [(k1, v1), (k2, v2)] ∧ (∀ p ∈ R1, p ∈ Rr) := by
  obtain ⟨x1, x2, x3⟩ := l6_end HC hled O hR2 C1 B1 A1 D1 D2
  exact ⟨_, news_l6 N, x1, x2, x3, ⟨dx, hs, t, 1, .head _, .tail _ (.head _)⟩, pairs_two (.tail _ (.tail _ (.tail _ (.head _)))) (.tail _ (.tail _ (.head _))) rfl, fun p hp => .tail _ (.tail _ (.tail _ (.tail _ hp)))⟩
theorem law_6 {low : Nat} {X : LexP} {as : List Addr} {led R1 : Led} {ln : Int} {tl : Tok} {wl : Addr} {wvs : List Value} {wk kp : Nat} {Q : Flow → Shared → Prop} {E : Value → Shared → Prop}
    (hB : Below A₀ base [] h₀) (hX : Frag.In (Mine.pb.heap_1 w.params) h₀) (hT : Top p loose mean mg mb h₀) (hd : dp + 40 < recursionLimit) (hu : un + 400 < cLine)
    (S : St2 h₀ L s.heap m cm (lexL X ln tl [] kp ++ (led ++ R1))) (hled : led.map (·.1) = as) (O : Off (X.adr ++ as) R1) (hlow : low < 29)
    (mw : (wl, listOf wvs.toArray wk) ∈ R1) (hw : StrsAre wvs (wordsL low)) (hcw : cm (Str.ofString "words") = some (.ref wl))
    (k : ∀ (h' : Heap) (tk' : Tok) (b l : Addr) (vs : List Value) (k : Nat) (Rr : Led), St2 h₀ L h' m (upS cm (Str.ofString "book") (.ref b)) (lexL X ln tl [] kp ++ (led ++ ((l, listOf vs.toArray k) :: Rr))) → Off (X.adr ++ as) ((l, listOf vs.toArray k) :: Rr) → (∀ p ∈ Rr, p.1 ≠ l) →
      IsBook Rr b l → PairsIn Rr vs (kvs0 low) → (∀ p ∈ R1, p ∈ Rr) → Q .next { s with heap := h', toks := tk' }) :
    wpAny (model PySem.Challenge.rw_ti0052_01.prog w) (lawA dp un gd cn L a ccd) (execs (seg 12 1) (lawEnv cn L a ccd)) Q E s := by
  revert hX; k_fill; intro hX
  obtain ⟨F, ⟨CK, N, HC⟩, hR2⟩ := S
  obtain ⟨oW, mW, dW⟩ := cells_at HC (y := Str.ofString "words") rfl
  rw [hcw] at dW
  have mw1 : (wl, listOf wvs.toArray wk) ∈ CK ++ (lexL X ln tl [] kp ++ (led ++ R1)) := List.mem_append_right _ (List.mem_append_right _ (List.mem_append_right _ mw))
  have mW1 : (_, oW) ∈ CK ++ (lexL X ln tl [] kp ++ (led ++ R1)) := List.mem_append_left _ mW
  obtain ⟨t0, hk0⟩ := strsAre_get hw (wordsL_get (low := low) (i := 0) (by decide))
  obtain ⟨t1, hk1⟩ := strsAre_get hw (wordsL_get (low := low) (i := 1) (by decide))
  rw [Nat.add_zero] at hk0
  have hk0 : wvs[Int.toNat 0]? = some (.str (wordOf low) t0) := hk0
  have hk1 : wvs[Int.toNat 1]? = some (.str (wordOf (low + 1)) t1) := hk1
  have f0 := word_fit (by lia : low < 33)
  have f2 := word_fit (by lia : low + 2 < 33)
  show wpAny _ _ (execs [_] _) _ _ _
  (show (let V := _; let A9 := _; wpAny _ A9 (execs _ V) _ _ _)); intro V A9
  wtm_at "mQ"
  rename _ ∧ _ ∧ AllLt _ _ => lA
  rename _ < _ ∧ AllLt _ _ => lB
  rename News _ _ _ _ => N1
  rename Fr _ _ _ _ => F1
  (first | (with_reducible show wpAny _ _ _ _ _ _; generalize hGoal120 : wpAny _ _ _ _ _ _ = Goal120) | (dsimp only; with_reducible show wpAny _ _ _ _ _ _; generalize hGoal120 : wpAny _ _ _ _ _ _ = Goal120) | (generalize hGoal120 : True = Goal120))
  obtain ⟨P0, N1⟩ := two_gen N1
  obtain ⟨A1, A2, A3⟩ := lA
  obtain ⟨B1, B2⟩ := lB
  subst hGoal120
  rename ∀ p ∈ CK ++ _, _ => lC
  (k_here; k_dflt (refine' Mine.c_newL (kvs := kvs0 low) P0 (kvs0_ok hlow) _ _ _ _ _ _ _ _ _ _ _ _ _ _ _ _ _ ?k1z123 ?k2z123 ?k3z123 ?k4z123 ?k5z123 ?kKz123 ?kdz123 ?kuz123 ?kRz123; (case k1z123 => k_asm); (case k2z123 => k_asm); (case k3z123 => k_asm); (case k4z123 => exact N1); (case k5z123 => k_asm); (case kKz123 => first | exact rfl | assumption); (case kdz123 => wtm_at "mRM"); (case kuz123 => wtm_at "mRU")))
  intro v9 n9 h9 tk9 hp9 F9 N9
  clear N1
  (first | (with_reducible show wpAny _ _ _ _ _ _; generalize hGoal121 : wpAny _ _ _ _ _ _ = Goal121) | (dsimp only; with_reducible show wpAny _ _ _ _ _ _; generalize hGoal121 : wpAny _ _ _ _ _ _ = Goal121) | (generalize hGoal121 : True = Goal121))
  obtain ⟨b, dx, hs, tb, rfl, ho1, ho2, ho3, rfl⟩ := hp9
  obtain ⟨Rr, N9, O9, ol9, oc9, IB, P9, sub9⟩ := l6_all HC hled O hR2 lC B1 A1 ho1 ho2 P0 N9
  clear P0
  subst hGoal121
  try dsimp only
  try k_fold
  wtm_at "mQX"
  rename CellsAre (upS _ _ _) _ _ => HC9
  rename Fr _ _ _ _ => F10
  rename News _ _ _ _ => N10
  exact k _ _ b _ _ _ Rr ⟨F10, ⟨_, N10, HC9⟩, oc9⟩ O9 ol9 IB P9 sub9
theorem law_6b {low : Nat} {X : LexP} {as : List Addr} {led Rr : Led} {ln : Int} {tl : Tok} {wl b l : Addr} {wvs vs : List Value} {wk kp k : Nat} {Q : Flow → Shared → Prop} {E : Value → Shared → Prop}
    (hB : Below A₀ base [] h₀) (hX : Frag.In (Mine.pb.heap_1 w.params) h₀) (hT : Top p loose mean mg mb h₀) (hd : dp + 40 < recursionLimit) (hu : un + 400 < cLine)
    (S : St2 h₀ L s.heap m cm (lexL X ln tl [] kp ++ (led ++ ((l, listOf vs.toArray k) :: Rr)))) (hled : led.map (·.1) = as) (O : Off (X.adr ++ as) ((l, listOf vs.toArray k) :: Rr)) (hl : ∀ p ∈ Rr, p.1 ≠ l) (hlow : low < 29) (IB : IsBook Rr b l) (P : PairsIn Rr vs (kvs0 low))
    (mw : (wl, listOf wvs.toArray wk) ∈ Rr) (hw : StrsAre wvs (wordsL low)) (hcw : cm (Str.ofString "words") = some (.ref wl)) (hcb : cm (Str.ofString "book") = some (.ref b))
    (kont : ∀ (h' : Heap) (tk' : Tok), St2 h₀ L h' m cm (lexL X ln tl [] kp ++ (led ++ ((l, listOf vs.toArray k) :: Rr))) → Q .next { s with heap := h', toks := tk' }) :
    wpAny (model PySem.Challenge.rw_ti0052_01.prog w) (lawA dp un gd cn L a ccd) (execs (seg 13 1) (lawEnv cn L a ccd)) Q E s := by
  revert hX; k_fill; intro hX
  obtain ⟨F, ⟨CK, N, HC⟩, hR2⟩ := S
  obtain ⟨oW, mW, dW⟩ := cells_at HC (y := Str.ofString "words") rfl
  obtain ⟨oB, mB, dB⟩ := cells_at HC (y := Str.ofString "book") rfl
  rw [hcw] at dW
  rw [hcb] at dB
  have N1 := news_pull N
  have hoff := off_l HC hR2 O hled hl
  have sub : ∀ p ∈ Rr, p ∈ CK ++ (lexL X ln tl [] kp ++ (led ++ Rr)) := sub_rr
  have hlen : vs.length < 1000 := by rw [P.len]; show 2 < 1000; decide
  have kk : ∀ (h' : Heap) (tk' : Tok), Fr h₀ L h' m → News h₀ L h' ((l, listOf vs.toArray k) :: (CK ++ (lexL X ln tl [] kp ++ (led ++ Rr)))) → Q .next { s with heap := h', toks := tk' } := fun h' tk' F' N' => kont h' tk' ⟨F', ⟨CK, news_push N', HC⟩, hR2⟩
  have mw1 := sub _ mw
  have mW1 : (_, oW) ∈ CK ++ (lexL X ln tl [] kp ++ (led ++ Rr)) := List.mem_append_left _ mW
  have mB1 : (_, oB) ∈ CK ++ (lexL X ln tl [] kp ++ (led ++ Rr)) := List.mem_append_left _ mB
  have IB := IB.mono sub
  have P := P.mono sub
  have HS : ∀ p ∈ CK, p ∈ CK ++ (lexL X ln tl [] kp ++ (led ++ Rr)) := fun p hp => List.mem_append_left _ hp
  clear N kont hR2 O hl sub mw mW mB
  generalize CK ++ (lexL X ln tl [] kp ++ (led ++ Rr)) = W1 at N1 hoff mw1 mW1 mB1 IB P HS kk
  obtain ⟨t0, hk0⟩ := strsAre_get hw (wordsL_get (low := low) (i := 0) (by decide))
  obtain ⟨t2, hk2⟩ := strsAre_get hw (wordsL_get (low := low) (i := 2) (by decide))
  rw [Nat.add_zero] at hk0
  have hk0 : wvs[Int.toNat 0]? = some (.str (wordOf low) t0) := hk0
  have hk2 : wvs[Int.toNat 2]? = some (.str (wordOf (low + 2)) t2) := hk2
  have f0 := word_fit (by lia : low < 33)
  have f2 := word_fit (by lia : low + 2 < 33)
  obtain ⟨dx, hs, tb, nb, mb1, mb2⟩ := IB
  have N1 := news_more (news_more N1 (.tail _ mb2)) (.tail _ (.tail _ mb1))
  show wpAny _ _ (execs [_] _) _ _ _
  (show (let V := _; let A9 := _; wpAny _ A9 (execs _ V) _ _ _)); intro V A9
  wtm_at "mQ"
  (k_here; k_dflt (refine' Mine.c_setdefault (b := b) (l := l) (x := Txt.upper (wordOf low)) (y := wordOf (low + 2)) (k := k) (R := W1) ⟨dx, hs, tb, nb, mb1, mb2⟩ P (by rw [f0.2.2.2.2.2.2.1]; exact f0.2.2.1) (by rw [f0.2.2.2.2.2.2.1]; exact f0.2.2.2.1) f0.2.2.2.2.2.1 f0.2.2.2.2.1 f2.1 f2.2.1 (kvs0_keys hlow) hlen hoff _ _ _ _ _ _ _ _ _ _ _ _ _ _ _ _ _ ?k1z124 ?k2z124 ?k3z124 ?k4z124 ?k5z124 ?kKz124 ?kdz124 ?kuz124 ?kRz124; (case k1z124 => k_asm); (case k2z124 => k_asm); (case k3z124 => k_asm); (case k4z124 => exact news_drop (news_drop N1)); (case k5z124 => k_asm); (case kKz124 => first | exact rfl | assumption); (case kdz124 => wtm_at "mRM"); (case kuz124 => wtm_at "mRU")))
  intro v9 n9 h9 tk9 hp9 F9 N9
  clear N1
  (first | (with_reducible show wpAny _ _ _ _ _ _; generalize hGoal122 : wpAny _ _ _ _ _ _ = Goal122) | (dsimp only; with_reducible show wpAny _ _ _ _ _ _; generalize hGoal122 : wpAny _ _ _ _ _ _ = Goal122) | (generalize hGoal122 : True = Goal122))
  rw [f0.2.2.2.2.2.2.1, hget_kvs0] at hp9
  obtain ⟨tv, rfl, rfl⟩ : ∃ tv, v9 = .str (Str.ofString "") tv ∧ n9 = (l, listOf vs.toArray k) :: W1 := by
    rcases hp9 with ⟨val, tv, e, hv, hn⟩ | ⟨e, _⟩
    · cases e; exact ⟨tv, hv, hn⟩
    · cases e
  subst hGoal122
  try dsimp only
  try k_fold
  wtm_at "mQ"
  exact kk _ _ F9 N9
end
end Mine
end
section
open PySem PySem.W PyProof.Rows PySem.Calls PySem.Spec
set_option Elab.async false
set_option maxRecDepth 100000
set_option maxHeartbeats 0
namespace Mine
section
variable {w : World} {p : Program} {loose : List Str} {mean : ExcName → Option Value} {mg mb : Str → Option Value} {dp un : Nat} {gd : Option (List Code)} {cn : Str} {a : Addr} {ccd : Value} {A₀ : Around} {base h₀ : Heap} {L : Addr} {m cm : Str → Option Value} {s : Shared} {R : Led}
theorem pow_cast (n : Nat) : (1 * 2 ^ n : Int) = ((2 ^ n : Nat) : Int) := by rw [Int.one_mul]; push_cast; rfl
inductive PutI (low : Nat) (l : Addr) (Rr W1 : Led) (m : Str → Option Value) (t : Nat) (mm : Str → Option Value) (nn : Led) : Prop
  | mk (vs' : List Value) (kl' : Nat) (add : Led) : nn = (l, listOf vs'.toArray kl') :: (add ++ W1) → PairsIn (add ++ Rr) vs' (kvsRun low t) → (∀ p ∈ add, @LT.lt Nat _ l p.1 ∧ ∀ q ∈ W1, @LT.lt Nat _ q.1 p.1) → (∀ y, y ≠ Str.ofString "k" → mm y = m y) → PutI low l Rr W1 m t mm nn
theorem law_7 {low : Nat} {X : LexP} {as : List Addr} {led Rr : Led} {ln : Int} {tl tlow : Tok} {wl b l : Addr} {wvs vs : List Value} {wk kp kl : Nat} {Q : Flow → Shared → Prop} {E : Value → Shared → Prop}
    (hB : Below A₀ base [] h₀) (hX : Frag.In (Mine.pb.heap_1 w.params) h₀) (hT : Top p loose mean mg mb h₀) (hd : dp + 40 < recursionLimit) (hu : un + 400 < cLine)
    (S : St2 h₀ L s.heap m cm (lexL X ln tl [] kp ++ (led ++ ((l, listOf vs.toArray kl) :: Rr)))) (hled : led.map (·.1) = as) (DI : Dist (X.adr ++ as)) (O : Off (X.adr ++ as) ((l, listOf vs.toArray kl) :: Rr)) (hl : ∀ p ∈ Rr, p.1 ≠ l) (hlow : low < 29) (IB : IsBook Rr b l) (P : PairsIn Rr vs (kvs0 low))
    (mw : (wl, listOf wvs.toArray wk) ∈ Rr) (hw : StrsAre wvs (wordsL low)) (hcw : cm (Str.ofString "words") = some (.ref wl)) (hcb : cm (Str.ofString "book") = some (.ref b)) (hcl : cm (Str.ofString "low") = some (.int (low : Int) tlow))
    (kont : ∀ (m' : Str → Option Value) (h' : Heap) (tk' : Tok) (vs' : List Value) (kl' : Nat) (Rr' : Led), St2 h₀ L h' m' cm (lexL X ln tl [] kp ++ (led ++ ((l, listOf vs'.toArray kl') :: Rr'))) → Bk X as b l vs' kl' Rr' Rr (kvsRun low 5) → (∀ y, y ≠ Str.ofString "k" → m' y = m y) → Q .next { s with heap := h', toks := tk' }) :
    wpAny (model PySem.Challenge.rw_ti0052_01.prog w) (lawA dp un gd cn L a ccd) (execs (seg 14 1) (lawEnv cn L a ccd)) Q E s := by
  revert hX; k_fill; intro hX
  obtain ⟨F, ⟨CK, N, HC⟩, hR2⟩ := S
  obtain ⟨oW, mW, dW⟩ := cells_at HC (y := Str.ofString "words") rfl
  obtain ⟨oB, mB, dB⟩ := cells_at HC (y := Str.ofString "book") rfl
  obtain ⟨oL, mL, dL⟩ := cells_at HC (y := Str.ofString "low") rfl
  rw [hcw] at dW
  rw [hcb] at dB
  rw [hcl] at dL
  have N1 := news_pull N
  have hoff := off_l HC hR2 O hled hl
  obtain ⟨W1, hW1⟩ : ∃ W1 : Led, W1 = CK ++ (lexL X ln tl [] kp ++ (led ++ Rr)) := ⟨_, rfl⟩
  rw [← hW1] at N1 hoff
  have sub : ∀ p ∈ Rr, p ∈ W1 := fun p hp => by rw [hW1]; exact sub_rr p hp
  have mw1 := sub _ mw
  have HS : ∀ p ∈ CK, p ∈ W1 := fun p hp => by rw [hW1]; exact List.mem_append_left _ hp
  have mW1 := HS _ mW
  have mB1 := HS _ mB
  have mL1 := HS _ mL
  have IB1 := IB.mono sub
  clear N
  show wpAny _ _ (execs [_] _) _ _ _
  (show (let V := _; let A9 := _; wpAny _ A9 (execs _ V) _ _ _)); intro V A9
  wtm_at "mQ"
  refine wpAny_For ?_
  wtm_at "mQ"
  rename IsRange _ _ _ _ _ _ _ _ => hRg
  rename News _ _ _ _ => N2
  rename Fr _ _ _ _ => F2
  try dsimp only
  refine for_K (n := 5) (src_range hRg (by decide) (by decide)) F2 N2 (PutI low l Rr W1 m)
    ⟨vs, kl, [], rfl, P, (fun _ h => nomatch h), fun _ _ => rfl⟩ ?turn ?done
  case turn =>
    intro E1 K I it t v mm nn h7 tk7 ht hv hsub hoffI F3 N3 hn hJ
    clear F2 N2
    (first | (with_reducible show wpAny _ _ _ _ _ _; generalize hGoal125 : wpAny _ _ _ _ _ _ = Goal125) | (dsimp only; with_reducible show wpAny _ _ _ _ _ _; generalize hGoal125 : wpAny _ _ _ _ _ _ = Goal125) | (generalize hGoal125 : True = Goal125))
    obtain ⟨tv, rfl⟩ := hv
    obtain ⟨vs', kl', add, rfl, P3, hadd, hmm⟩ := hJ
    obtain ⟨tw, hwk⟩ := strsAre_get hw (wordsL_get (low := low) ht)
    have hn64 : low + t ≤ 64 := by lia
    have fw := word_fit (by lia : low + t < 33)
    have hIl : @Ne Nat I l := fun e => hoffI _ (.head _) e.symm
    have hoff3 : ∀ p ∈ (I, it) :: (add ++ W1), p.1 ≠ l := fun p hp => by
      rcases List.mem_cons.mp hp with rfl | hp
      · exact hIl
      · rcases List.mem_append.mp hp with hp | hp
        · exact Nat.ne_of_gt (hadd p hp).1
        · exact hoff p hp
    have sub3 : ∀ p ∈ W1, p ∈ (l, listOf vs'.toArray kl') :: (add ++ W1) := fun p hp => .tail _ (List.mem_append_right _ hp)
    have e1 := sub3 _ mW1
    have e2 := sub3 _ mB1
    have e3 := sub3 _ mL1
    have e4 := sub3 _ mw1
    have hlen3 : vs'.length < 1000 := by
      have := kvsRun_len low t
      rw [P3.len]
      lia
    subst hGoal125
    rw [show (0 : Int) + (t : Int) = (t : Int) from Int.zero_add _]
    have P4 : PairsIn ((I, it) :: (add ++ W1)) vs' (kvsRun low t) := P3.mono fun p hp => .tail _ ((List.mem_append.mp hp).elim (List.mem_append_left _) fun hp => List.mem_append_right _ (sub p hp))
    wtm_at "mQ"
    (k_here; k_dflt (refine' Mine.c_lsh (a := 1) (b := low + t) hn64 (by decide) (by decide) _ _ _ _ _ _ _ _ _ _ _ _ _ _ _ _ _ ?k1z129 ?k2z129 ?k3z129 ?k4z129 ?k5z129 ?kKz129 ?kdz129 ?kuz129 ?kRz129; (case k1z129 => k_asm); (case k2z129 => k_asm); (case k3z129 => k_asm); (case k4z129 => k_asm); (case k5z129 => k_asm); (case kKz129 => first | exact rfl | assumption); (case kdz129 => wtm_at "mRM"); (case kuz129 => wtm_at "mRU")))
    refine Mine.out1 ?_
    intro tv h9 tk9 F9 N9
    rw [pow_cast]
    try dsimp only
    try k_fold
    wtm_at "mQ"
    (k_here; k_dflt (refine' Mine.c_oct (n := 2 ^ (low + t)) (wN_lt hlow ht) _ _ _ _ _ _ _ _ _ _ _ _ _ _ _ _ _ ?k1z130 ?k2z130 ?k3z130 ?k4z130 ?k5z130 ?kKz130 ?kdz130 ?kuz130 ?kRz130; (case k1z130 => k_asm); (case k2z130 => k_asm); (case k3z130 => k_asm); (case k4z130 => k_asm); (case k5z130 => k_asm); (case kKz130 => first | exact rfl | assumption); (case kdz130 => wtm_at "mRM"); (case kuz130 => wtm_at "mRU")))
    refine Mine.out1 ?_
    intro tv h9 tk9 F9 N9
    try dsimp only
    try k_fold
    wtm_at "mQ"
    rename News _ _ _ _ => N5
    rename Fr _ _ _ _ => F5
    (k_here; k_dflt (refine' Mine.c_setfn (b := b) (l := l) (vs := vs') (k := kl') (R := (I, it) :: (add ++ W1)) (kvs := kvsRun low t) (IB1.mono fun p hp => .tail _ (List.mem_append_right _ hp)) P4 fw.2.2.1 fw.2.2.2.1 fw.2.1 fw.1 (octStr_ok _) (octStr_len (wN_lt hlow ht)) (kvsRun_keys hlow (Nat.le_of_lt ht)) hlen3 hoff3 _ _ _ _ _ _ _ _ _ _ _ _ _ _ _ _ _ ?k1z128 ?k2z128 ?k3z128 ?k4z128 ?k5z128 ?kKz128 ?kdz128 ?kuz128 ?kRz128; (case k1z128 => k_asm); (case k2z128 => k_asm); (case k3z128 => k_asm); (case k4z128 => exact news_sw N5); (case k5z128 => k_asm); (case kKz128 => first | exact rfl | assumption); (case kdz128 => wtm_at "mRM"); (case kuz128 => wtm_at "mRU")))
    intro v9 n9 h9 tk9 hp9 F9 N9
    clear N5
    (first | (with_reducible show wpAny _ _ _ _ _ _; generalize hGoal126 : wpAny _ _ _ _ _ _ = Goal126) | (dsimp only; with_reducible show wpAny _ _ _ _ _ _; generalize hGoal126 : wpAny _ _ _ _ _ _ = Goal126) | (generalize hGoal126 : True = Goal126))
    obtain ⟨rfl, vs9, kl9, tt9, htt, rfl, rfl⟩ := hp9
    subst hGoal126
    try dsimp only
    try k_fold
    wtm_at "mQ"
    refine hn _ _ _ _ ⟨_, kl9, (tt9, tupO (wordOf (low + t)) tw (octStr (2 ^ (low + t))) tv 0) :: add, rfl, ?P, ?ad, fun y hy => (if_neg hy).trans (hmm y hy)⟩ (fun p hp => nomatch hp) F9 (news_sw3 N9) ?off
    case P =>
      rw [← kvsRun_next hlow ht]
      exact (P3.keep _).snoc (.head _) fun p hp => .tail _ hp
    case ad =>
      intro p hp
      rcases List.mem_cons.mp hp with rfl | hp
      · exact ⟨htt _ (.head _), fun q hq => htt q (.tail _ (.tail _ (List.mem_append_right _ hq)))⟩
      · exact hadd p hp
    case off =>
      intro p hp
      rcases List.mem_cons.mp hp with rfl | hp
      · exact fun e => hIl e.symm
      · rcases List.mem_cons.mp hp with rfl | hp
        · exact Nat.ne_of_gt (htt _ (.tail _ (.head _)))
        · exact hoffI p (.tail _ hp)
  case done =>
    intro E1 mm nn h7 tk7 hJ hsub F8 N8
    clear F2 N2
    (first | (with_reducible show wpAny _ _ _ _ _ _; generalize hGoal127 : wpAny _ _ _ _ _ _ = Goal127) | (dsimp only; with_reducible show wpAny _ _ _ _ _ _; generalize hGoal127 : wpAny _ _ _ _ _ _ = Goal127) | (generalize hGoal127 : True = Goal127))
    obtain ⟨vs', kl', add, rfl, P3, hadd, hmm⟩ := hJ
    obtain ⟨x1, x2, x3⟩ := grow (o2 := listOf vs'.toArray kl') HC hled O hl hR2 (by rw [hW1] at hadd; exact hadd)
    rw [hW1] at N8
    have N9 := news_bk2 N8
    subst hGoal127
    wtm_at "mQ"
    exact kont mm _ _ vs' kl' (add ++ Rr) ⟨F8, ⟨CK, N9, HC⟩, x3⟩ ⟨x1, x2, IB.mono fun p hp => List.mem_append_right _ hp, P3, fun p hp => List.mem_append_right _ hp⟩ hmm
end
end Mine
end
section
open PySem PySem.W PyProof.Rows PySem.Calls PySem.Spec
set_option Elab.async false
set_option maxRecDepth 100000
set_option maxHeartbeats 0
namespace Mine
section
variable {w : World} {p : Program} {loose : List Str} {mean : ExcName → Option Value} {mg mb : Str → Option Value} {dp un : Nat} {gd : Option (List Code)} {cn : Str} {a : Addr} {ccd : Value} {A₀ : Around} {base h₀ : Heap} {L : Addr} {m cm : Str → Option Value} {s : Shared} {R : Led}
theorem news_pk {h : Heap} {x1 x2 c d i q : Addr × Obj} {W : Led} (N : News h₀ L h (x1 :: x2 :: c :: d :: i :: q :: W)) : News h₀ L h (q :: c :: d :: i :: W) := news_sub N fun p hp => by
  exact Mine.sub_at hp (by wtm_at "per")
theorem news_pk2 {h : Heap} {c d i q : Addr × Obj} {W : Led} (N : News h₀ L h (q :: c :: d :: i :: W)) : News h₀ L h (c :: d :: i :: q :: W) := news_sub N fun p hp => by
  exact Mine.sub_at hp (by wtm_at "per")
theorem news_pk3 {X : LexP} {h : Heap} {l q : Addr × Obj} {CK B R : Led} {ln : Int} {tl : Tok} {ps : List Value} {k : Nat} (N : News h₀ L h ((X.pb, listOf ps.toArray k) :: q :: (CK ++ (lexT X ln tl ++ (B ++ (l :: R)))))) : News h₀ L h (CK ++ (lexL X ln tl ps k ++ (B ++ (l :: q :: R)))) := news_sub N fun p hp => by
  simp only [lexL, lexT, List.cons_append, List.nil_append] at hp ⊢
  exact Mine.sub_at hp (by wtm_at "per")
theorem law_8 {d : Dat1} {X : LexP} {as : List Addr} {led Rr Rk : Led} {ln : Int} {tl : Tok} {b l D : Addr} {vs rvs : List Value} {kp kl rk : Nat} {kvs : List (Str × Str)} {Q : Flow → Shared → Prop} {E : Value → Shared → Prop}
    (hB : Below A₀ base [] h₀) (hX : Frag.In (Mine.pb.heap_1 w.params) h₀) (hT : Top p loose mean mg mb h₀) (hd : dp + 40 < recursionLimit) (hu : un + 400 < cLine)
    (S : St2 h₀ L s.heap m cm (lexL X ln tl [] kp ++ (led ++ ((l, listOf vs.toArray kl) :: Rr)))) (hled : led.map (·.1) = as) (DI : Dist (X.adr ++ as)) (B : Bk X as b l vs kl Rr Rk kvs)
    (hlow : d.low < 29) (h4 : d.fs.length = 4) (hp : d.pr.1 < 5 ∧ d.pr.2 < 5) (hrd : m (Str.ofString "read") = some (.ref D)) (mD : (D, listOf rvs.toArray rk) ∈ Rr) (LI : ListsIn Rr rvs (rowsW d.fs d.pr d.low)) (hcl : cm (Str.ofString "line") = some (.ref X.lx))
    (kont : ∀ (h' : Heap) (tk' : Tok) (Dp : Addr) (pv : List Value) (kd kp' : Nat), St2 h₀ L h' (fun z => if z = Str.ofString "pending" then some (.ref Dp) else m z) cm (lexL X ln tl pv kp' ++ (led ++ ((l, listOf vs.toArray kl) :: (Dp, listOf pv.toArray kd) :: Rr))) → Off (X.adr ++ as) ((Dp, listOf pv.toArray kd) :: Rr) → @Ne Nat Dp l → (∀ p ∈ Rr, p.1 ≠ Dp) →
      StrsAre pv (pushL (wordsL d.low) [d.pr]) → Q .next { s with heap := h', toks := tk' }) :
    wpAny (model PySem.Challenge.rw_ti0052_01.prog w) (lawA dp un gd cn L a ccd) (execs (seg 15 2) (lawEnv cn L a ccd)) Q E s := by
  revert hX; k_fill; intro hX
  obtain ⟨F, ⟨CK, N, HC⟩, hR2⟩ := S
  obtain ⟨oL, mL, dL⟩ := cells_at HC (y := Str.ofString "line") rfl
  rw [hcl] at dL
  obtain ⟨t4, vs4, k4, hv4, m4, hs4⟩ := LI.at_ 4 _ (rowsW_get (by decide))
  rw [rowW_pair h4] at hs4
  have hv4 : rvs[Int.toNat 4]? = some (.ref t4) := hv4
  have hz4 : vs4.length = 2 := strsAre_len hs4
  obtain ⟨W1, hW1⟩ : ∃ W1 : Led, W1 = CK ++ (lexL X ln tl [] kp ++ (led ++ ((l, listOf vs.toArray kl) :: Rr))) := ⟨_, rfl⟩
  rw [← hW1] at N
  have sub : ∀ p ∈ Rr, p ∈ W1 := fun p hp => by rw [hW1]; exact sub_rr p (.tail _ hp)
  have HS : ∀ p ∈ CK, p ∈ W1 := fun p hp => by rw [hW1]; exact List.mem_append_left _ hp
  have mL1 := HS _ mL
  have mD1 := sub _ mD
  have m41 := sub _ m4
  show wpAny _ _ (execs [_, _] _) _ _ _
  (show (let V := _; let A9 := _; wpAny _ A9 (execs _ V) _ _ _)); intro V A9
  wtm_at "mQ"
  refine comp_assign (cl := _) (by with_unfolding_all rfl) (by rfl) ?_
  wtm_at "mQ"
  rename News _ _ _ _ => N2
  rename Fr _ _ _ _ => F2
  try dsimp only
  refine comp_KL0 (src_list N2 m41 rfl rfl) F2 N2 ?hn (fun i ys => StrsAre ys ([Txt.lower (wordOf (d.low + d.pr.1)), Txt.lower (wordOf (d.low + d.pr.2))].take i)) .nil ?turn ?done
  case hn => rw [hz4]; decide
  case turn =>
    intro E1 Ky Kn C R2 oC mc i v ys h9 tk9 hi hv hyl hRR hoffC nC F3 N3 hy hx hys
    clear F2 N2 hx
    (first | (with_reducible show wpAny _ _ _ _ _ _; generalize hGoal131 : wpAny _ _ _ _ _ _ = Goal131) | (dsimp only; with_reducible show wpAny _ _ _ _ _ _; generalize hGoal131 : wpAny _ _ _ _ _ _ = Goal131) | (generalize hGoal131 : True = Goal131))
    obtain ⟨x, hx9, tx, rfl, fx⟩ : ∃ x, [wordOf (d.low + d.pr.1), wordOf (d.low + d.pr.2)][i]? = some x ∧ ∃ tx, v = .str x tx ∧ x.length < 2 ^ 20 := by
      obtain ⟨x, hx⟩ : ∃ x, [wordOf (d.low + d.pr.1), wordOf (d.low + d.pr.2)][i]? = some x := ⟨_, List.getElem?_eq_getElem (by rw [hz4] at hi; exact hi)⟩
      obtain ⟨tx, e⟩ := strsAre_get hs4 hx
      rw [e] at hv
      cases hv
      refine ⟨x, hx, tx, rfl, ?_⟩
      have := List.mem_of_getElem? hx
      rcases List.mem_cons.mp this with rfl | this
      · exact (word_fit (by lia : d.low + d.pr.1 < 33)).2.1
      · rw [List.mem_singleton.mp this]; exact (word_fit (by lia : d.low + d.pr.2 < 33)).2.1
    subst hGoal131
    refine own_name (o := oC) F3 N3 nC hoffC ?_
    intro oC2 h14 tk14 nC2 F14 N14
    clear F3 N3
    refine ifs_nil ?_
    try dsimp only
    wtm_at "mQ"
    refine hy _ oC2 _ _ _ ?_ nC2 F14 N14
    have e : ([Txt.lower (wordOf (d.low + d.pr.1)), Txt.lower (wordOf (d.low + d.pr.2))].take (i + 1)) = ([Txt.lower (wordOf (d.low + d.pr.1)), Txt.lower (wordOf (d.low + d.pr.2))].take i) ++ [Txt.lower x] := by
      rw [List.take_succ]
      congr 1
      have := congrArg (Option.map Txt.lower) hx9
      rw [← List.getElem?_map] at this
      rw [show [Txt.lower (wordOf (d.low + d.pr.1)), Txt.lower (wordOf (d.low + d.pr.2))] = [wordOf (d.low + d.pr.1), wordOf (d.low + d.pr.2)].map Txt.lower from rfl, this]
      rfl
    rw [e]
    exact strsAre_snoc hys
  case done =>
    intro Dp pv kd h9 tk9 hys hyl hlt F3 N3
    clear F2 N2
    (first | (with_reducible show wpAny _ _ _ _ _ _; generalize hGoal132 : wpAny _ _ _ _ _ _ = Goal132) | (dsimp only; with_reducible show wpAny _ _ _ _ _ _; generalize hGoal132 : wpAny _ _ _ _ _ _ = Goal132) | (generalize hGoal132 : True = Goal132))
    rw [hz4] at hys
    have hys : StrsAre pv [Txt.lower (wordOf (d.low + d.pr.1)), Txt.lower (wordOf (d.low + d.pr.2))] := hys
    have hzp : pv.length = 2 := strsAre_len hys
    have N3 : News h₀ L h9 _ := N3
    have F3 : Fr h₀ L h9 _ := F3
    have N4 := news_pb (by rw [hW1] at N3; exact N3)
    have hpb : ∀ p ∈ (Dp, listOf pv.toArray kd) :: (CK ++ (lexT X ln tl ++ (led ++ ((l, listOf vs.toArray kl) :: Rr)))), p.1 ≠ X.pb := by
      intro p hp
      rcases List.mem_cons.mp hp with rfl | hp
      · exact Nat.ne_of_gt (hlt (X.pb, listOf [].toArray kp) (by rw [hW1]; exact List.mem_append_right _ (.tail _ (.tail _ (.head _)))))
      · exact pb_off HC hR2 DI hled B.off p hp
    have mlx : (X.lx, instObj 228 X.dlx) ∈ (Dp, listOf pv.toArray kd) :: (CK ++ (lexT X ln tl ++ (led ++ ((l, listOf vs.toArray kl) :: Rr)))) := .tail _ (List.mem_append_right _ (.head _))
    have mdl : (X.dlx, X.outer ln tl) ∈ (Dp, listOf pv.toArray kd) :: (CK ++ (lexT X ln tl ++ (led ++ ((l, listOf vs.toArray kl) :: Rr)))) := .tail _ (List.mem_append_right _ (.tail _ (.head _)))
    have mL2 : (_, oL) ∈ (Dp, listOf pv.toArray kd) :: (CK ++ (lexT X ln tl ++ (led ++ ((l, listOf vs.toArray kl) :: Rr)))) := .tail _ (List.mem_append_left _ mL)
    have mDp : (Dp, listOf pv.toArray kd) ∈ (Dp, listOf pv.toArray kd) :: (CK ++ (lexT X ln tl ++ (led ++ ((l, listOf vs.toArray kl) :: Rr)))) := .head _
    have HS2 : ∀ p ∈ CK, p ∈ (Dp, listOf pv.toArray kd) :: (CK ++ (lexT X ln tl ++ (led ++ ((l, listOf vs.toArray kl) :: Rr)))) := fun p hp => .tail _ (List.mem_append_left _ hp)
    obtain ⟨W2, hW2⟩ : ∃ W2 : Led, W2 = (Dp, listOf pv.toArray kd) :: (CK ++ (lexT X ln tl ++ (led ++ ((l, listOf vs.toArray kl) :: Rr)))) := ⟨_, rfl⟩
    rw [← hW2] at N4 hpb mlx mdl mL2 mDp HS2
    subst hGoal132
    wtm_at "mQX"
    refine comp_open (cl := _) (by rfl) ?_
    wtm_at "mQX"
    rename News _ _ _ _ => N5
    rename Fr _ _ _ _ => F5
    try dsimp only
    refine comp_G (src_list N5 (.tail _ mDp) rfl rfl) F5 N5 ?hn2 (fun i ys nn => ∃ kp', nn = (X.pb, listOf (pv.take i).toArray kp') :: W2 ∧ ys = List.replicate i .none) ⟨kp, rfl, rfl⟩ ?turn2 ?done2
    case hn2 => rw [hzp]; decide
    case turn2 =>
      intro E1 Ky Kn I C D3 it oC mc i v ys yk nn h7 tk7 hi hv hyl hID hDC hlt2 hsub hoff nC F6 N6 hy hx hJ
      clear F5 N5 hx
      (first | (with_reducible show wpAny _ _ _ _ _ _; generalize hGoal133 : wpAny _ _ _ _ _ _ = Goal133) | (dsimp only; with_reducible show wpAny _ _ _ _ _ _; generalize hGoal133 : wpAny _ _ _ _ _ _ = Goal133) | (generalize hGoal133 : True = Goal133))
      obtain ⟨kp', rfl, rfl⟩ := hJ
      have hoffC : ∀ p ∈ (D3, listOf (List.replicate i Value.none).toArray yk) :: (I, it) :: (X.pb, listOf (pv.take i).toArray kp') :: W2, p.1 ≠ C := fun p hp => by
        rcases List.mem_cons.mp hp with rfl | hp
        · exact Nat.ne_of_lt hDC
        · rcases List.mem_cons.mp hp with rfl | hp
          · exact Nat.ne_of_lt (Nat.lt_trans hID hDC)
          · exact (hoff p hp).2.1
      have mdl2 := mdl
      dsimp only [LexP.outer, lexE, List.cons_append, List.nil_append] at mdl2
      have hpv : (pv.take i).length < 1000 := by have h9 := List.length_take_le' i pv; rw [hzp] at h9; exact Nat.lt_of_le_of_lt h9 (by decide)
      have hq := hoff _ (.head _)
      have hpb2 : ∀ o : Obj, ∀ p ∈ (C, o) :: (D3, listOf (List.replicate i Value.none).toArray yk) :: (I, it) :: W2, p.1 ≠ X.pb := fun o p hp => by
        rcases List.mem_cons.mp hp with rfl | hp
        · exact Ne.symm hq.2.1
        · rcases List.mem_cons.mp hp with rfl | hp
          · exact Ne.symm hq.2.2
          · rcases List.mem_cons.mp hp with rfl | hp
            · exact Ne.symm hq.1
            · exact hpb p hp
      subst hGoal133
      refine own_name (o := oC) F6 N6 nC hoffC ?_
      intro oC2 h14 tk14 nC2 F14 N14
      clear F6 N6
      refine ifs_nil ?_
      have N14 := news_more (news_more N14 (mem_deep 4 mdl2)) (mem_deep 5 mlx)
      try dsimp only
      wtm_at "mQ"
      (k_here; k_dflt (refine' Mine.c_ptok (v := v) (pb := X.pb) (ps := pv.take i) (k := kp') (R := (C, oC2) :: (D3, listOf (List.replicate i Value.none).toArray yk) :: (I, it) :: W2) (mem_deep 3 mlx) (mem_deep 3 mdl) hpv (hpb2 oC2) _ _ _ _ _ _ _ _ _ _ _ _ _ _ _ _ _ ?k1z137 ?k2z137 ?k3z137 ?k4z137 ?k5z137 ?kKz137 ?kdz137 ?kuz137 ?kRz137; (case k1z137 => k_asm); (case k2z137 => k_asm); (case k3z137 => k_asm); (case k4z137 => exact news_pk N14); (case k5z137 => k_asm); (case kKz137 => first | exact rfl | assumption); (case kdz137 => wtm_at "mRM"); (case kuz137 => wtm_at "mRU")))
      intro v9 n9 h9 tk9 hp9 F9 N9
      (first | (with_reducible show wpAny _ _ _ _ _ _; generalize hGoal134 : wpAny _ _ _ _ _ _ = Goal134) | (dsimp only; with_reducible show wpAny _ _ _ _ _ _; generalize hGoal134 : wpAny _ _ _ _ _ _ = Goal134) | (generalize hGoal134 : True = Goal134))
      obtain ⟨rfl, rfl⟩ := hp9
      have e : pv.take (i + 1) = pv.take i ++ [v] := by rw [List.take_succ, hv]; rfl
      rw [← e] at N9
      subst hGoal134
      try dsimp only
      try k_fold
      wtm_at "mQ"
      refine hy _ oC2 _ ((X.pb, listOf (pv.take (i + 1)).toArray (kp' + 1)) :: W2) _ _ ⟨kp' + 1, rfl, by rw [List.replicate_succ']⟩ ?sub2 nC2 F9 (news_pk2 N9) ?off2
      case sub2 => exact fun p hp => by rw [List.mem_singleton.mp hp]; exact .tail _ mDp
      case off2 =>
        intro p hp
        rcases List.mem_cons.mp hp with rfl | hp
        · exact hq
        · exact hoff p (.tail _ hp)
    case done2 =>
      intro D3 ys yk nn h7 tk7 hJ hyl2 hsub hoffD hltD F6 N6
      clear F5 N5
      (first | (with_reducible show wpAny _ _ _ _ _ _; generalize hGoal135 : wpAny _ _ _ _ _ _ = Goal135) | (dsimp only; with_reducible show wpAny _ _ _ _ _ _; generalize hGoal135 : wpAny _ _ _ _ _ _ = Goal135) | (generalize hGoal135 : True = Goal135))
      obtain ⟨kp', rfl, rfl⟩ := hJ
      rw [hzp] at N6
      rw [List.take_of_length_le (by rw [hzp]; exact Nat.le_refl 2)] at N6
      have N6 : News h₀ L h7 ((D3, listOf #[.none, .none] yk) :: (X.pb, listOf pv.toArray kp') :: W2) := N6
      subst hGoal135
      try dsimp only
      wtm_at "mQX"
      rename News _ _ _ _ => N7
      refine ne_nones N7 (.tail _ (.head _)) (.head _) ?ou ?_
      case ou => wtm_at "mRU"
      have N7 := news_drop (news_drop N7)
      try dsimp only
      wtm_at "mQX"
      rename Fr _ _ _ _ => F7
      (first | (with_reducible show wpAny _ _ _ _ _ _; generalize hGoal136 : wpAny _ _ _ _ _ _ = Goal136) | (dsimp only; with_reducible show wpAny _ _ _ _ _ _; generalize hGoal136 : wpAny _ _ _ _ _ _ = Goal136) | (generalize hGoal136 : True = Goal136))
      rw [hW2] at N7
      have N8 := news_pk3 N7
      have hlt3 : ∀ p ∈ [((Dp, listOf pv.toArray kd) : Addr × Obj)], @LT.lt Nat _ l p.1 ∧ ∀ q ∈ CK ++ (lexL X ln tl [] kp ++ (led ++ Rr)), @LT.lt Nat _ q.1 p.1 := fun p hp => by
        rw [List.mem_singleton.mp hp]
        refine ⟨hlt (l, listOf vs.toArray kl) (by rw [hW1]; exact sub_rr _ (.head _)), fun q hq => hlt q ?_⟩
        rw [hW1]
        rcases List.mem_append.mp hq with hq | hq
        · exact List.mem_append_left _ hq
        · rcases List.mem_append.mp hq with hq | hq
          · exact List.mem_append_right _ (List.mem_append_left _ hq)
          · rcases List.mem_append.mp hq with hq | hq
            · exact List.mem_append_right _ (List.mem_append_right _ (List.mem_append_left _ hq))
            · exact sub_rr q (.tail _ hq)
      obtain ⟨x1, x2, x3⟩ := grow (o2 := listOf vs.toArray kl) HC hled B.off B.ne hR2 hlt3
      have x3 := lex_adr0 (P := fun x => x ∉ (lawCl L).map (·.2)) x3 rfl (ln' := ln) (tl' := tl) (ps' := pv) (k' := kp')
      subst hGoal136
      exact kont _ _ Dp pv kd kp' ⟨F7, ⟨CK, N8, HC⟩, x3⟩ (fun p hp a ha => x1 p (.tail _ hp) a ha) (x2 _ (.head _)) (fun p hp => Nat.ne_of_lt ((hlt3 _ (.head _)).2 p (sub_rr p hp))) (by rw [push_pair hp]; exact hys)
end
end Mine
end
section
open PySem PySem.W PyProof.Rows PySem.Calls PySem.Spec
set_option Elab.async false
set_option maxRecDepth 100000
set_option maxHeartbeats 0
namespace Mine
noncomputable def roundSt (p1 p2 p3 p4 p5 p6 p7 p8 p9 p10 p11 p12 p13 : Pos) : List Stmt :=
  [.Assign [.Tuple [.Name (Str.ofString "fine") p1, .Name (Str.ofString "more") p2] 0 p3] (.Call (.Name (Str.ofString "_law_round") p4) [.Name (Str.ofString "book") p5, .Name (Str.ofString "words") p6, .Name (Str.ofString "facts") p7, .Name (Str.ofString "line") p8] [] p9) p10,
   .AugAssign (.Name (Str.ofString "pending") p11) .Add (.Name (Str.ofString "more") p12) p13]
section
variable {M : Model} {A : Around} {E : Value → Shared → Prop} {s : Shared}
theorem iadd_seq {a b : Value} {T id : String} {Q : Value → Shared → Prop} (ha : s.TypeIs a T) (hb : s.TypeIs b T) (hi : typeLookup (.type T) (dunderI "add") = pure (some (.builtin id))) (hs : isSeqSlot (some (.builtin id)) = true)
    (hfill : fillsNumberSlot (.type T) "add" = pure false) (hc : wpAny M A (call (.builtin id) [a, b]) Q E s) : wpAny M A (inplaceOp .Add a b) Q E s := by
  unfold inplaceOp
  refine wpAny_holding ?_
  have hfi : fillsInplaceSlot (.type T) "add" (Operator.Add == .Add) = pure false := by
    unfold fillsInplaceSlot
    show (typeLookup (.type T) (dunderI "add") >>= fun fi => pure (fi.isSome && !isSeqSlot fi)) = pure false
    rw [hi, pure_bind, hs]; rfl
  refine wpAny_bind (wpAny_typeOf ha (wpAny_bind (wpAny_of_eq hfi ?_)))
  show wpAny M A (if false = true then _ else _) Q E s
  rw [if_neg Bool.false_ne_true]
  refine wpAny_bind (binaryOp1_none (nm := "add") ha hb hfill ?_)
  refine wpAny_bind (wpAny_of_eq (PySem.seqSlot_of hi hs) ?_)
  exact wpAny_bind (wpAny_rule hc)
theorem iadd_L {prog : Program} {w : World} {h₀ : Heap} {L D b : Addr} {m : Str → Option Value} {news : Led} {vs ys : List Value} {n k : Nat} {Q : Value → Shared → Prop} (F : Fr h₀ L s.heap m) (N : News h₀ L s.heap ((D, listOf vs.toArray n) :: news)) (hoff : ∀ p ∈ news, p.1 ≠ D) (hb : (b, listOf ys.toArray k) ∈ news) (hsz : vs.length + ys.length < 4000)
    (h : ∀ h' k', Fr h₀ L h' m → News h₀ L h' ((D, listOf (vs ++ ys).toArray k') :: news) → Q (.ref D) { s with heap := h' }) : wpAny (model prog w) A (inplaceOp .Add (.ref D) (.ref b)) Q E s := by
  have z := N (D, listOf vs.toArray n) (.head _)
  have zb := N _ (.tail _ hb)
  have hd : ¬(!vs.toArray.isEmpty && Builtin.List.listTooLong (vs.toArray.size + ys.toArray.size)) = true := by
    simp [Builtin.List.listTooLong, sizeLine]; lia
  have z1 : vs.toArray.size ≤ sizeLine := by rw [List.size_toArray]; exact Nat.le_trans (Nat.le_of_lt (Nat.lt_of_le_of_lt (Nat.le_add_right ..) hsz)) (by decide)
  have z2 : vs.toArray.size + ys.toArray.size ≤ sizeLine + 1 := by rw [List.size_toArray, List.size_toArray]; exact Nat.le_trans (Nat.le_of_lt hsz) (by decide)
  refine iadd_seq ⟨_, z.1, rfl⟩ ⟨_, zb.1, rfl⟩ PySem.F.slot_list_iadd.lookup (by decide +kernel) noFill_list_add ?_
  refine call_meets PySem.F.slot_list_iadd ⟨_, z.1, rfl⟩ PySem.F.entry_list_iadd (PySem.F.args_list_iadd_2 _ _) (PySem.AutoSeq1.list___iadd___list_list_0 D vs.toArray n b ys.toArray k hd z1 z2) ⟨z.1, zb.1, ?_⟩
  by_cases e : ys = []
  · subst e
    exact h _ n (F.change (Heap.SameBut.update ..) z.2.1 z.2.2) (kl_turn0 (pre := []) _ N (fun _ hp => nomatch hp) hoff (by simp) (by simp))
  · exact h _ (n + 1) (F.change (Heap.SameBut.update ..) z.2.1 z.2.2) (kl_turn (pre := []) _ N (fun _ hp => nomatch hp) hoff (by simp) (by simp [e]))
end
section
variable {w : World} {p : Program} {loose : List Str} {mean : ExcName → Option Value} {mg mb : Str → Option Value} {dp un : Nat} {gd : Option (List Code)} {cn : Str} {a : Addr} {ccd : Value} {A₀ : Around} {base h₀ : Heap} {L : Addr} {m cm : Str → Option Value} {s : Shared} {R : Led}
theorem news_dp {h : Heap} {u q l x : Addr × Obj} {CK A B R : Led} (N : News h₀ L h (u :: q :: (CK ++ (A ++ (B ++ (l :: x :: R)))))) : News h₀ L h (x :: q :: u :: (CK ++ (A ++ (B ++ (l :: R))))) := news_sub N fun p hp => by
  exact Mine.sub_at hp (by wtm_at "per")
theorem news_dp2 {h : Heap} {u q l x : Addr × Obj} {CK A B R : Led} (N : News h₀ L h (x :: q :: u :: (CK ++ (A ++ (B ++ (l :: R)))))) : News h₀ L h (q :: (CK ++ (A ++ (B ++ (l :: x :: R))))) := news_sub N fun p hp => by
  exact Mine.sub_at hp (by wtm_at "per")
theorem dp_off {X : LexP} {as : List Addr} {led Rr CK : Led} {l x : Addr} {ol o : Obj} {ln : Int} {tl : Tok} {ps : List Value} {k : Nat} (HC : CellsAre cm (lawCl L) CK) (hc : ∀ p ∈ lexL X ln tl ps k ++ (led ++ ((l, ol) :: (x, o) :: Rr)), p.1 ∉ (lawCl L).map (·.2)) (hl : led.map (·.1) = as) (O : Off (X.adr ++ as) ((l, ol) :: (x, o) :: Rr)) (h1 : @Ne Nat x l) (h : ∀ p ∈ Rr, p.1 ≠ x) :
    ∀ p ∈ CK ++ (lexT X ln tl ++ (led ++ ((l, ol) :: Rr))), p.1 ≠ x := fun p hp e => by
  rcases List.mem_append.mp hp with hp | hp
  · refine hc (x, o) (List.mem_append_right _ (List.mem_append_right _ (.tail _ (.head _)))) ?_
    rw [← cells_adr HC]
    exact List.mem_map.mpr ⟨p, hp, e⟩
  · have ox := O (x, o) (.tail _ (.head _))
    rcases List.mem_append.mp hp with hp | hp
    · simp only [lexT, List.mem_cons, List.not_mem_nil, or_false] at hp
      rcases hp with rfl | rfl | rfl | rfl
      · exact ox X.lx (.head _) e.symm
      · exact ox X.dlx (.tail _ (.head _)) e.symm
      · exact ox X.st (.tail _ (.tail _ (.tail _ (.head _)))) e.symm
      · exact ox X.dst (.tail _ (.tail _ (.tail _ (.tail _ (.head _))))) e.symm
    · rcases List.mem_append.mp hp with hp | hp
      · exact ox p.1 (List.mem_append_right _ (hl ▸ List.mem_map.mpr ⟨p, hp, rfl⟩)) e.symm
      · rcases List.mem_cons.mp hp with rfl | hp
        · exact h1 e.symm
        · exact h p hp e
theorem law_9 {X : LexP} {as : List Addr} {led Rr : Led} {ln : Int} {tl : Tok} {b l Dp wl fl : Addr} {vs ps pv wvs fvs : List Value} {kp kl kd wk kf : Nat} {kvs : List (Str × Str)} {W : List Str} {Nn : Nat → Nat} {M : List Nat} {fs : List Fact} {Q : Flow → Shared → Prop} {E : Value → Shared → Prop} {p1 p2 p3 p4 p5 p6 p7 p8 p9 p10 p11 p12 p13 : Pos}
    (hB : Below A₀ base [] h₀) (hX : Frag.In (Mine.pb.heap_1 w.params) h₀) (hT : Top p loose mean mg mb h₀) (hd : dp + 40 < recursionLimit) (hu : un + 400 < cLine)
    (S : St2 h₀ L s.heap m cm (lexL X ln tl ps kp ++ (led ++ ((l, listOf vs.toArray kl) :: (Dp, listOf pv.toArray kd) :: Rr)))) (hled : led.map (·.1) = as) (DI : Dist (X.adr ++ as)) (O : Off (X.adr ++ as) ((l, listOf vs.toArray kl) :: (Dp, listOf pv.toArray kd) :: Rr))
    (oDl : @Ne Nat Dp l) (oD : ∀ p ∈ Rr, p.1 ≠ Dp) (IB : IsBook Rr b l) (P : PairsIn Rr vs kvs)
    (mw : (wl, listOf wvs.toArray wk) ∈ Rr) (hw : StrsAre wvs W) (mf : (fl, listOf fvs.toArray kf) ∈ Rr) (FI : FactsIn Rr fvs fs) (h4 : fs.length = 4) (hsm : Small fs) (HT : Tells5 kvs W Nn) (RO : RoundOk W Nn M) (hps : ps.length < 900) (hpv : pv.length < 900)
    (hcw : cm (Str.ofString "words") = some (.ref wl)) (hcb : cm (Str.ofString "book") = some (.ref b)) (hcl : cm (Str.ofString "line") = some (.ref X.lx)) (hmf : m (Str.ofString "facts") = some (.ref fl)) (hmp : m (Str.ofString "pending") = some (.ref Dp))
    (kont : ∀ (m' : Str → Option Value) (h' : Heap) (tk' : Tok) (puv : List Value) (kp' kd' : Nat), St2 h₀ L h' m' cm (lexL X ln tl (ps ++ puv) kp' ++ (led ++ ((l, listOf vs.toArray kl) :: (Dp, listOf (pv ++ puv).toArray kd') :: Rr))) → StrsAre puv (pushAt W M fs 4) → m' (Str.ofString "fine") = some (.bool true) → m' (Str.ofString "pending") = some (.ref Dp) →
      (∀ y, y ≠ Str.ofString "fine" → y ≠ Str.ofString "more" → y ≠ Str.ofString "pending" → m' y = m y) → Q .next { s with heap := h', toks := tk' }) :
    wpAny (model PySem.Challenge.rw_ti0052_01.prog w) (lawA dp un gd cn L a ccd) (execs (roundSt p1 p2 p3 p4 p5 p6 p7 p8 p9 p10 p11 p12 p13) (lawEnv cn L a ccd)) Q E s := by
  revert hX; k_fill; intro hX
  obtain ⟨F, ⟨CK, N, HC⟩, hR2⟩ := S
  obtain ⟨oL, mL, dL⟩ := cells_at HC (y := Str.ofString "line") rfl
  obtain ⟨oW, mW, dW⟩ := cells_at HC (y := Str.ofString "words") rfl
  obtain ⟨oB, mB, dB⟩ := cells_at HC (y := Str.ofString "book") rfl
  rw [hcl] at dL
  rw [hcw] at dW
  rw [hcb] at dB
  have hpb := pb_off HC hR2 DI hled O
  have N1 := news_pb0 N
  have kk : ∀ (m' : Str → Option Value) (h' : Heap) (tk' : Tok) (puv : List Value) (kp' kd' : Nat), Fr h₀ L h' m' → News h₀ L h' ((X.pb, listOf (ps ++ puv).toArray kp') :: (CK ++ (lexT X ln tl ++ (led ++ ((l, listOf vs.toArray kl) :: (Dp, listOf (pv ++ puv).toArray kd') :: Rr))))) → StrsAre puv (pushAt W M fs 4) → m' (Str.ofString "fine") = some (.bool true) → m' (Str.ofString "pending") = some (.ref Dp) →
      (∀ y, y ≠ Str.ofString "fine" → y ≠ Str.ofString "more" → y ≠ Str.ofString "pending" → m' y = m y) → Q .next { s with heap := h', toks := tk' } := fun m' h' tk' puv kp' kd' F' N' => kont m' h' tk' puv kp' kd' ⟨F', ⟨CK, news_pbI (A := []) N', HC⟩, dp_cells (lex_adr0 (P := fun x => x ∉ (lawCl L).map (·.2)) hR2 rfl)⟩
  clear kont N
  have mlx : (X.lx, instObj 228 X.dlx) ∈ CK ++ (lexT X ln tl ++ (led ++ ((l, listOf vs.toArray kl) :: (Dp, listOf pv.toArray kd) :: Rr))) := List.mem_append_right _ (.head _)
  have mdl : (X.dlx, X.outer ln tl) ∈ CK ++ (lexT X ln tl ++ (led ++ ((l, listOf vs.toArray kl) :: (Dp, listOf pv.toArray kd) :: Rr))) := List.mem_append_right _ (.tail _ (.head _))
  have HS : ∀ p ∈ CK, p ∈ CK ++ (lexT X ln tl ++ (led ++ ((l, listOf vs.toArray kl) :: (Dp, listOf pv.toArray kd) :: Rr))) := fun p hp => List.mem_append_left _ hp
  have sub : ∀ p ∈ (l, listOf vs.toArray kl) :: (Dp, listOf pv.toArray kd) :: Rr, p ∈ CK ++ (lexT X ln tl ++ (led ++ ((l, listOf vs.toArray kl) :: (Dp, listOf pv.toArray kd) :: Rr))) := sub_rr
  obtain ⟨W1, hW1⟩ : ∃ W1 : Led, W1 = CK ++ (lexT X ln tl ++ (led ++ ((l, listOf vs.toArray kl) :: (Dp, listOf pv.toArray kd) :: Rr))) := ⟨_, rfl⟩
  rw [← hW1] at N1 hpb mlx mdl HS sub
  have mL1 := HS _ mL
  have mW1 := HS _ mW
  have mB1 := HS _ mB
  show wpAny _ _ (execs [_, _] _) _ _ _
  (show (let V := _; let A9 := _; wpAny _ A9 (execs _ V) _ _ _)); intro V A9
  wtm_at "mQ"
  (k_here; k_dflt (refine' Mine.c_round (M := M) (kvs := kvs) (l := l) (vs := vs) (k := kl) (ws := wvs) (kw := wk) (fvs := fvs) (kf := kf) (fs := fs) (W := W) (Nn := Nn) (X := X) (ln := ln) (tl := tl) (ps := ps) (kp := kp) (R0 := W1) (IB.mono fun p hp => sub p (.tail _ (.tail _ hp))) (sub _ (.head _)) (P.mono fun p hp => sub p (.tail _ (.tail _ hp))) (sub _ (.tail _ (.tail _ mw))) (sub _ (.tail _ (.tail _ mf))) (FI.mono fun p hp => sub p (.tail _ (.tail _ hp))) h4 hsm hw HT RO mlx mdl hpb hps _ _ _ _ _ _ _ _ _ _ _ _ _ _ _ _ _ ?k1z140 ?k2z140 ?k3z140 ?k4z140 ?k5z140 ?kKz140 ?kdz140 ?kuz140 ?kRz140; (case k1z140 => k_asm); (case k2z140 => k_asm); (case k3z140 => k_asm); (case k4z140 => k_asm); (case k5z140 => k_asm); (case kKz140 => first | exact rfl | assumption); (case kdz140 => wtm_at "mRM"); (case kuz140 => wtm_at "mRU")))
  intro v9 n9 h9 tk9 hp9 F9 N9
  clear N1
  (first | (with_reducible show wpAny _ _ _ _ _ _; generalize hGoal138 : wpAny _ _ _ _ _ _ = Goal138) | (dsimp only; with_reducible show wpAny _ _ _ _ _ _; generalize hGoal138 : wpAny _ _ _ _ _ _ = Goal138) | (generalize hGoal138 : True = Goal138))
  obtain ⟨T, pu, puv, puk, kp', n9, rfl, hpu, lt1, lt2, rfl⟩ := hp9
  subst hGoal138
  try dsimp only
  try k_fold
  wtm_at "mQ"
  refine assign_tup F9 N9 ⟨_, (N9 _ (.head _)).1, rfl, _, rfl⟩ rfl rfl (fun h6 F6 N6 => ?_)
  clear F9 N9
  have N6 := news_drop N6
  wtm_at "mQ"
  rename News _ _ _ _ => N7
  rename Fr _ _ _ _ => F7
  (first | (with_reducible show wpAny _ _ _ _ _ _; generalize hGoal139 : wpAny _ _ _ _ _ _ = Goal139) | (dsimp only; with_reducible show wpAny _ _ _ _ _ _; generalize hGoal139 : wpAny _ _ _ _ _ _ = Goal139) | (generalize hGoal139 : True = Goal139))
  have N8 := news_dp (by rw [hW1] at N7; exact N7)
  have hdp : ∀ p ∈ (X.pb, listOf (ps ++ puv).toArray kp') :: (pu, listOf puv.toArray puk) :: (CK ++ (lexT X ln tl ++ (led ++ ((l, listOf vs.toArray kl) :: Rr)))), p.1 ≠ Dp := by
    have hdl := dp_off HC hR2 hled O oDl oD
    intro p hp
    rcases List.mem_cons.mp hp with rfl | hp
    · exact Ne.symm (O (Dp, listOf pv.toArray kd) (.tail _ (.head _)) X.pb (.tail _ (.tail _ (.head _))))
    · rcases List.mem_cons.mp hp with rfl | hp
      · exact Nat.ne_of_gt (lt1 (Dp, listOf pv.toArray kd) (.tail _ (sub _ (.tail _ (.head _)))))
      · exact hdl p hp
  have hpl : pv.length + puv.length < 4000 := by
    have := pushAt_len W M fs 4
    rw [strsAre_len hpu]
    lia
  subst hGoal139
  refine iadd_L F7 N8 hdp (.tail _ (.head _)) hpl ?_
  intro h12 kd' F12 N12
  clear N8 N7 F7
  try dsimp only
  wtm_at "mQ"
  rename News _ _ _ _ => N13
  rename Fr _ _ _ _ => F13
  exact kk _ _ _ puv kp' kd' F13 (news_dp2 N13) hpu rfl rfl fun y h1 h2 h3 => (if_neg h3).trans ((if_neg h2).trans (if_neg h1))
end
end Mine
end
section
open PySem PySem.W PyProof.Rows PySem.Calls PySem.Spec
set_option Elab.async false
set_option maxRecDepth 100000
set_option maxHeartbeats 0
namespace Mine
section
variable {w : World} {p : Program} {loose : List Str} {mean : ExcName → Option Value} {mg mb : Str → Option Value} {dp un : Nat} {gd : Option (List Code)} {cn : Str} {a : Addr} {ccd : Value} {A₀ : Around} {base h₀ : Heap} {L : Addr} {m cm : Str → Option Value} {s : Shared} {R : Led}
theorem ints5 {t0 t1 t2 t3 t4 : Tok} : IntsN [.int 0 t0, .int 1 t1, .int 2 t2, .int 3 t3, .int 4 t4] [0, 1, 2, 3, 4] := ⟨rfl, fun i n e => by
  match i, e with
  | 0, e => cases e; exact ⟨_, rfl⟩
  | 1, e => cases e; exact ⟨_, rfl⟩
  | 2, e => cases e; exact ⟨_, rfl⟩
  | 3, e => cases e; exact ⟨_, rfl⟩
  | 4, e => cases e; exact ⟨_, rfl⟩⟩
theorem ints5_gen {h : Heap} {x : Addr} {q : Addr × Obj} {t0 t1 t2 t3 t4 : Tok} {k : Nat} {W : Led} (N : News h₀ L h (q :: (x, listOf #[.int 0 t0, .int 1 t1, .int 2 t2, .int 3 t3, .int 4 t4] k) :: W)) : ∃ sv, sv = [.int 0 t0, .int 1 t1, .int 2 t2, .int 3 t3, .int 4 t4] ∧ IntsN sv [0, 1, 2, 3, 4] ∧ News h₀ L h (q :: (x, listOf sv.toArray k) :: W) := ⟨_, rfl, ints5, N⟩
theorem add2_lt {X : LexP} {led Rr CK : Led} {l x z : Addr} {ol o1 o2 o3 : Obj} {ln : Int} {tl : Tok} {ps : List Value} {k : Nat} (h1 : ∀ p ∈ CK ++ (lexL X ln tl ps k ++ (led ++ ((l, ol) :: Rr))), @LT.lt Nat _ p.1 x) (h2 : ∀ p ∈ (x, o3) :: (CK ++ (lexL X ln tl ps k ++ (led ++ ((l, ol) :: Rr)))), @LT.lt Nat _ p.1 z) :
    ∀ p ∈ ([(z, o1), (x, o2)] : Led), @LT.lt Nat _ l p.1 ∧ ∀ q ∈ CK ++ (lexL X ln tl ps k ++ (led ++ Rr)), @LT.lt Nat _ q.1 p.1 := fun p hp => by
  have key : ∀ y, (∀ p ∈ CK ++ (lexL X ln tl ps k ++ (led ++ ((l, ol) :: Rr))), @LT.lt Nat _ p.1 y) → @LT.lt Nat _ l y ∧ ∀ q ∈ CK ++ (lexL X ln tl ps k ++ (led ++ Rr)), @LT.lt Nat _ q.1 y := fun y hy => ⟨hy (l, ol) (sub_rr _ (.head _)), fun q hq => hy q (by
    exact Mine.sub_at hq (by wtm_at "per"))⟩
  rcases List.mem_cons.mp hp with rfl | hp
  · exact key z fun p hp => h2 p (.tail _ hp)
  · rw [List.mem_singleton.mp hp]; exact key x h1
theorem news_l10 {h : Heap} {q x l : Addr × Obj} {CK A B R : Led} (N : News h₀ L h (q :: x :: (CK ++ (A ++ (B ++ (l :: R)))))) : News h₀ L h (CK ++ (A ++ (B ++ (l :: ([q, x] ++ R))))) := news_sub N fun p hp => by
  exact Mine.sub_at hp (by wtm_at "per")
theorem law_10 {low : Nat} {X : LexP} {as : List Addr} {led Rr Rk : Led} {ln : Int} {tl : Tok} {b l wl : Addr} {vs ps wvs : List Value} {kp kl wk : Nat} {kvs : List (Str × Str)} {Q : Flow → Shared → Prop} {E : Value → Shared → Prop}
    (hB : Below A₀ base [] h₀) (hX : Frag.In (Mine.pb.heap_1 w.params) h₀) (hT : Top p loose mean mg mb h₀) (hd : dp + 40 < recursionLimit) (hu : un + 400 < cLine)
    (S : St2 h₀ L s.heap m cm (lexL X ln tl ps kp ++ (led ++ ((l, listOf vs.toArray kl) :: Rr)))) (hled : led.map (·.1) = as) (B : Bk X as b l vs kl Rr Rk kvs)
    (mw : (wl, listOf wvs.toArray wk) ∈ Rr) (hw : StrsAre wvs (wordsL low)) (hcw : cm (Str.ofString "words") = some (.ref wl))
    (kont : ∀ (m' : Str → Option Value) (h' : Heap) (tk' tm : Tok) (Ds Dz : Addr) (sv zv : List Value) (ks kz : Nat) (Rr' : Led), St2 h₀ L h' m' (upS cm (Str.ofString "sized") (.ref Dz)) (lexL X ln tl ps kp ++ (led ++ ((l, listOf vs.toArray kl) :: Rr'))) → Bk X as b l vs kl Rr' Rr kvs → (Ds, listOf sv.toArray ks) ∈ Rr' → IntsN sv [0, 1, 2, 3, 4] → (Dz, listOf zv.toArray kz) ∈ Rr' → StrsAre zv (wordsL low) →
      m' (Str.ofString "stands") = some (.ref Ds) → m' (Str.ofString "merges") = some (.int 0 tm) → (∀ y, y ≠ Str.ofString "stands" → y ≠ Str.ofString "merges" → m' y = m y) → Q .next { s with heap := h', toks := tk' }) :
    wpAny (model PySem.Challenge.rw_ti0052_01.prog w) (lawA dp un gd cn L a ccd) (execs (seg 19 1) (lawEnv cn L a ccd)) Q E s := by
  revert hX; k_fill; intro hX
  obtain ⟨F, ⟨CK, N, HC⟩, hR2⟩ := S
  obtain ⟨oW, mW, dW⟩ := cells_at HC (y := Str.ofString "words") rfl
  rw [hcw] at dW
  obtain ⟨W1, hW1⟩ : ∃ W1 : Led, W1 = lexL X ln tl ps kp ++ (led ++ ((l, listOf vs.toArray kl) :: Rr)) := ⟨_, rfl⟩
  rw [← hW1] at N hR2
  have mw1 : (wl, listOf wvs.toArray wk) ∈ W1 := by rw [hW1]; exact List.mem_append_right _ (List.mem_append_right _ (.tail _ mw))
  show wpAny _ _ (execs [_] _) _ _ _
  (show (let V := _; let A9 := _; wpAny _ A9 (execs _ V) _ _ _)); intro V A9
  wtm_at "mQ"
  refine comp_open (cl := _) (by rfl) ?_
  wtm_at "mQ"
  rename News _ _ _ _ => N2
  rename Fr _ _ _ _ => F2
  try dsimp only
  refine comp_K0 (src_list N2 (.tail _ (List.mem_append_right _ mw1)) rfl rfl) F2 N2 ?hn (fun i ys => StrsAre ys ((wordsL low).take i)) .nil ?turn ?done
  case hn => rw [strsAre_len hw, wordsL_len]; decide
  case turn =>
    intro E1 Ky Kn C R2 oC mc i v ys h9 tk9 hi hv hyl hRR hoffC nC F3 N3 hy hx hys
    clear F2 N2 hx
    (first | (with_reducible show wpAny _ _ _ _ _ _; generalize hGoal141 : wpAny _ _ _ _ _ _ = Goal141) | (dsimp only; with_reducible show wpAny _ _ _ _ _ _; generalize hGoal141 : wpAny _ _ _ _ _ _ = Goal141) | (generalize hGoal141 : True = Goal141))
    rw [strsAre_len hw, wordsL_len] at hi
    obtain ⟨tx, e⟩ := strsAre_get hw (wordsL_get (low := low) hi)
    rw [e] at hv
    cases hv
    subst hGoal141
    refine own_name (o := oC) F3 N3 nC hoffC ?_
    intro oC2 h14 tk14 nC2 F14 N14
    clear F3 N3
    refine ifs_nil ?_
    try dsimp only
    wtm_at "mQ"
    refine hy _ oC2 _ _ _ ?_ nC2 F14 N14
    rw [List.take_succ, wordsL_get hi]
    exact strsAre_snoc hys
  case done =>
    intro Dz zv kz h9 tk9 hzs hyl hltZ F3 N3
    clear F2 N2
    (first | (with_reducible show wpAny _ _ _ _ _ _; generalize hGoal142 : wpAny _ _ _ _ _ _ = Goal142) | (dsimp only; with_reducible show wpAny _ _ _ _ _ _; generalize hGoal142 : wpAny _ _ _ _ _ _ = Goal142) | (generalize hGoal142 : True = Goal142))
    have hzs : StrsAre zv (wordsL low) := by
      rw [strsAre_len hw, wordsL_len, List.take_of_length_le (by rw [wordsL_len]; exact Nat.le_refl 5)] at hzs
      exact hzs
    have N3 : News h₀ L h9 _ := N3
    have F3 : Fr h₀ L h9 _ := F3
    subst hGoal142
    try dsimp only
    wtm_at "mQ"
    rename News _ _ _ _ => N4
    rename Fr _ _ _ _ => F4
    rename ∀ p ∈ CK ++ W1, _ => lS
    refine assign_tup F4 N4 ⟨_, (N4 _ (.head _)).1, rfl, _, rfl⟩ rfl rfl (fun h6 F6 N6 => ?_)
    clear F4 N4
    have N6 := news_drop N6
    wtm_at "mQ"
    rename News _ _ _ _ => N7
    rename Fr _ _ _ _ => F7
    rename CellsAre (upS _ _ _) _ _ => HC7
    (first | (with_reducible show wpAny _ _ _ _ _ _; generalize hGoal143 : wpAny _ _ _ _ _ _ = Goal143) | (dsimp only; with_reducible show wpAny _ _ _ _ _ _; generalize hGoal143 : wpAny _ _ _ _ _ _ = Goal143) | (generalize hGoal143 : True = Goal143))
    obtain ⟨sv, hsv, iS, N7⟩ := ints5_gen N7
    subst hW1
    have hadd := add2_lt (o1 := listOf zv.toArray kz) (o2 := listOf sv.toArray 0) lS hltZ
    obtain ⟨x1, x2, x3⟩ := grow (o2 := listOf vs.toArray kl) HC hled B.off B.ne hR2 hadd
    have N8 := news_l10 N7
    subst hGoal143
    exact kont _ _ _ _ _ Dz sv zv _ kz _ ⟨F7, ⟨_, N8, HC7⟩, x3⟩ ⟨x1, x2, B.book.mono fun p hp => .tail _ (.tail _ hp), B.prs.mono fun p hp => .tail _ (.tail _ hp), fun p hp => .tail _ (.tail _ hp)⟩ (.tail _ (.head _)) iS (.head _) hzs rfl rfl fun y h1 h2 => (if_neg h2).trans (if_neg h1)
end
end Mine
end
section
open PySem PySem.W PyProof.Rows PySem.Calls PySem.Spec
set_option Elab.async false
set_option maxRecDepth 100000
set_option maxHeartbeats 0
namespace Mine
noncomputable def loopBody : List Stmt := match seg 20 1 with
  | [.For _ _ b _ _] => b
  | _ => []
noncomputable def inBody : List Stmt := match loopBody.drop 5 with
  | [.If _ b _ _] => b
  | _ => []
noncomputable def bseg (i n : Nat) : List Stmt := (loopBody.drop i).take n
noncomputable def iseg (i n : Nat) : List Stmt := (inBody.drop i).take n
section
variable {w : World} {p : Program} {loose : List Str} {mean : ExcName → Option Value} {mg mb : Str → Option Value} {dp un : Nat} {gd : Option (List Code)} {cn : Str} {a : Addr} {ccd : Value} {A₀ : Around} {base h₀ : Heap} {L : Addr} {m cm : Str → Option Value} {s : Shared} {R : Led}
theorem lex_mem {X : LexP} {ln : Int} {tl : Tok} {ps : List Value} {k : Nat} {a : Addr} (h : a ∈ X.adr) : ∃ o, (a, o) ∈ lexL X ln tl ps k := by
  have : a ∈ (lexL X ln tl ps k).map (·.1) := h
  obtain ⟨p, hp, rfl⟩ := List.mem_map.mp this
  exact ⟨p.2, hp⟩
theorem off_tokP {X : LexP} {as : List Addr} {led R CK : Led} {ln : Int} {tl : Tok} {ps : List Value} {k : Nat} (HC : CellsAre cm (lawCl L) CK) (hc : ∀ p ∈ lexL X ln tl ps k ++ (led ++ R), p.1 ∉ (lawCl L).map (·.2)) (DI : Dist (X.adr ++ as)) (hl : led.map (·.1) = as) (O : Off (X.adr ++ as) R) :
    Off X.adr (CK ++ (led ++ R)) := fun p hp a ha e => by
  rcases List.mem_append.mp hp with hp | hp
  · obtain ⟨o, ho⟩ := lex_mem (ln := ln) (tl := tl) (ps := ps) (k := k) ha
    refine hc _ (List.mem_append_left _ ho) ?_
    rw [← cells_adr HC]
    exact List.mem_map.mpr ⟨p, hp, e⟩
  · rcases List.mem_append.mp hp with hp | hp
    · exact (List.pairwise_append.mp DI).2.2 a ha p.1 (hl ▸ List.mem_map.mpr ⟨p, hp, rfl⟩) e.symm
    · exact O p hp a (List.mem_append_left _ ha) e
theorem news_tp {h : Heap} {CK A B R : Led} (N : News h₀ L h (CK ++ (A ++ (B ++ R)))) : News h₀ L h (A ++ (CK ++ (B ++ R))) := news_sub N fun p hp => by
  exact Mine.sub_at hp (by wtm_at "per")
theorem pick_two {x1 x2 : Value} {r : List Value} : (slicePick (x1 :: x2 :: r).toArray none (some 2) none).toList = [x1, x2] := by
  show (slicePick _ none (some ((2 : Nat) : Int)) none).toList = _
  rw [slicePick_upto']
  rfl
theorem pick_rest {x1 x2 : Value} {r : List Value} : (slicePick (x1 :: x2 :: r).toArray (some 2) none none).toList = r := by
  show (slicePick _ (some ((2 : Nat) : Int)) none none).toList = _
  rw [slicePick_from']
  rfl
theorem news_tp2 {h : Heap} {x y l : Addr × Obj} {CK A B R : Led} (N : News h₀ L h (x :: y :: (A ++ (CK ++ (B ++ (l :: R)))))) : News h₀ L h (CK ++ (A ++ (B ++ (l :: x :: R)))) := news_sub N fun p hp => by
  exact Mine.sub_at hp (by wtm_at "per")
theorem tp_lt {y : Addr × Obj} {l x : Addr} {ol o : Obj} {CK A B R : Led} (h : ∀ p ∈ y :: (A ++ (CK ++ (B ++ ((l, ol) :: R)))), @LT.lt Nat _ p.1 x) : ∀ p ∈ ([(x, o)] : Led), @LT.lt Nat _ l p.1 ∧ ∀ q ∈ CK ++ (A ++ (B ++ R)), @LT.lt Nat _ q.1 p.1 := fun p hp => by
  rw [List.mem_singleton.mp hp]
  refine ⟨h (l, ol) ?_, fun q hq => h q ?_⟩
  · simp only [List.mem_append, List.mem_cons, true_or, or_true]
  · exact Mine.sub_at hq (by wtm_at "per")
theorem law_11a {X : LexP} {as : List Addr} {led Rr : Led} {ln : Int} {tl : Tok} {l Dp : Addr} {vs ps pv : List Value} {x1 x2 : Value} {w1 w2 : Str} {u1 u2 : Tok} {ws : List Str} {kp kl kd : Nat} {Q : Flow → Shared → Prop} {E : Value → Shared → Prop}
    (hB : Below A₀ base [] h₀) (hX : Frag.In (Mine.pb.heap_1 w.params) h₀) (hT : Top p loose mean mg mb h₀) (hd : dp + 40 < recursionLimit) (hu : un + 400 < cLine)
    (S : St2 h₀ L s.heap m cm (lexL X ln tl (.str w1 u1 :: .str w2 u2 :: ps) kp ++ (led ++ ((l, listOf vs.toArray kl) :: Rr)))) (hled : led.map (·.1) = as) (DI : Dist (X.adr ++ as)) (O : Off (X.adr ++ as) ((l, listOf vs.toArray kl) :: Rr)) (hl : ∀ p ∈ Rr, p.1 ≠ l)
    (mD : (Dp, listOf (x1 :: x2 :: pv).toArray kd) ∈ Rr) (hpv : StrsAre (x1 :: x2 :: pv) (w1 :: w2 :: ws)) (hok : ∀ x ∈ w1 :: w2 :: ws, PyData.strOk x = true) (hlen : ps.length < 900 ∧ pv.length < 900)
    (hcl : cm (Str.ofString "line") = some (.ref X.lx)) (hmp : m (Str.ofString "pending") = some (.ref Dp)) (hmf : m (Str.ofString "fine") = some (.bool true))
    (kont : ∀ (m' : Str → Option Value) (h' : Heap) (tk' t1 t2 : Tok) (Dn : Addr) (kp' : Nat), St2 h₀ L h' m' cm (lexL X ln tl ps kp' ++ (led ++ ((l, listOf vs.toArray kl) :: (Dn, listOf pv.toArray 0) :: Rr))) → Off (X.adr ++ as) ((l, listOf vs.toArray kl) :: (Dn, listOf pv.toArray 0) :: Rr) → @Ne Nat Dn l → (∀ p ∈ Rr, p.1 ≠ Dn) →
      m' (Str.ofString "pending") = some (.ref Dn) → m' (Str.ofString "one") = some (.str w1 t1) → m' (Str.ofString "other") = some (.str w2 t2) → (∀ y, y ≠ Str.ofString "pending" → y ≠ Str.ofString "one" → y ≠ Str.ofString "other" → m' y = m y) → Q .next { s with heap := h', toks := tk' }) :
    wpAny (model PySem.Challenge.rw_ti0052_01.prog w) (lawA dp un gd cn L a ccd) (execs (bseg 0 4) (lawEnv cn L a ccd)) Q E s := by
  revert hX; k_fill; intro hX
  obtain ⟨F, ⟨CK, N, HC⟩, hR2⟩ := S
  obtain ⟨oL, mL, dL⟩ := cells_at HC (y := Str.ofString "line") rfl
  rw [hcl] at dL
  have OP := off_tokP HC hR2 DI hled O
  have DX : Dist X.adr := (List.pairwise_append.mp DI).1
  have N1 := news_tp N
  obtain ⟨W1, hW1⟩ : ∃ W1 : Led, W1 = CK ++ (led ++ ((l, listOf vs.toArray kl) :: Rr)) := ⟨_, rfl⟩
  have HS : ∀ p ∈ CK, p ∈ W1 := fun p hp => by rw [hW1]; exact List.mem_append_left _ hp
  have mD1 : (Dp, listOf (x1 :: x2 :: pv).toArray kd) ∈ W1 := by rw [hW1]; exact List.mem_append_right _ (List.mem_append_right _ (.tail _ mD))
  rw [← hW1] at N1 OP
  have mL1 := HS _ mL
  clear N
  dsimp only [lexL, LexP.outer, LexP.inner, lexE, List.cons_append, List.nil_append] at N1
  have ok1 : ∀ x ∈ ([] : List Str), PyData.strOk x = true := fun _ h => nomatch h
  show wpAny _ _ (execs [_, _, _, _] _) _ _ _
  (show (let V := _; let A9 := _; wpAny _ A9 (execs _ V) _ _ _)); intro V A9
  wtm_at "mQX"
  rename News _ _ _ _ => N2
  refine eq_strs N2 (mem_deep 6 mD1) (.head _) hpv .nil hok ok1 ?ou ?_
  case ou => wtm_at "mRU"
  rw [decide_eq_false (by simp)]
  have N2 := news_drop N2
  try dsimp only
  wtm_at "mQX"
  (k_here; k_dflt (refine' Mine.c_tokP (as := []) (R := fun _ _ => True) (X := X) (ln := ln) (tl := tl) (v := .str w1 u1) (ps := .str w2 u2 :: ps) (k := kp) (rest := W1) (by rw [List.length_cons]; lia) DX OP _ _ _ _ _ _ _ _ _ _ _ _ _ _ _ _ _ ?k1z147 ?k2z147 ?k3z147 ?k4z147 ?k5z147 ?kKz147 ?kdz147 ?kuz147 ?kRz147; (case k1z147 => k_asm); (case k2z147 => k_asm); (case k3z147 => k_asm); (case k4z147 => exact N2); (case k5z147 => k_asm); (case kKz147 => first | exact rfl | assumption); (case kdz147 => wtm_at "mRM"); (case kuz147 => wtm_at "mRU")))
  intro v9 n9 h9 tk9 hp9 F9 N9
  clear N2
  (first | (with_reducible show wpAny _ _ _ _ _ _; generalize hGoal144 : wpAny _ _ _ _ _ _ = Goal144) | (dsimp only; with_reducible show wpAny _ _ _ _ _ _; generalize hGoal144 : wpAny _ _ _ _ _ _ = Goal144) | (generalize hGoal144 : True = Goal144))
  obtain ⟨rfl, rfl⟩ := hp9
  dsimp only [lexL, LexP.outer, LexP.inner, lexE, List.cons_append, List.nil_append] at N9
  subst hGoal144
  try dsimp only
  try k_fold
  wtm_at "mQX"
  rename News _ _ _ _ => N2
  (k_here; k_dflt (refine' Mine.c_tokP (as := []) (R := fun _ _ => True) (X := X) (ln := ln) (tl := tl) (v := .str w2 u2) (ps := ps) (k := kp + 1) (rest := W1) (by lia) DX OP _ _ _ _ _ _ _ _ _ _ _ _ _ _ _ _ _ ?k1z148 ?k2z148 ?k3z148 ?k4z148 ?k5z148 ?kKz148 ?kdz148 ?kuz148 ?kRz148; (case k1z148 => k_asm); (case k2z148 => k_asm); (case k3z148 => k_asm); (case k4z148 => exact N2); (case k5z148 => k_asm); (case kKz148 => first | exact rfl | assumption); (case kdz148 => wtm_at "mRM"); (case kuz148 => wtm_at "mRU")))
  intro v9 n9 h9 tk9 hp9 F9 N9
  clear N2
  (first | (with_reducible show wpAny _ _ _ _ _ _; generalize hGoal145 : wpAny _ _ _ _ _ _ = Goal145) | (dsimp only; with_reducible show wpAny _ _ _ _ _ _; generalize hGoal145 : wpAny _ _ _ _ _ _ = Goal145) | (generalize hGoal145 : True = Goal145))
  obtain ⟨rfl, rfl⟩ := hp9
  dsimp only [lexL, LexP.outer, LexP.inner, lexE, List.cons_append, List.nil_append] at N9
  subst hGoal145
  try dsimp only
  try k_fold
  wtm_at "mQX"
  k_here; k_dflt (refine' kmk_slice_lit (zs := [x1, x2]) ?Fsl ?Nsl ?lsl ?psl ?qsl ?esl ?_ ?ssl ?tsl ?zsl)
  case Fsl => k_asm
  case Nsl => k_asm
  case lsl => rename News _ _ _ _ => N3; exact ⟨_, (N3 _ (mem_deep 7 mD1)).1, rfl, _, rfl⟩
  case psl => kmk_part
  case qsl => kmk_part
  case esl => exact pick_two
  case ssl => with_unfolding_all rfl
  case tsl => kmk_pure
  case zsl => rw [List.size_toArray, List.length_cons, List.length_cons]; exact Nat.le_trans (Nat.succ_le_succ (Nat.succ_le_succ (Nat.le_of_lt hlen.2))) (by decide)
  intro D9 h20 F20 N20 l20
  try dsimp only
  wtm_at "mQX"
  rename News _ _ _ _ => N4
  have hp2 : StrsAre [x1, x2] [w1, w2] := by cases hpv with | cons _ _ h => cases h with | cons _ _ h => exact .cons _ _ (.cons _ _ .nil)
  have ok2 : ∀ x ∈ [w1, w2], PyData.strOk x = true := fun x hx => by
    rcases List.mem_cons.mp hx with rfl | hx
    · exact hok _ (.head _)
    · rw [List.mem_singleton.mp hx]; exact hok _ (.tail _ (.head _))
  have hp3 : StrsAre pv ws := by cases hpv with | cons _ _ h => cases h with | cons _ _ h => exact h
  refine ne_strs N4 (.tail _ (.head _)) (.head _) (.cons _ _ (.cons _ _ .nil)) hp2 ok2 ok2 ?ou2 ?_
  case ou2 => wtm_at "mRU"
  rw [decide_eq_true rfl]
  have N4 := news_drop (news_drop N4)
  try dsimp only
  (repeat' ((fail_if_success (with_reducible show ite _ _ _)); walk1))
  with_reducible refine ite_no ?_ ?_
  · decide
  wtm_at "mQX"
  k_here; k_dflt (refine' kmk_slice_lit (zs := pv) ?Fs2 ?Ns2 ?ls2 ?ps2 ?qs2 ?es2 ?_ ?ss2 ?ts2 ?zs2)
  case Fs2 => k_asm
  case Ns2 => k_asm
  case ls2 => rename News _ _ _ _ => N5; exact ⟨_, (N5 _ (mem_deep 6 mD1)).1, rfl, _, rfl⟩
  case ps2 => kmk_part
  case qs2 => kmk_part
  case es2 => exact pick_rest
  case ss2 => with_unfolding_all rfl
  case ts2 => kmk_pure
  case zs2 => rw [List.size_toArray, List.length_cons, List.length_cons]; exact Nat.le_trans (Nat.succ_le_succ (Nat.succ_le_succ (Nat.le_of_lt hlen.2))) (by decide)
  intro Dn h22 F22 N22 l22
  clear N4
  try dsimp only
  wtm_at "mQX"
  rename News _ _ _ _ => N6
  rename Fr _ _ _ _ => F6
  (first | (with_reducible show wpAny _ _ _ _ _ _; generalize hGoal146 : wpAny _ _ _ _ _ _ = Goal146) | (dsimp only; with_reducible show wpAny _ _ _ _ _ _; generalize hGoal146 : wpAny _ _ _ _ _ _ = Goal146) | (generalize hGoal146 : True = Goal146))
  have hR3 := lex_adr0 (P := fun x => x ∉ (lawCl L).map (·.2)) hR2 rfl (ln' := ln) (tl' := tl) (ps' := ps) (k' := kp + 1 + 1)
  rw [hW1] at N6
  have N7 := news_tp2 (A := lexL X ln tl ps (kp + 1 + 1)) N6
  have hlt3 := tp_lt (A := lexL X ln tl ps (kp + 1 + 1)) (o := listOf pv.toArray 0) (by rw [hW1] at l22; exact l22)
  obtain ⟨y1, y2, y3⟩ := grow (o2 := listOf vs.toArray kl) HC hled O hl hR3 hlt3
  subst hGoal146
  exact kont _ _ _ _ _ Dn _ ⟨F6, ⟨CK, N7, HC⟩, y3⟩ y1 (y2 _ (.head _)) (fun p hp => Nat.ne_of_lt ((hlt3 _ (.head _)).2 p (sub_rr p hp))) rfl rfl rfl fun y h1 h2 h3 => (if_neg h1).trans ((if_neg h2).trans (if_neg h3))
end
end Mine
end
section
open PySem PySem.W PyProof.Rows PySem.Calls PySem.Spec
set_option Elab.async false
set_option maxRecDepth 100000
set_option maxHeartbeats 0
namespace Mine
section
variable {w : World} {p : Program} {loose : List Str} {mean : ExcName → Option Value} {mg mb : Str → Option Value} {dp un : Nat} {gd : Option (List Code)} {cn : Str} {a : Addr} {ccd : Value} {A₀ : Around} {base h₀ : Heap} {L : Addr} {m cm : Str → Option Value} {s : Shared} {R : Led}
theorem law_11n {Dp : Addr} {kd : Nat} {W1 : Led} {Q : Flow → Shared → Prop} {E : Value → Shared → Prop}
    (hB : Below A₀ base [] h₀) (hX : Frag.In (Mine.pb.heap_1 w.params) h₀) (hT : Top p loose mean mg mb h₀) (hd : dp + 40 < recursionLimit) (hu : un + 400 < cLine)
    (F : Fr h₀ L s.heap m) (N : News h₀ L s.heap W1) (mD : (Dp, listOf #[] kd) ∈ W1) (hmp : m (Str.ofString "pending") = some (.ref Dp))
    (kont : ∀ (h' : Heap) (tk' : Tok), Fr h₀ L h' m → News h₀ L h' W1 → Q .brk { s with heap := h', toks := tk' }) :
    wpAny (model PySem.Challenge.rw_ti0052_01.prog w) (lawA dp un gd cn L a ccd) (execs (bseg 0 4) (lawEnv cn L a ccd)) Q E s := by
  revert hX; k_fill; intro hX
  have ok1 : ∀ x ∈ ([] : List Str), PyData.strOk x = true := fun _ h => nomatch h
  show wpAny _ _ (execs [_, _, _, _] _) _ _ _
  (show (let V := _; let A9 := _; wpAny _ A9 (execs _ V) _ _ _)); intro V A9
  wtm_at "mQX"
  rename News _ _ _ _ => N2
  refine eq_strs (us := []) (vs := []) N2 (.tail _ mD) (.head _) .nil .nil ok1 ok1 ?ou ?_
  case ou => wtm_at "mRU"
  rw [decide_eq_true rfl]
  have N2 := news_drop N2
  try dsimp only
  wtm_at "mQX"
  rename Fr _ _ _ _ => F3
  exact kont _ _ F3 N2
theorem law_12 {low : Nat} {fs : List Fact} {pr : Nat × Nat} {M : List Nat} {pend : List (Nat × Nat)} {St : List Nat} {S : Nat → Str} {t : Nat} {b l : Addr} {vs : List Value} {kl j1 j2 : Nat} {W1 CK : Led} {x1 x2 : Str} {t1 t2 : Tok} {Q : Flow → Shared → Prop} {E : Value → Shared → Prop}
    (hB : Below A₀ base [] h₀) (hX : Frag.In (Mine.pb.heap_1 w.params) h₀) (hT : Top p loose mean mg mb h₀) (hd : dp + 40 < recursionLimit) (hu : un + 400 < cLine)
    (F : Fr h₀ L s.heap m) (N : News h₀ L s.heap W1) (HC : CellsAre cm (lawCl L) CK) (HS : ∀ p ∈ CK, p ∈ W1) (IB : IsBook W1 b l) (ml : (l, listOf vs.toArray kl) ∈ W1) (P : PairsIn W1 vs (bookKv St S (nOf M low))) (hlow : low < 29) (LP : LoopP fs pr low M pend St S t)
    (hj1 : j1 < 5) (hj2 : j2 < 5) (hx1 : x1 = wL low j1) (hx2 : x2 = wL low j2) (hcb : cm (Str.ofString "book") = some (.ref b)) (hm1 : m (Str.ofString "one") = some (.str x1 t1)) (hm2 : m (Str.ofString "other") = some (.str x2 t2))
    (kont : ∀ (m' : Str → Option Value) (h' : Heap) (tk' u1 u2 : Tok), Fr h₀ L h' m' → News h₀ L h' W1 → m' (Str.ofString "mine") = some (.int (nOf M low j1 : Nat) u1) → m' (Str.ofString "theirs") = some (.int (nOf M low j2 : Nat) u2) → (∀ y, y ≠ Str.ofString "mine" → y ≠ Str.ofString "theirs" → m' y = m y) → Q .next { s with heap := h', toks := tk' }) :
    wpAny (model PySem.Challenge.rw_ti0052_01.prog w) (lawA dp un gd cn L a ccd) (execs (bseg 4 1) (lawEnv cn L a ccd)) Q E s := by
  revert hX; k_fill; intro hX
  obtain ⟨oB, mB, dB⟩ := cells_at HC (y := Str.ofString "book") rfl
  rw [hcb] at dB
  have mB1 := HS _ mB
  have f1 := word_fit (by lia : low + j1 < 33)
  have f2 := word_fit (by lia : low + j2 < 33)
  subst hx1 hx2
  obtain ⟨n1, ns1, hg1, hc1, hl1, hv1⟩ := LP.hget hlow hj1 (f1.2.2.2.2.2.2.2 : Txt.lower (wL low j1) = wL low j1)
  obtain ⟨n2, ns2, hg2, hc2, hl2, hv2⟩ := LP.hget hlow hj2 (f2.2.2.2.2.2.2.2 : Txt.lower (wL low j2) = wL low j2)
  show wpAny _ _ (execs [_] _) _ _ _
  (show (let V := _; let A9 := _; wpAny _ A9 (execs _ V) _ _ _)); intro V A9
  wtm_at "mQ"
  (k_here; k_dflt (refine' Mine.c_flags IB ml P (by rw [f1.2.2.2.2.2.2.2]; exact f1.2.2.1) (by rw [f1.2.2.2.2.2.2.2]; exact f1.2.2.2.1) f1.2.2.2.1 (LP.keys _) hg1 hc1 hl1 _ _ _ _ _ _ _ _ _ _ _ _ _ _ _ _ _ ?k1z151 ?k2z151 ?k3z151 ?k4z151 ?k5z151 ?kKz151 ?kdz151 ?kuz151 ?kRz151; (case k1z151 => k_asm); (case k2z151 => k_asm); (case k3z151 => k_asm); (case k4z151 => k_asm); (case k5z151 => k_asm); (case kKz151 => first | exact rfl | assumption); (case kdz151 => wtm_at "mRM"); (case kuz151 => wtm_at "mRU")))
  intro v9 n9 h9 tk9 hp9 F9 N9
  (first | (with_reducible show wpAny _ _ _ _ _ _; generalize hGoal149 : wpAny _ _ _ _ _ _ = Goal149) | (dsimp only; with_reducible show wpAny _ _ _ _ _ _; generalize hGoal149 : wpAny _ _ _ _ _ _ = Goal149) | (generalize hGoal149 : True = Goal149))
  obtain ⟨⟨u1, hu1⟩, e9⟩ := hp9
  rw [hv1] at hu1
  subst v9
  subst n9
  subst hGoal149
  try dsimp only
  try k_fold
  wtm_at "mQ"
  (k_here; k_dflt (refine' Mine.c_flags IB ml P (by rw [f2.2.2.2.2.2.2.2]; exact f2.2.2.1) (by rw [f2.2.2.2.2.2.2.2]; exact f2.2.2.2.1) f2.2.2.2.1 (LP.keys _) hg2 hc2 hl2 _ _ _ _ _ _ _ _ _ _ _ _ _ _ _ _ _ ?k1z152 ?k2z152 ?k3z152 ?k4z152 ?k5z152 ?kKz152 ?kdz152 ?kuz152 ?kRz152; (case k1z152 => k_asm); (case k2z152 => k_asm); (case k3z152 => k_asm); (case k4z152 => k_asm); (case k5z152 => k_asm); (case kKz152 => first | exact rfl | assumption); (case kdz152 => wtm_at "mRM"); (case kuz152 => wtm_at "mRU")))
  intro v9 n9 h9 tk9 hp9 F9 N9
  (first | (with_reducible show wpAny _ _ _ _ _ _; generalize hGoal150 : wpAny _ _ _ _ _ _ = Goal150) | (dsimp only; with_reducible show wpAny _ _ _ _ _ _; generalize hGoal150 : wpAny _ _ _ _ _ _ = Goal150) | (generalize hGoal150 : True = Goal150))
  obtain ⟨⟨u2, hu2⟩, e9⟩ := hp9
  rw [hv2] at hu2
  subst v9
  subst n9
  subst hGoal150
  try dsimp only
  try k_fold
  wtm_at "mQ"
  rename News _ _ _ _ => N6
  rename Fr _ _ _ _ => F6
  exact kont _ _ _ u1 u2 F6 (news_drop N6) rfl rfl fun y h1 h2 => (if_neg h1).trans (if_neg h2)
end
end Mine
end
section
open PySem PySem.W PyProof.Rows PySem.Calls PySem.Spec
set_option Elab.async false
set_option maxRecDepth 100000
set_option maxHeartbeats 0
namespace Mine
theorem and_nat (a b : Nat) : Builtin.bitAnd (a : Int) (b : Int) = ((a &&& b : Nat) : Int) := by
  unfold Builtin.bitAnd
  rw [decide_eq_true (Int.natCast_nonneg a), decide_eq_true (Int.natCast_nonneg b)]
  rfl
theorem both_or (a b : Nat) : Builtin.bitOr (Builtin.bitOr (a : Int) (b : Int)) (a : Int) = ((a ||| b : Nat) : Int) := by
  rw [or_nat, or_nat, Nat.or_comm a b, Nat.or_assoc, Nat.or_self]
theorem both_of (M : List Nat) (q : Nat × Nat) (low : Nat) : nOf M low q.1 ||| nOf M low q.2 = bothOf M q * 2 ^ low := or_sh _ _ _
theorem mg_iff {M : List Nat} {b low k : Nat} (hk : k < 5) : Builtin.bitAnd ((b * 2 ^ low : Nat) : Int) ((nOf M low k : Nat) : Int) = ((nOf M low k : Nat) : Int) ↔ k ∈ mergedOf M b := by
  rw [and_nat]
  unfold nOf
  rw [and_sh, Int.ofNat_inj, sh_inj, mergedOf, List.mem_filter, List.mem_range, decide_eq_true_iff]
  exact ⟨fun h => ⟨hk, h⟩, fun h => h.2⟩
section
variable {w : World} {p : Program} {loose : List Str} {mean : ExcName → Option Value} {mg mb : Str → Option Value} {dp un : Nat} {gd : Option (List Code)} {cn : Str} {a : Addr} {ccd : Value} {A₀ : Around} {base h₀ : Heap} {L : Addr} {m cm : Str → Option Value} {s : Shared} {W1 : Led}
theorem law_13a {n1 n2 : Nat} {c : Int} {t1 t2 t3 : Tok} {Q : Flow → Shared → Prop} {E : Value → Shared → Prop}
    (hB : Below A₀ base [] h₀) (hX : Frag.In (Mine.pb.heap_1 w.params) h₀) (hT : Top p loose mean mg mb h₀) (hd : dp + 40 < recursionLimit) (hu : un + 400 < cLine)
    (S : St2 h₀ L s.heap m cm W1) (hm1 : m (Str.ofString "mine") = some (.int (n1 : Nat) t1)) (hm2 : m (Str.ofString "theirs") = some (.int (n2 : Nat) t2)) (hm3 : m (Str.ofString "merges") = some (.int c t3))
    (kont : ∀ (h' : Heap) (tk' u1 u2 : Tok), St2 h₀ L h' (fun z => if z = Str.ofString "merges" then some (.int (c + 1) u1) else m z) (upS cm (Str.ofString "both") (.int ((n1 ||| n2 : Nat) : Int) u2)) W1 → Q .next { s with heap := h', toks := tk' }) :
    wpAny (model PySem.Challenge.rw_ti0052_01.prog w) (lawA dp un gd cn L a ccd) (execs (iseg 0 2) (lawEnv cn L a ccd)) Q E s := by
  revert hX; k_fill; intro hX
  obtain ⟨F, ⟨CK, N, HC⟩, hR2⟩ := S
  show wpAny _ _ (execs [_, _] _) _ _ _
  (show (let V := _; let A9 := _; wpAny _ A9 (execs _ V) _ _ _)); intro V A9
  wtm_at "mQ"
  (k_here; k_dflt (refine' Mine.c_or _ _ _ _ _ _ _ _ _ _ _ _ _ _ _ _ _ ?k1z156 ?k2z156 ?k3z156 ?k4z156 ?k5z156 ?kKz156 ?kdz156 ?kuz156 ?kRz156; (case k1z156 => k_asm); (case k2z156 => k_asm); (case k3z156 => k_asm); (case k4z156 => k_asm); (case k5z156 => k_asm); (case kKz156 => first | exact rfl | assumption); (case kdz156 => wtm_at "mRM"); (case kuz156 => wtm_at "mRU")))
  refine Mine.out1 ?_
  intro u2 h9 tk9 F9 N9
  try dsimp only
  try k_fold
  wtm_at "mQ"
  (k_here; k_dflt (refine' Mine.c_or _ _ _ _ _ _ _ _ _ _ _ _ _ _ _ _ _ ?k1z157 ?k2z157 ?k3z157 ?k4z157 ?k5z157 ?kKz157 ?kdz157 ?kuz157 ?kRz157; (case k1z157 => k_asm); (case k2z157 => k_asm); (case k3z157 => k_asm); (case k4z157 => k_asm); (case k5z157 => k_asm); (case kKz157 => first | exact rfl | assumption); (case kdz157 => wtm_at "mRM"); (case kuz157 => wtm_at "mRU")))
  refine Mine.out1 ?_
  intro u3 h9 tk9 F9 N9
  rw [both_or]
  try dsimp only
  try k_fold
  wtm_at "mQ"
  rename News _ _ _ _ => N6
  rename Fr _ _ _ _ => F6
  rename CellsAre (upS _ _ _) _ _ => HC6
  exact kont _ _ _ _ ⟨F6, ⟨_, N6, HC6⟩, hR2⟩
theorem law_13b {low : Nat} {fs : List Fact} {pr : Nat × Nat} {M : List Nat} {pend : List (Nat × Nat)} {St : List Nat} {S : Nat → Str} {t : Nat} {b l wl : Addr} {vs wvs : List Value} {kl wk : Nat} {Q : Flow → Shared → Prop} {E : Value → Shared → Prop}
    (hB : Below A₀ base [] h₀) (hX : Frag.In (Mine.pb.heap_1 w.params) h₀) (hT : Top p loose mean mg mb h₀) (hd : dp + 40 < recursionLimit) (hu : un + 400 < cLine)
    (S0 : St2 h₀ L s.heap m cm W1) (IB : IsBook W1 b l) (ml : (l, listOf vs.toArray kl) ∈ W1) (P : PairsIn W1 vs (bookKv St S (nOf M low))) (hlow : low < 29) (LP : LoopP fs pr low M pend St S t)
    (mw : (wl, listOf wvs.toArray wk) ∈ W1) (hw : StrsAre wvs (wordsL low)) (hcb : cm (Str.ofString "book") = some (.ref b)) (hcw : cm (Str.ofString "words") = some (.ref wl))
    (kont : ∀ (h' : Heap) (tk' : Tok) (Dn : Addr) (nv : List Value) (kn : Nat), St2 h₀ L h' m (upS cm (Str.ofString "numbers") (.ref Dn)) ((Dn, listOf nv.toArray kn) :: W1) → IntsN nv ((List.range 5).map (nOf M low)) → Q .next { s with heap := h', toks := tk' }) :
    wpAny (model PySem.Challenge.rw_ti0052_01.prog w) (lawA dp un gd cn L a ccd) (execs (iseg 2 1) (lawEnv cn L a ccd)) Q E s := by
  revert hX; k_fill; intro hX
  obtain ⟨F, ⟨CK, N, HC⟩, hR2⟩ := S0
  obtain ⟨oB, mB, dB⟩ := cells_at HC (y := Str.ofString "book") rfl
  obtain ⟨oW, mW, dW⟩ := cells_at HC (y := Str.ofString "words") rfl
  rw [hcb] at dB
  rw [hcw] at dW
  have mw1 : (wl, listOf wvs.toArray wk) ∈ CK ++ W1 := List.mem_append_right _ mw
  show wpAny _ _ (execs [_] _) _ _ _
  (show (let V := _; let A9 := _; wpAny _ A9 (execs _ V) _ _ _)); intro V A9
  wtm_at "mQ"
  refine wpAny_Assign_Name ?_ ?_
  rotate_left
  with_unfolding_all rfl
  refine comp_open (cl := _) (by rfl) ?_
  wtm_at "mQ"
  rename News _ _ _ _ => N2
  rename Fr _ _ _ _ => F2
  try dsimp only
  refine comp_K0 (src_list N2 mw1 rfl rfl) F2 N2 ?hn (fun i ys => IntsN ys ((List.range i).map (nOf M low))) ⟨rfl, fun i n e => by cases e⟩ ?turn ?done
  case hn => rw [strsAre_len hw, wordsL_len]; decide
  case turn =>
    intro E1 Ky Kn C R2 oC mc i v ys h9 tk9 hi hv hyl hRR hoffC nC F3 N3 hy hx hys
    clear F2 N2 hx
    (first | (with_reducible show wpAny _ _ _ _ _ _; generalize hGoal153 : wpAny _ _ _ _ _ _ = Goal153) | (dsimp only; with_reducible show wpAny _ _ _ _ _ _; generalize hGoal153 : wpAny _ _ _ _ _ _ = Goal153) | (generalize hGoal153 : True = Goal153))
    rw [strsAre_len hw, wordsL_len] at hi
    obtain ⟨tx, e⟩ := strsAre_get hw (wordsL_get (low := low) hi)
    rw [e] at hv
    cases hv
    have f1 := word_fit (by lia : low + i < 33)
    obtain ⟨n1, ns1, hg1, hc1, hl1, hv1⟩ := LP.hget hlow hi (x := wordOf (low + i)) rfl
    have e1 := hRR _ (List.mem_append_left _ mB)
    have sub : ∀ o, ∀ p ∈ W1, p ∈ (C, o) :: R2 := fun o p hp => .tail _ (hRR p (List.mem_append_right _ hp))
    subst hGoal153
    refine own_name (o := oC) F3 N3 nC hoffC ?_
    intro oC2 h14 tk14 nC2 F14 N14
    clear F3 N3
    refine ifs_nil ?_
    try dsimp only
    wtm_at "mQ"
    (k_here; k_dflt (refine' Mine.c_flags (IB.mono (sub oC2)) (sub oC2 _ ml) (P.mono (sub oC2)) f1.2.2.1 f1.2.2.2.1 f1.2.1 (LP.keys _) hg1 hc1 hl1 _ _ _ _ _ _ _ _ _ _ _ _ _ _ _ _ _ ?k1z158 ?k2z158 ?k3z158 ?k4z158 ?k5z158 ?kKz158 ?kdz158 ?kuz158 ?kRz158; (case k1z158 => k_asm); (case k2z158 => k_asm); (case k3z158 => k_asm); (case k4z158 => k_asm); (case k5z158 => k_asm); (case kKz158 => first | exact rfl | assumption); (case kdz158 => wtm_at "mRM"); (case kuz158 => wtm_at "mRU")))
    intro v9 n9 h9 tk9 hp9 F9 N9
    (first | (with_reducible show wpAny _ _ _ _ _ _; generalize hGoal154 : wpAny _ _ _ _ _ _ = Goal154) | (dsimp only; with_reducible show wpAny _ _ _ _ _ _; generalize hGoal154 : wpAny _ _ _ _ _ _ = Goal154) | (generalize hGoal154 : True = Goal154))
    obtain ⟨⟨u1, hu1⟩, e9⟩ := hp9
    rw [hv1] at hu1
    subst v9
    subst n9
    subst hGoal154
    try dsimp only
    try k_fold
    wtm_at "mQ"
    refine hy _ oC2 _ _ _ ?_ nC2 F9 N9
    rw [List.range_succ, List.map_append]
    exact hys.push
  case done =>
    intro Dn nv kn h9 tk9 hnv hyl hlt F3 N3
    clear F2 N2
    have hnv : IntsN nv ((List.range 5).map (nOf M low)) := by rw [strsAre_len hw, wordsL_len] at hnv; exact hnv
    try dsimp only
    wtm_at "mQ"
    rename News _ _ _ _ => N6
    rename Fr _ _ _ _ => F6
    rename CellsAre (upS _ _ _) _ _ => HC6
    exact kont _ _ Dn nv kn ⟨F6, ⟨_, news_in0 N6, HC6⟩, fun p hp => by
      rcases List.mem_cons.mp hp with rfl | hp
      · exact fresh_cell HC hlt
      · exact hR2 p hp⟩ hnv
theorem law_13c {low : Nat} {M : List Nat} {q : Nat × Nat} {nv : List Value} {kn : Nat} {Dn : Addr} {t3 : Tok} {Q : Flow → Shared → Prop} {E : Value → Shared → Prop}
    (hB : Below A₀ base [] h₀) (hX : Frag.In (Mine.pb.heap_1 w.params) h₀) (hT : Top p loose mean mg mb h₀) (hd : dp + 40 < recursionLimit) (hu : un + 400 < cLine)
    (S0 : St2 h₀ L s.heap m cm W1) (mn : (Dn, listOf nv.toArray kn) ∈ W1) (hnv : IntsN nv ((List.range 5).map (nOf M low))) (hcn : cm (Str.ofString "numbers") = some (.ref Dn)) (hcb : cm (Str.ofString "both") = some (.int ((bothOf M q * 2 ^ low : Nat) : Int) t3))
    (kont : ∀ (h' : Heap) (tk' u1 : Tok) (Dm : Addr) (mv : List Value) (km : Nat), St2 h₀ L h' m (upS (upS cm (Str.ofString "merged") (.ref Dm)) (Str.ofString "great") (.int (((mergedOf M (bothOf M q)).length : Int).fmod 2) u1)) ((Dm, listOf mv.toArray km) :: W1) → IntsN mv (mergedOf M (bothOf M q)) → (∀ p ∈ W1, @LT.lt Nat _ p.1 Dm) → Q .next { s with heap := h', toks := tk' }) :
    wpAny (model PySem.Challenge.rw_ti0052_01.prog w) (lawA dp un gd cn L a ccd) (execs (iseg 3 2) (lawEnv cn L a ccd)) Q E s := by
  revert hX; k_fill; intro hX
  obtain ⟨F, ⟨CK, N, HC⟩, hR2⟩ := S0
  obtain ⟨oB, mB, dB⟩ := cells_at HC (y := Str.ofString "both") rfl
  obtain ⟨oN, mN, dN⟩ := cells_at HC (y := Str.ofString "numbers") rfl
  rw [hcb] at dB
  rw [hcn] at dN
  show wpAny _ _ (execs [_, _] _) _ _ _
  (show (let V := _; let A9 := _; wpAny _ A9 (execs _ V) _ _ _)); intro V A9
  wtm_at "mQ"
  refine wpAny_Assign_Name ?_ ?_
  rotate_left
  with_unfolding_all rfl
  refine comp_open (cl := _) (by rfl) ?_
  wtm_at "mQ"
  rename IsRange _ _ _ _ _ _ _ _ => hRg
  rename News _ _ _ _ => N2
  rename Fr _ _ _ _ => F2
  try dsimp only
  refine comp_K0 (n := 5) (src_range hRg (by decide) (by decide)) F2 N2 (by decide) (fun i ys => IntsN ys ((List.range i).filter fun k => decide (bothOf M q &&& mkk M k = mkk M k))) ⟨rfl, fun i n e => by cases e⟩ ?turn ?done
  case turn =>
    intro E1 Ky Kn C R2 oC mc i v ys h9 tk9 hi hv hyl hRR hoffC nC F3 N3 hy hx hys
    clear F2 N2
    (first | (with_reducible show wpAny _ _ _ _ _ _; generalize hGoal155 : wpAny _ _ _ _ _ _ = Goal155) | (dsimp only; with_reducible show wpAny _ _ _ _ _ _; generalize hGoal155 : wpAny _ _ _ _ _ _ = Goal155) | (generalize hGoal155 : True = Goal155))
    obtain ⟨tv, rfl⟩ := hv
    obtain ⟨tn, hvn⟩ := hnv.2 i (nOf M low i) (by rw [List.getElem?_map, List.getElem?_range hi]; rfl)
    have e1 := hRR _ (List.mem_append_left _ mB)
    have e2 := hRR _ (List.mem_append_left _ mN)
    have e3 := hRR _ (List.mem_append_right _ mn)
    have hmg := mg_iff (M := M) (b := bothOf M q) (low := low) hi
    unfold mergedOf at hmg
    rw [List.mem_filter, List.mem_range, decide_eq_true_iff] at hmg
    subst hGoal155
    rw [show (0 : Int) + (i : Int) = (i : Int) from Int.zero_add _]
    refine own_name (o := oC) F3 N3 nC hoffC ?_
    intro oC2 h14 tk14 nC2 F14 N14
    clear F3 N3
    refine ifs_one ?_
    try dsimp only
    wtm_at "mQ"
    (k_here; k_dflt (refine' Mine.c_and _ _ _ _ _ _ _ _ _ _ _ _ _ _ _ _ _ ?k1z159 ?k2z159 ?k3z159 ?k4z159 ?k5z159 ?kKz159 ?kdz159 ?kuz159 ?kRz159; (case k1z159 => k_asm); (case k2z159 => k_asm); (case k3z159 => k_asm); (case k4z159 => k_asm); (case k5z159 => k_asm); (case kKz159 => first | exact rfl | assumption); (case kdz159 => wtm_at "mRM"); (case kuz159 => wtm_at "mRU")))
    refine Mine.out1 ?_
    intro u1 h9 tk9 F9 N9
    try dsimp only
    try k_fold
    wtm_at "mQ"
    · rename _ = ((nOf M low i : Nat) : Int) => hb
      refine hy _ oC2 _ _ _ ?_ nC2 F9 N9
      rw [List.range_succ, List.filter_append, List.filter_cons_of_pos (by rw [decide_eq_true_iff]; exact (hmg.mp hb).2)]
      exact hys.push
    · rename ¬ _ = ((nOf M low i : Nat) : Int) => hb
      refine hx oC2 _ _ _ ?_ nC2 F9 N9
      rw [List.range_succ, List.filter_append, List.filter_cons_of_neg (by rw [decide_eq_true_iff]; exact fun h => hb (hmg.mpr ⟨hi, h⟩)), List.filter_nil, List.append_nil]
      exact hys
  case done =>
    intro Dm mv km h9 tk9 hmv hyl hlt F3 N3
    clear F2 N2
    have hmv : IntsN mv (mergedOf M (bothOf M q)) := hmv
    try dsimp only
    (repeat' ((fail_if_success (with_reducible show wpAny _ _ (call (Value.builtin "len") _ _) ..)); wtm_at "mNOLOOP"; wtm_at "mSTEQ"))
    rename News _ _ _ _ => N4
    refine call_len_list (items := mv.toArray) ⟨_, (N4 _ (.head _)).1, rfl, _, rfl⟩ (by rw [List.size_toArray]; lia) ?_
    rw [List.size_toArray, hmv.1]
    try dsimp only
    wtm_at "mQ"
    rename News _ _ _ _ => N6
    rename Fr _ _ _ _ => F6
    rename CellsAre (upS _ _ _) _ _ => HC6
    exact kont _ _ _ Dm mv km ⟨F6, ⟨_, news_in0 N6, HC6⟩, fun p hp => by
      rcases List.mem_cons.mp hp with rfl | hp
      · exact fresh_cell HC hlt
      · exact hR2 p hp⟩ hmv fun p hp => hlt p (List.mem_append_right _ hp)
end
end Mine
end
section
open PySem PySem.W PyProof.Rows PySem.Calls PySem.Spec
set_option Elab.async false
set_option maxRecDepth 100000
set_option maxHeartbeats 0
namespace Mine
theorem intsN_are : ∀ {vs : List Value} {xs : List Nat}, IntsN vs xs → IntsAre vs (xs.map fun (n : Nat) => (n : Int))
  | [], [], _ => .nil
  | [], _ :: _, h => by cases h.1
  | _ :: _, [], h => by cases h.1
  | v :: vs, x :: xs, h => by
    obtain ⟨t, ht⟩ := h.2 0 x rfl
    cases ht
    exact .cons _ _ (intsN_are ⟨by simpa using h.1, fun i n e => h.2 (i + 1) n e⟩)
theorem any_nat (xs : List Nat) (i : Nat) : ((xs.map fun (n : Nat) => (n : Int)).any (· == (i : Int))) = xs.contains i := by
  rw [Bool.eq_iff_iff, List.any_eq_true, List.contains_iff_mem]
  constructor
  · rintro ⟨x, hx, e⟩
    obtain ⟨n, hn, rfl⟩ := List.mem_map.mp hx
    have e := beq_iff_eq.mp e
    rw [Int.ofNat_inj] at e
    exact e ▸ hn
  · intro h
    exact ⟨_, List.mem_map.mpr ⟨i, h, rfl⟩, beq_self_eq_true _⟩
theorem nodup_take {xs : List Nat} (h : xs.Nodup) {i k : Nat} (hk : xs[i]? = some k) : k ∉ xs.take i := fun hm => by
  obtain ⟨j, hj, e⟩ := List.mem_take_iff_getElem.mp hm
  obtain ⟨hi, e2⟩ := List.getElem?_eq_some_iff.mp hk
  exact List.pairwise_iff_getElem.mp h j i (by lia) hi (by lia) (e.trans e2.symm)
theorem keys_in {low : Nat} {fs : List Fact} {pr : Nat × Nat} {M : List Nat} {pend : List (Nat × Nat)} {St : List Nat} {S : Nat → Str} {t : Nat} {ms : List Nat} {up : Bool} {N : Nat → Nat} (hl : low < 29) (LP : LoopP fs pr low M pend St S t) (hm : ∀ k ∈ ms, k < 5) : ∀ kv ∈ bookKv (stI St ms) (fI S (sC low up) ms) N, (Txt.lower kv.1).length < 2 ^ 20 ∧ kv.1.length < 2 ^ 20 := fun kv hk => by
  obtain ⟨k, hk2, rfl⟩ := List.mem_map.mp hk
  have h5 := (spells_in (up := up) hl LP.sp hm).lt k hk2
  have : Plain (fI S (sC low up) ms k) ∧ (fI S (sC low up) ms k).length < 2 ^ 20 := by
    by_cases e : k ∈ ms
    · rw [fI_in e]; exact (sC_ok hl h5).2
    · rw [fI_out e]; exact LP.pl k h5
  exact ⟨by rw [lower_len this.1]; exact this.2, this.2⟩
section
variable {prog : Program} {w : World} {A : Around} {E : Value → Shared → Prop} {s : Shared} {h₀ : Heap} {L l : Addr} {news : Led} {vs : List Value} {xs : List Nat} {k i : Nat} {t : Tok} {Q : Value → Shared → Prop}
theorem in_L (N : News h₀ L s.heap news) (hm : (l, listOf vs.toArray k) ∈ news) (hi : IntsN vs xs) (h : Q (.bool (xs.contains i)) s) : wpAny (model prog w) A (compareOp .In (.int (i : Int) t) (.ref l)) Q E s :=
  in_list_ints ⟨_, (N _ hm).1, rfl, _, rfl⟩ (intsN_are hi) (by rw [any_nat]; exact h)
theorem notin_L (N : News h₀ L s.heap news) (hm : (l, listOf vs.toArray k) ∈ news) (hi : IntsN vs xs) (h : Q (.bool (!xs.contains i)) s) : wpAny (model prog w) A (compareOp .NotIn (.int (i : Int) t) (.ref l)) Q E s :=
  notin_list_ints ⟨_, (N _ hm).1, rfl, _, rfl⟩ (intsN_are hi) (by rw [any_nat]; exact h)
end
section
variable {w : World} {p : Program} {loose : List Str} {mean : ExcName → Option Value} {mg mb : Str → Option Value} {dp un : Nat} {gd : Option (List Code)} {cn : Str} {a : Addr} {ccd : Value} {A₀ : Around} {base h₀ : Heap} {L : Addr} {m cm : Str → Option Value} {s : Shared} {W1 : Led}
theorem law_14a {low : Nat} {mgd : List Nat} {S : Nat → Str} {mv zv wvs : List Value} {km kz wk : Nat} {Dm Dz wl : Addr} {t3 : Tok} {Q : Flow → Shared → Prop} {E : Value → Shared → Prop}
    (hB : Below A₀ base [] h₀) (hX : Frag.In (Mine.pb.heap_1 w.params) h₀) (hT : Top p loose mean mg mb h₀) (hd : dp + 40 < recursionLimit) (hu : un + 400 < cLine)
    (S0 : St2 h₀ L s.heap m cm W1) (mm : (Dm, listOf mv.toArray km) ∈ W1) (hmv : IntsN mv mgd) (mz : (Dz, listOf zv.toArray kz) ∈ W1) (hzv : StrsAre zv ((List.range 5).map S)) (mw : (wl, listOf wvs.toArray wk) ∈ W1) (hw : StrsAre wvs (wordsL low)) (hlow : low < 29)
    (hcm : cm (Str.ofString "merged") = some (.ref Dm)) (hcg : cm (Str.ofString "great") = some (.int ((mgd.length : Int).fmod 2) t3)) (hcs : cm (Str.ofString "sized") = some (.ref Dz)) (hcw : cm (Str.ofString "words") = some (.ref wl))
    (kont : ∀ (h' : Heap) (tk' : Tok) (D : Addr) (zv' : List Value) (k' : Nat), St2 h₀ L h' m (upS cm (Str.ofString "sized") (.ref D)) ((D, listOf zv'.toArray k') :: W1) → StrsAre zv' ((List.range 5).map (fI S (sC low (mgd.length % 2 == 1)) mgd)) → (∀ p ∈ W1, @LT.lt Nat _ p.1 D) → Q .next { s with heap := h', toks := tk' }) :
    wpAny (model PySem.Challenge.rw_ti0052_01.prog w) (lawA dp un gd cn L a ccd) (execs (iseg 5 1) (lawEnv cn L a ccd)) Q E s := by
  revert hX; k_fill; intro hX
  obtain ⟨F, ⟨CK, N, HC⟩, hR2⟩ := S0
  obtain ⟨oM, mM, dM⟩ := cells_at HC (y := Str.ofString "merged") rfl
  obtain ⟨oG, mG, dG⟩ := cells_at HC (y := Str.ofString "great") rfl
  obtain ⟨oS, mS, dS⟩ := cells_at HC (y := Str.ofString "sized") rfl
  obtain ⟨oW, mW, dW⟩ := cells_at HC (y := Str.ofString "words") rfl
  rw [hcm] at dM
  rw [hcg] at dG
  rw [hcs] at dS
  rw [hcw] at dW
  show wpAny _ _ (execs [_] _) _ _ _
  (show (let V := _; let A9 := _; wpAny _ A9 (execs _ V) _ _ _)); intro V A9
  wtm_at "mQ"
  refine wpAny_Assign_Name ?_ ?_
  rotate_left
  with_unfolding_all rfl
  refine comp_open (cl := _) (by rfl) ?_
  wtm_at "mQ"
  rename IsRange _ _ _ _ _ _ _ _ => hRg
  rename News _ _ _ _ => N2
  rename Fr _ _ _ _ => F2
  try dsimp only
  refine comp_K0 (n := 5) (src_range hRg (by decide) (by decide)) F2 N2 (by decide) (fun i ys => StrsAre ys ((List.range i).map (fI S (sC low (mgd.length % 2 == 1)) mgd))) .nil ?turn ?done
  case turn =>
    intro E1 Ky Kn C R2 oC mc i v ys h9 tk9 hi hv hyl hRR hoffC nC F3 N3 hy hx hys
    clear F2 N2 hx
    (first | (with_reducible show wpAny _ _ _ _ _ _; generalize hGoal160 : wpAny _ _ _ _ _ _ = Goal160) | (dsimp only; with_reducible show wpAny _ _ _ _ _ _; generalize hGoal160 : wpAny _ _ _ _ _ _ = Goal160) | (generalize hGoal160 : True = Goal160))
    obtain ⟨tv, rfl⟩ := hv
    obtain ⟨tz, hvz⟩ := strsAre_get hzv (i := i) (y := S i) (by rw [List.getElem?_map, List.getElem?_range hi]; rfl)
    obtain ⟨tw, hvw⟩ := strsAre_get hw (wordsL_get (low := low) hi)
    have fw := word_fit (by lia : low + i < 33)
    have e1 := hRR _ (List.mem_append_left _ mM)
    have e2 := hRR _ (List.mem_append_left _ mG)
    have e3 := hRR _ (List.mem_append_left _ mS)
    have e4 := hRR _ (List.mem_append_left _ mW)
    have e5 := hRR _ (List.mem_append_right _ mm)
    have e6 := hRR _ (List.mem_append_right _ mz)
    have e7 := hRR _ (List.mem_append_right _ mw)
    have fin : ∀ x u, fI S (sC low (mgd.length % 2 == 1)) mgd i = x → StrsAre (ys ++ [.str x u]) ((List.range (i + 1)).map (fI S (sC low (mgd.length % 2 == 1)) mgd)) := fun x u e => by
      rw [List.range_succ, List.map_append, ← e]
      exact strsAre_snoc hys
    subst hGoal160
    rw [show (0 : Int) + (i : Int) = (i : Int) from Int.zero_add _]
    refine own_name (o := oC) F3 N3 nC hoffC ?_
    intro oC2 h14 tk14 nC2 F14 N14
    clear F3 N3
    refine ifs_nil ?_
    try dsimp only
    wtm_at "mQ"
    refine in_L N14 (.tail _ e5) hmv ?_
    try dsimp only
    wtm_at "mQ"
    · refine hy _ oC2 _ _ _ (fin _ _ ?_) nC2 F14 N14
      rename mgd.contains i = true => hb
      rename (mgd.length : Int).fmod 2 ≠ 0 => hg
      rw [fI_in (List.contains_iff_mem.mp hb), odd_of hg]
      rfl
    · refine hy _ oC2 _ _ _ (fin _ _ ?_) nC2 F14 N14
      rename mgd.contains i = true => hb
      rename (mgd.length : Int).fmod 2 = 0 => hg
      rw [fI_in (List.contains_iff_mem.mp hb), even_of hg]
      rfl
    · refine hy _ oC2 _ _ _ (fin _ _ ?_) nC2 F14 N14
      rename mgd.contains i = false => hb
      exact fI_out fun h => by rw [List.contains_iff_mem.mpr h] at hb; cases hb
  case done =>
    intro D zv' k' h9 tk9 hzs hyl hlt F3 N3
    clear F2 N2
    try dsimp only
    wtm_at "mQ"
    rename News _ _ _ _ => N6
    rename Fr _ _ _ _ => F6
    rename CellsAre (upS _ _ _) _ _ => HC6
    exact kont _ _ D zv' k' ⟨F6, ⟨_, news_in0 N6, HC6⟩, fun p hp => by
      rcases List.mem_cons.mp hp with rfl | hp
      · exact fresh_cell HC hlt
      · exact hR2 p hp⟩ hzs fun p hp => hlt p (List.mem_append_right _ hp)
inductive MrgI (St : List Nat) (S : Nat → Str) (up : Bool) (M mgd : List Nat) (nb low : Nat) (l : Addr) (Rr W1 : Led) (m : Str → Option Value) (i : Nat) (mm : Str → Option Value) (nn : Led) : Prop
  | mk (vs' : List Value) (kl' : Nat) (add : Led) : nn = (l, listOf vs'.toArray kl') :: (add ++ W1) → PairsIn (add ++ Rr) vs' (bookKv (stI St (mgd.take i)) (fI S (sC low up) (mgd.take i)) (fI (nOf M low) (fun _ => nb) (mgd.take i))) → (∀ p ∈ add, @LT.lt Nat _ l p.1 ∧ ∀ q ∈ W1, @LT.lt Nat _ q.1 p.1) → (∀ y, y ≠ Str.ofString "k" → mm y = m y) → MrgI St S up M mgd nb low l Rr W1 m i mm nn
theorem fl_min {a i n : Nat} (h : a ≤ 5) (hn : n ≤ 5) : a + min i n < 1000 := Nat.lt_of_le_of_lt (Nat.add_le_add h (Nat.le_trans (Nat.min_le_right ..) hn)) (by decide)
theorem law_14b {low : Nat} {fs : List Fact} {pr : Nat × Nat} {M : List Nat} {pend : List (Nat × Nat)} {St : List Nat} {S : Nat → Str} {t : Nat} {mgd : List Nat} {up : Bool} {nb : Nat} {X : LexP} {as : List Addr} {led Rr Rk : Led} {ln : Int} {tl t3 : Tok} {b l Dm Dz : Addr} {vs ps mv zv : List Value} {kp kl km kz : Nat} {Q : Flow → Shared → Prop} {E : Value → Shared → Prop}
    (hB : Below A₀ base [] h₀) (hX : Frag.In (Mine.pb.heap_1 w.params) h₀) (hT : Top p loose mean mg mb h₀) (hd : dp + 40 < recursionLimit) (hu : un + 400 < cLine)
    (S0 : St2 h₀ L s.heap m cm (lexL X ln tl ps kp ++ (led ++ ((l, listOf vs.toArray kl) :: Rr)))) (hled : led.map (·.1) = as) (B : Bk X as b l vs kl Rr Rk (bookKv St S (nOf M low))) (hlow : low < 29) (LP : LoopP fs pr low M pend St S t) (hnb : nb < 2 ^ 40)
    (mm : (Dm, listOf mv.toArray km) ∈ Rr) (hmv : IntsN mv mgd) (hm5 : ∀ k ∈ mgd, k < 5) (hnd : mgd.Nodup) (hml : mgd.length ≤ 5) (mz : (Dz, listOf zv.toArray kz) ∈ Rr) (hzv : StrsAre zv ((List.range 5).map (fI S (sC low up) mgd)))
    (hcm : cm (Str.ofString "merged") = some (.ref Dm)) (hcb2 : cm (Str.ofString "both") = some (.int ((nb : Nat) : Int) t3)) (hcs : cm (Str.ofString "sized") = some (.ref Dz)) (hcb : cm (Str.ofString "book") = some (.ref b))
    (kont : ∀ (m' : Str → Option Value) (h' : Heap) (tk' : Tok) (vs' : List Value) (kl' : Nat) (Rr' : Led), St2 h₀ L h' m' cm (lexL X ln tl ps kp ++ (led ++ ((l, listOf vs'.toArray kl') :: Rr'))) → Bk X as b l vs' kl' Rr' Rr (bookKv (stI St mgd) (fI S (sC low up) mgd) (fI (nOf M low) (fun _ => nb) mgd)) → (∀ y, y ≠ Str.ofString "k" → m' y = m y) → Q .next { s with heap := h', toks := tk' }) :
    wpAny (model PySem.Challenge.rw_ti0052_01.prog w) (lawA dp un gd cn L a ccd) (execs (iseg 6 1) (lawEnv cn L a ccd)) Q E s := by
  revert hX; k_fill; intro hX
  obtain ⟨F, ⟨CK, N, HC⟩, hR2⟩ := S0
  obtain ⟨oM, mM, dM⟩ := cells_at HC (y := Str.ofString "merged") rfl
  obtain ⟨oT, mT, dT⟩ := cells_at HC (y := Str.ofString "both") rfl
  obtain ⟨oS, mS, dS⟩ := cells_at HC (y := Str.ofString "sized") rfl
  obtain ⟨oB, mB, dB⟩ := cells_at HC (y := Str.ofString "book") rfl
  rw [hcm] at dM
  rw [hcb2] at dT
  rw [hcs] at dS
  rw [hcb] at dB
  have N1 := news_pull N
  have hoff := off_l HC hR2 B.off hled B.ne
  obtain ⟨W1, hW1⟩ : ∃ W1 : Led, W1 = CK ++ (lexL X ln tl ps kp ++ (led ++ Rr)) := ⟨_, rfl⟩
  rw [← hW1] at N1 hoff
  have sub : ∀ p ∈ Rr, p ∈ W1 := fun p hp => by rw [hW1]; exact sub_rr p hp
  have HS : ∀ p ∈ CK, p ∈ W1 := fun p hp => by rw [hW1]; exact List.mem_append_left _ hp
  have mM1 := HS _ mM
  have mT1 := HS _ mT
  have mS1 := HS _ mS
  have mB1 := HS _ mB
  have mm1 := sub _ mm
  have mz1 := sub _ mz
  have IB1 := B.book.mono sub
  have hmz : mv.length ≤ 5 := by rw [hmv.1]; exact hml
  clear N
  show wpAny _ _ (execs [_] _) _ _ _
  (show (let V := _; let A9 := _; wpAny _ A9 (execs _ V) _ _ _)); intro V A9
  wtm_at "mQ"
  refine wpAny_For ?_
  wtm_at "mQ"
  rename News _ _ _ _ => N2
  rename Fr _ _ _ _ => F2
  try dsimp only
  refine for_K (src_list N2 (.tail _ mm1) rfl rfl) F2 N2 (MrgI St S up M mgd nb low l Rr W1 m)
    ⟨vs, kl, [], rfl, by rw [List.take_zero, stI_nil]; exact B.prs, (fun _ h => nomatch h), fun _ _ => rfl⟩ ?turn ?done
  case turn =>
    intro E1 K I it i v mm nn h7 tk7 hi hv hsub hoffI F3 N3 hn hJ
    clear F2 N2
    (first | (with_reducible show wpAny _ _ _ _ _ _; generalize hGoal161 : wpAny _ _ _ _ _ _ = Goal161) | (dsimp only; with_reducible show wpAny _ _ _ _ _ _; generalize hGoal161 : wpAny _ _ _ _ _ _ = Goal161) | (generalize hGoal161 : True = Goal161))
    obtain ⟨vs', kl', add, rfl, P3, hadd, hmm⟩ := hJ
    obtain ⟨k, hk⟩ : ∃ k, mgd[i]? = some k := ⟨_, List.getElem?_eq_getElem (by rw [← hmv.1]; exact hi)⟩
    obtain ⟨tv, hvv⟩ := hmv.2 i k hk
    rw [hvv] at hv
    cases hv
    have k5 := hm5 k (List.mem_of_getElem? hk)
    obtain ⟨tz, hzk⟩ := strsAre_get hzv (i := k) (y := sC low up k) (by rw [List.getElem?_map, List.getElem?_range k5]; exact congrArg some (fI_in (List.mem_of_getElem? hk)))
    obtain ⟨sc1, sc2, sc3⟩ := sC_ok (up := up) hlow k5
    have fw := word_fit (by lia : low + k < 33)
    have htk : ∀ x ∈ mgd.take i, x < 5 := fun x hx => hm5 x (List.mem_of_mem_take hx)
    have hkn : k ∉ mgd.take i := nodup_take hnd hk
    have hIl : @Ne Nat I l := fun e => hoffI _ (.head _) e.symm
    have hoff3 : ∀ p ∈ (I, it) :: (add ++ W1), p.1 ≠ l := fun p hp => by
      rcases List.mem_cons.mp hp with rfl | hp
      · exact hIl
      · rcases List.mem_append.mp hp with hp | hp
        · exact Nat.ne_of_gt (hadd p hp).1
        · exact hoff p hp
    have sub3 : ∀ p ∈ W1, p ∈ (l, listOf vs'.toArray kl') :: (add ++ W1) := fun p hp => .tail _ (List.mem_append_right _ hp)
    have e1 := sub3 _ mS1
    have e2 := sub3 _ mB1
    have e3 := sub3 _ mT1
    have e4 := sub3 _ mz1
    have hkeys := keys_in (N := fI (nOf M low) (fun _ => nb) (mgd.take i)) (up := up) hlow LP htk
    have hlen3 : vs'.length < 1000 := by
      rw [P3.len]
      unfold bookKv stI
      rw [List.length_map, List.length_append, List.length_take]
      have := List.length_filter_le (fun k => !(mgd.take i).contains k) St
      rw [LP.len] at this
      exact fl_min this (by assumption)
    have P4 : PairsIn ((I, it) :: (add ++ W1)) vs' (bookKv (stI St (mgd.take i)) (fI S (sC low up) (mgd.take i)) (fI (nOf M low) (fun _ => nb) (mgd.take i))) := P3.mono fun p hp => .tail _ ((List.mem_append.mp hp).elim (List.mem_append_left _) fun hp => List.mem_append_right _ (sub p hp))
    have hput := put_in (N := nOf M low) (b := nb) (up := up) hlow LP.sp htk k5 hkn
    have hti : mgd.take (i + 1) = mgd.take i ++ [k] := by rw [List.take_succ, hk]; rfl
    rw [← hti] at hput
    subst hGoal161
    wtm_at "mQ"
    (k_here; k_dflt (refine' Mine.c_oct (n := nb) hnb _ _ _ _ _ _ _ _ _ _ _ _ _ _ _ _ _ ?k1z166 ?k2z166 ?k3z166 ?k4z166 ?k5z166 ?kKz166 ?kdz166 ?kuz166 ?kRz166; (case k1z166 => k_asm); (case k2z166 => k_asm); (case k3z166 => k_asm); (case k4z166 => k_asm); (case k5z166 => k_asm); (case kKz166 => first | exact rfl | assumption); (case kdz166 => wtm_at "mRM"); (case kuz166 => wtm_at "mRU")))
    refine Mine.out1 ?_
    intro tv9 h9 tk9 F9 N9
    try dsimp only
    try k_fold
    wtm_at "mQ"
    rename News _ _ _ _ => N5
    rename Fr _ _ _ _ => F5
    (k_here; k_dflt (refine' Mine.c_setfn (b := b) (l := l) (vs := vs') (k := kl') (R := (I, it) :: (add ++ W1)) (kvs := bookKv (stI St (mgd.take i)) (fI S (sC low up) (mgd.take i)) (fI (nOf M low) (fun _ => nb) (mgd.take i))) (IB1.mono fun p hp => .tail _ (List.mem_append_right _ hp)) P4 (by rw [sc1]; exact fw.2.2.1) (by rw [sc1]; exact fw.2.2.2.1) sc3 sc2.ok (octStr_ok _) (octStr_len hnb) hkeys hlen3 hoff3 _ _ _ _ _ _ _ _ _ _ _ _ _ _ _ _ _ ?k1z165 ?k2z165 ?k3z165 ?k4z165 ?k5z165 ?kKz165 ?kdz165 ?kuz165 ?kRz165; (case k1z165 => k_asm); (case k2z165 => k_asm); (case k3z165 => k_asm); (case k4z165 => exact news_sw N5); (case k5z165 => k_asm); (case kKz165 => first | exact rfl | assumption); (case kdz165 => wtm_at "mRM"); (case kuz165 => wtm_at "mRU")))
    intro v9 n9 h9 tk9 hp9 F9 N9
    clear N5
    (first | (with_reducible show wpAny _ _ _ _ _ _; generalize hGoal162 : wpAny _ _ _ _ _ _ = Goal162) | (dsimp only; with_reducible show wpAny _ _ _ _ _ _; generalize hGoal162 : wpAny _ _ _ _ _ _ = Goal162) | (generalize hGoal162 : True = Goal162))
    obtain ⟨rfl, vs9, kl9, tt9, htt, rfl, rfl⟩ := hp9
    subst hGoal162
    try dsimp only
    try k_fold
    wtm_at "mQ"
    refine hn _ _ _ _ ⟨_, kl9, (tt9, tupO (sC low up k) tz (octStr nb) tv9 0) :: add, rfl, ?P, ?ad, fun y hy => (if_neg hy).trans (hmm y hy)⟩ (fun p hp => by rw [List.mem_singleton.mp hp]; exact .tail _ (.tail _ (List.mem_append_right _ mm1))) F9 (news_sw3 N9) ?off
    case P =>
      rw [← hput]
      exact (P3.keep _).snoc (.head _) fun p hp => .tail _ hp
    case ad =>
      intro p hp
      rcases List.mem_cons.mp hp with rfl | hp
      · exact ⟨htt _ (.head _), fun q hq => htt q (.tail _ (.tail _ (List.mem_append_right _ hq)))⟩
      · exact hadd p hp
    case off =>
      intro p hp
      rcases List.mem_cons.mp hp with rfl | hp
      · exact fun e => hIl e.symm
      · rcases List.mem_cons.mp hp with rfl | hp
        · exact Nat.ne_of_gt (htt _ (.tail _ (.head _)))
        · exact hoffI p (.tail _ hp)
  case done =>
    intro E1 mm nn h7 tk7 hJ hsub F8 N8
    clear F2 N2
    (first | (with_reducible show wpAny _ _ _ _ _ _; generalize hGoal163 : wpAny _ _ _ _ _ _ = Goal163) | (dsimp only; with_reducible show wpAny _ _ _ _ _ _; generalize hGoal163 : wpAny _ _ _ _ _ _ = Goal163) | (generalize hGoal163 : True = Goal163))
    obtain ⟨vs', kl', add, rfl, P3, hadd, hmm⟩ := hJ
    rw [hmv.1, List.take_length] at P3
    obtain ⟨x1, x2, x3⟩ := grow (o2 := listOf vs'.toArray kl') HC hled B.off B.ne hR2 (by rw [hW1] at hadd; exact hadd)
    rw [hW1] at N8
    have N9 := news_bk2 N8
    subst hGoal163
    wtm_at "mQ"
    exact kont mm _ _ vs' kl' (add ++ Rr) ⟨F8, ⟨CK, N9, HC⟩, x3⟩ ⟨x1, x2, B.book.mono fun p hp => List.mem_append_right _ hp, P3, fun p hp => List.mem_append_right _ hp⟩ hmm
theorem IntsN.app {us vs : List Value} {xs ys : List Nat} (h1 : IntsN us xs) (h2 : IntsN vs ys) : IntsN (us ++ vs) (xs ++ ys) :=
  ⟨by rw [List.length_append, List.length_append, h1.1, h2.1], fun i n e => by
    by_cases hi : i < xs.length
    · rw [List.getElem?_append_left hi] at e
      rw [List.getElem?_append_left (by rw [h1.1]; exact hi)]
      exact h1.2 i n e
    · rw [List.getElem?_append_right (Nat.le_of_not_lt hi)] at e
      rw [List.getElem?_append_right (by rw [h1.1]; exact Nat.le_of_not_lt hi), h1.1]
      exact h2.2 _ n e⟩
theorem law_14c {St mgd : List Nat} {mv sv : List Value} {km ks : Nat} {Dm Ds : Addr} {Q : Flow → Shared → Prop} {E : Value → Shared → Prop}
    (hB : Below A₀ base [] h₀) (hX : Frag.In (Mine.pb.heap_1 w.params) h₀) (hT : Top p loose mean mg mb h₀) (hd : dp + 40 < recursionLimit) (hu : un + 400 < cLine)
    (S0 : St2 h₀ L s.heap m cm W1) (mm : (Dm, listOf mv.toArray km) ∈ W1) (hmv : IntsN mv mgd) (ms : (Ds, listOf sv.toArray ks) ∈ W1) (hsv : IntsN sv St) (hls : St.length = 5) (hlm : mgd.length ≤ 5)
    (hcm : cm (Str.ofString "merged") = some (.ref Dm)) (hms : m (Str.ofString "stands") = some (.ref Ds))
    (kont : ∀ (h' : Heap) (tk' : Tok) (D : Addr) (sv' : List Value), St2 h₀ L h' (fun z => if z = Str.ofString "stands" then some (.ref D) else m z) cm ((D, listOf sv'.toArray 0) :: W1) → IntsN sv' (stI St mgd) → (∀ p ∈ W1, @LT.lt Nat _ p.1 D) → Q .next { s with heap := h', toks := tk' }) :
    wpAny (model PySem.Challenge.rw_ti0052_01.prog w) (lawA dp un gd cn L a ccd) (execs (iseg 7 1) (lawEnv cn L a ccd)) Q E s := by
  revert hX; k_fill; intro hX
  obtain ⟨F, ⟨CK, N, HC⟩, hR2⟩ := S0
  obtain ⟨oM, mM, dM⟩ := cells_at HC (y := Str.ofString "merged") rfl
  rw [hcm] at dM
  have ms1 : (Ds, listOf sv.toArray ks) ∈ CK ++ W1 := List.mem_append_right _ ms
  have mm1 : (Dm, listOf mv.toArray km) ∈ CK ++ W1 := List.mem_append_right _ mm
  show wpAny _ _ (execs [_] _) _ _ _
  (show (let V := _; let A9 := _; wpAny _ A9 (execs _ V) _ _ _)); intro V A9
  wtm_at "mQ"
  refine comp_open (cl := _) (by rfl) ?_
  wtm_at "mQ"
  rename News _ _ _ _ => N2
  rename Fr _ _ _ _ => F2
  try dsimp only
  refine comp_K0 (src_list N2 ms1 rfl rfl) F2 N2 ?hn (fun i ys => IntsN ys ((St.take i).filter fun k => !mgd.contains k)) ⟨rfl, fun i n e => by cases e⟩ ?turn ?done
  case hn => rw [hsv.1, hls]; decide
  case turn =>
    intro E1 Ky Kn C R2 oC mc i v ys h9 tk9 hi hv hyl hRR hoffC nC F3 N3 hy hx hys
    clear F2 N2
    (first | (with_reducible show wpAny _ _ _ _ _ _; generalize hGoal164 : wpAny _ _ _ _ _ _ = Goal164) | (dsimp only; with_reducible show wpAny _ _ _ _ _ _; generalize hGoal164 : wpAny _ _ _ _ _ _ = Goal164) | (generalize hGoal164 : True = Goal164))
    obtain ⟨x, hx5⟩ : ∃ x, St[i]? = some x := ⟨_, List.getElem?_eq_getElem (by rw [← hsv.1]; exact hi)⟩
    obtain ⟨tv, e⟩ := hsv.2 i x hx5
    rw [e] at hv
    cases hv
    have e1 := hRR _ (List.mem_append_left _ mM)
    have e2 := hRR _ mm1
    have ht : St.take (i + 1) = St.take i ++ [x] := by rw [List.take_succ, hx5]; rfl
    subst hGoal164
    refine own_name (o := oC) F3 N3 nC hoffC ?_
    intro oC2 h14 tk14 nC2 F14 N14
    clear F3 N3
    refine ifs_one ?_
    try dsimp only
    wtm_at "mQ"
    refine notin_L N14 (.tail _ e2) hmv ?_
    try dsimp only
    wtm_at "mQ"
    · refine hx oC2 _ _ _ ?_ nC2 F14 N14
      rename mgd.contains x = true => hb
      rw [ht, List.filter_append, List.filter_cons_of_neg (by rw [hb]; decide), List.filter_nil, List.append_nil]
      exact hys
    · refine hy _ oC2 _ _ _ ?_ nC2 F14 N14
      rename mgd.contains x = false => hb
      rw [ht, List.filter_append, List.filter_cons_of_pos (by rw [hb]; rfl)]
      exact hys.push
  case done =>
    intro D2 ys yk h9 tk9 hys hyl hlt F3 N3
    clear F2 N2
    have hys : IntsN ys (St.filter fun k => !mgd.contains k) := by
      rw [hsv.1, List.take_length] at hys
      exact hys
    try dsimp only
    wtm_at "mQ"
    rename News _ _ _ _ => N4
    rename Fr _ _ _ _ => F4
    refine kmk_add_lit F4 N4 ⟨_, (N4 _ (.head _)).1, rfl, _, rfl⟩ ⟨_, (N4 _ (.tail _ mm1)).1, rfl, _, rfl⟩ (zs := ys ++ mv) rfl (fun D5 h5 F5 N5 l5 => ?_) ?z5
    case z5 =>
      show ys.length + mv.length ≤ sizeLine
      rw [hmv.1]
      have h1 : ys.length ≤ 5 := by rw [← hls, ← hsv.1]; exact hyl
      exact Nat.le_trans (Nat.add_le_add h1 hlm) (by decide)
    have N5 := drop2 N5
    clear F4 N4
    try dsimp only
    wtm_at "mQ"
    rename News _ _ _ _ => N6
    rename Fr _ _ _ _ => F6
    exact kont _ _ D5 (ys ++ mv) ⟨F6, ⟨CK, news_in0 N6, HC⟩, fun p hp => by
      rcases List.mem_cons.mp hp with rfl | hp
      · exact fresh_cell HC fun p hp => l5 p (.tail _ hp)
      · exact hR2 p hp⟩ (hys.app hmv) fun p hp => l5 p (.tail _ (List.mem_append_right _ hp))
end
end Mine
end
section
open PySem PySem.W PyProof.Rows PySem.Calls PySem.Spec
set_option Elab.async false
set_option maxRecDepth 100000
set_option maxHeartbeats 0
namespace Mine
theorem conv1 {X : LexP} {as : List Addr} {l Dp : Addr} {ol o : Obj} {Rr : Led} (DI : Dist (X.adr ++ as)) (O : Off (X.adr ++ as) ((l, ol) :: (Dp, o) :: Rr)) (h1 : @Ne Nat Dp l) (h2 : ∀ p ∈ Rr, p.1 ≠ Dp) :
    Dist (X.adr ++ (Dp :: as)) ∧ Off (X.adr ++ (Dp :: as)) ((l, ol) :: Rr) := by
  obtain ⟨d1, d2, d3⟩ := List.pairwise_append.mp DI
  have oD := O (Dp, o) (.tail _ (.head _))
  refine ⟨List.pairwise_append.mpr ⟨d1, List.pairwise_cons.mpr ⟨fun a ha => oD a (List.mem_append_right _ ha), d2⟩, fun a ha x hx => ?_⟩, fun p hp a ha => ?_⟩
  · rcases List.mem_cons.mp hx with rfl | hx
    · exact Ne.symm (oD a (List.mem_append_left _ ha))
    · exact d3 a ha x hx
  · have hp2 : p ∈ (l, ol) :: (Dp, o) :: Rr := by
      rcases List.mem_cons.mp hp with rfl | hp
      · exact .head _
      · exact .tail _ (.tail _ hp)
    rcases List.mem_append.mp ha with ha | ha
    · exact O p hp2 a (List.mem_append_left _ ha)
    · rcases List.mem_cons.mp ha with rfl | ha
      · rcases List.mem_cons.mp hp with rfl | hp
        · exact Ne.symm h1
        · exact h2 p hp
      · exact O p hp2 a (List.mem_append_right _ ha)
theorem conv2 {X : LexP} {as : List Addr} {l Dp : Addr} {ol o : Obj} {Rr : Led} (DI : Dist (X.adr ++ (Dp :: as))) (O : Off (X.adr ++ (Dp :: as)) ((l, ol) :: Rr)) : Off (X.adr ++ as) ((l, ol) :: (Dp, o) :: Rr) ∧ @Ne Nat Dp l ∧ (∀ p ∈ Rr, p.1 ≠ Dp) := by
  obtain ⟨d1, d2, d3⟩ := List.pairwise_append.mp DI
  have up : ∀ a ∈ X.adr ++ as, a ∈ X.adr ++ (Dp :: as) := fun a ha => by
    rcases List.mem_append.mp ha with ha | ha
    · exact List.mem_append_left _ ha
    · exact List.mem_append_right _ (.tail _ ha)
  refine ⟨fun p hp a ha => ?_, Ne.symm (O (l, ol) (.head _) Dp (List.mem_append_right _ (.head _))), fun p hp => O p (.tail _ hp) Dp (List.mem_append_right _ (.head _))⟩
  rcases List.mem_cons.mp hp with rfl | hp
  · exact O (l, ol) (.head _) a (up a ha)
  · rcases List.mem_cons.mp hp with rfl | hp
    · rcases List.mem_append.mp ha with ha | ha
      · exact Ne.symm (d3 a ha Dp (.head _))
      · exact (List.pairwise_cons.mp d2).1 a ha
    · exact O p (.tail _ hp) a (up a ha)
theorem news_cv {h₀ h : Heap} {L : Addr} {l q : Addr × Obj} {CK A B R : Led} (N : News h₀ L h (CK ++ (A ++ (B ++ (l :: q :: R))))) : News h₀ L h (CK ++ (A ++ ((q :: B) ++ (l :: R)))) := news_sub N fun p hp => by
  exact Mine.sub_at hp (by wtm_at "per")
theorem news_cv2 {h₀ h : Heap} {L : Addr} {l q : Addr × Obj} {CK A B R : Led} (N : News h₀ L h (CK ++ (A ++ ((q :: B) ++ (l :: R))))) : News h₀ L h (CK ++ (A ++ (B ++ (l :: q :: R)))) := news_sub N fun p hp => by
  exact Mine.sub_at hp (by wtm_at "per")
theorem st2_cv {h₀ h : Heap} {L : Addr} {m cm : Str → Option Value} {l q : Addr × Obj} {A B R : Led} (S : St2 h₀ L h m cm (A ++ (B ++ (l :: q :: R)))) : St2 h₀ L h m cm (A ++ ((q :: B) ++ (l :: R))) := by
  obtain ⟨F, ⟨CK, N, HC⟩, hR⟩ := S
  exact ⟨F, ⟨CK, news_cv N, HC⟩, fun p hp => hR p (by
    exact Mine.sub_at hp (by wtm_at "per"))⟩
theorem st2_cv2 {h₀ h : Heap} {L : Addr} {m cm : Str → Option Value} {l q : Addr × Obj} {A B R : Led} (S : St2 h₀ L h m cm (A ++ ((q :: B) ++ (l :: R)))) : St2 h₀ L h m cm (A ++ (B ++ (l :: q :: R))) := by
  obtain ⟨F, ⟨CK, N, HC⟩, hR⟩ := S
  exact ⟨F, ⟨CK, news_cv2 N, HC⟩, fun p hp => hR p (by
    exact Mine.sub_at hp (by wtm_at "per"))⟩
theorem st2_in {h₀ h : Heap} {L : Addr} {m cm : Str → Option Value} {x l : Addr × Obj} {A B R : Led} (S : St2 h₀ L h m cm (x :: (A ++ (B ++ (l :: R))))) : St2 h₀ L h m cm (A ++ (B ++ (l :: x :: R))) := by
  obtain ⟨F, ⟨CK, N, HC⟩, hR⟩ := S
  refine ⟨F, ⟨CK, news_sub N fun p hp => ?_, HC⟩, fun p hp => hR p ?_⟩
  · exact Mine.sub_at hp (by wtm_at "per")
  · exact Mine.sub_at hp (by wtm_at "per")
theorem st2_drop {h₀ h : Heap} {L : Addr} {m cm : Str → Option Value} {x : Addr × Obj} {R : Led} (S : St2 h₀ L h m cm (x :: R)) : St2 h₀ L h m cm R := by
  obtain ⟨F, ⟨CK, N, HC⟩, hR⟩ := S
  refine ⟨F, ⟨CK, news_sub N fun p hp => ?_, HC⟩, fun p hp => hR p (.tail _ hp)⟩
  exact Mine.sub_at hp (by wtm_at "per")
theorem st2_drop2 {h₀ h : Heap} {L : Addr} {m cm : Str → Option Value} {x y : Addr × Obj} {R : Led} (S : St2 h₀ L h m cm (y :: x :: R)) : St2 h₀ L h m cm (y :: R) := by
  obtain ⟨F, ⟨CK, N, HC⟩, hR⟩ := S
  refine ⟨F, ⟨CK, news_sub N fun p hp => ?_, HC⟩, fun p hp => hR p ?_⟩
  · exact Mine.sub_at hp (by wtm_at "per")
  · rcases List.mem_cons.mp hp with rfl | hp
    · exact .head _
    · exact .tail _ (.tail _ hp)
theorem Bk.one {X : LexP} {as : List Addr} {b l x : Addr} {vs : List Value} {k : Nat} {Rr Rk led : Led} {kvs : List (Str × Str)} {o : Obj} {ln : Int} {tl : Tok} {ps : List Value} {kp : Nat} (B : Bk X as b l vs k Rr Rk kvs) (hl : led.map (·.1) = as) (h : ∀ p ∈ lexL X ln tl ps kp ++ (led ++ ((l, listOf vs.toArray k) :: Rr)), @LT.lt Nat _ p.1 x) :
    Bk X as b l vs k ((x, o) :: Rr) Rk kvs := by
  have hx : ∀ a ∈ X.adr ++ as, @LT.lt Nat _ a x := fun a ha => by
    have : a ∈ (lexL X ln tl ps kp ++ led).map (·.1) := by rw [List.map_append, hl]; exact ha
    obtain ⟨q, hq, rfl⟩ := List.mem_map.mp this
    exact h q (by rw [← List.append_assoc]; exact List.mem_append_left _ hq)
  have hr : ∀ p ∈ (l, listOf vs.toArray k) :: Rr, @LT.lt Nat _ p.1 x := fun p hp => h p (List.mem_append_right _ (List.mem_append_right _ hp))
  refine ⟨fun p hp a ha => ?_, fun p hp => ?_, B.book.mono fun p hp => .tail _ hp, B.prs.mono fun p hp => .tail _ hp, fun p hp => .tail _ (B.sub p hp)⟩
  · rcases List.mem_cons.mp hp with rfl | hp
    · exact B.off _ (.head _) a ha
    · rcases List.mem_cons.mp hp with rfl | hp
      · exact Nat.ne_of_gt (hx a ha)
      · exact B.off p (.tail _ hp) a ha
  · rcases List.mem_cons.mp hp with rfl | hp
    · exact Nat.ne_of_gt (hr _ (.head _))
    · exact B.ne p hp
theorem iseg8 : ∃ p1 p2 p3 p4 p5 p6 p7 p8 p9 p10 p11 p12 p13, iseg 8 2 = roundSt p1 p2 p3 p4 p5 p6 p7 p8 p9 p10 p11 p12 p13 := ⟨_, _, _, _, _, _, _, _, _, _, _, _, _, rfl⟩
theorem seg17 : ∃ p1 p2 p3 p4 p5 p6 p7 p8 p9 p10 p11 p12 p13, seg 17 2 = roundSt p1 p2 p3 p4 p5 p6 p7 p8 p9 p10 p11 p12 p13 := ⟨_, _, _, _, _, _, _, _, _, _, _, _, _, rfl⟩
theorem inBody_eq : inBody = iseg 0 2 ++ (iseg 2 1 ++ (iseg 3 2 ++ (iseg 5 1 ++ (iseg 6 1 ++ (iseg 7 1 ++ iseg 8 2))))) := rfl
theorem loopBody_eq : loopBody = bseg 0 4 ++ (bseg 4 1 ++ bseg 5 1) := rfl
end Mine
end
section
open PySem PySem.W PyProof.Rows PySem.Calls PySem.Spec
set_option Elab.async false
set_option maxRecDepth 100000
set_option maxHeartbeats 0
namespace Mine
theorem st2_two {h₀ h : Heap} {L : Addr} {m cm : Str → Option Value} {x y l q : Addr × Obj} {A B R : Led} (S : St2 h₀ L h m cm (y :: x :: (A ++ (B ++ (l :: q :: R))))) : St2 h₀ L h m cm (A ++ ((q :: B) ++ (l :: y :: x :: R))) := by
  obtain ⟨F, ⟨CK, N, HC⟩, hR⟩ := S
  refine ⟨F, ⟨CK, news_sub N fun p hp => ?_, HC⟩, fun p hp => hR p ?_⟩
  · exact Mine.sub_at hp (by wtm_at "per")
  · exact Mine.sub_at hp (by wtm_at "per")
theorem lt_cv {A B R : Led} {l q : Addr × Obj} {x : Addr} (h : ∀ p ∈ A ++ (B ++ (l :: q :: R)), @LT.lt Nat _ p.1 x) : ∀ p ∈ A ++ ((q :: B) ++ (l :: R)), @LT.lt Nat _ p.1 x := fun p hp => h p (by
  exact Mine.sub_at hp (by wtm_at "per"))
theorem lt_cv2 {A B R : Led} {y l q : Addr × Obj} {x : Addr} (h : ∀ p ∈ y :: (A ++ (B ++ (l :: q :: R))), @LT.lt Nat _ p.1 x) : ∀ p ∈ A ++ ((q :: B) ++ (l :: y :: R)), @LT.lt Nat _ p.1 x := fun p hp => h p (by
  exact Mine.sub_at hp (by wtm_at "per"))
section
variable {w : World} {p : Program} {loose : List Str} {mean : ExcName → Option Value} {mg mb : Str → Option Value} {dp un : Nat} {gd : Option (List Code)} {cn : Str} {a : Addr} {ccd : Value} {A₀ : Around} {base h₀ : Heap} {L : Addr} {m cm : Str → Option Value} {s : Shared}
inductive MergedX (h₀ : Heap) (L : Addr) (d : Dat1) (X : LexP) (as : List Addr) (led Rk : Led) (ln : Int) (tl : Tok) (b l Dp : Addr) (m cm : Str → Option Value) (c : Int) (M : List Nat) (pend : List (Nat × Nat)) (St : List Nat) (S : Nat → Str) (h' : Heap) (m' cm' : Str → Option Value) : Prop
  | mk (ps pv vs sv zv : List Value) (kp kd kl ks kz : Nat) (Ds Dz : Addr) (Rr : Led) (tm : Tok) : St2 h₀ L h' m' cm' (lexL X ln tl ps kp ++ (led ++ ((l, listOf vs.toArray kl) :: (Dp, listOf pv.toArray kd) :: Rr))) → Off (X.adr ++ as) ((l, listOf vs.toArray kl) :: (Dp, listOf pv.toArray kd) :: Rr) → @Ne Nat Dp l → (∀ p ∈ Rr, p.1 ≠ Dp) → Bk X as b l vs kl Rr Rk (bookKv St S (nOf M d.low)) → StrsAre ps (pushL (wordsL d.low) pend) → StrsAre pv (pushL (wordsL d.low) pend) → (Ds, listOf sv.toArray ks) ∈ Rr → IntsN sv St → (Dz, listOf zv.toArray kz) ∈ Rr → StrsAre zv ((List.range 5).map S) → m' (Str.ofString "merges") = some (.int (c + 1) tm) → m' (Str.ofString "stands") = some (.ref Ds) → cm' (Str.ofString "sized") = some (.ref Dz) → MergedX h₀ L d X as led Rk ln tl b l Dp m cm c M pend St S h' m' cm'
structure Merged (h₀ : Heap) (L : Addr) (d : Dat1) (X : LexP) (as : List Addr) (led Rk : Led) (ln : Int) (tl : Tok) (b l Dp : Addr) (m cm : Str → Option Value) (c : Int) (M : List Nat) (pend : List (Nat × Nat)) (St : List Nat) (S : Nat → Str) (h' : Heap) (m' cm' : Str → Option Value) : Prop where
  ex : MergedX h₀ L d X as led Rk ln tl b l Dp m cm c M pend St S h' m' cm'
  fine : m' (Str.ofString "fine") = some (.bool true)
  pending : m' (Str.ofString "pending") = some (.ref Dp)
  facts : m' (Str.ofString "facts") = m (Str.ofString "facts")
  pair : m' (Str.ofString "pair") = m (Str.ofString "pair")
  words : cm' (Str.ofString "words") = cm (Str.ofString "words")
  book : cm' (Str.ofString "book") = cm (Str.ofString "book")
  line : cm' (Str.ofString "line") = cm (Str.ofString "line")
  low : cm' (Str.ofString "low") = cm (Str.ofString "low")
theorem l16_ar {t r a : Nat} (h : t + (r + 1) + a ≤ 16) : 2 * r < 900 := by lia
theorem law_15 {d : Dat1} {X : LexP} {as : List Addr} {led Rr Rk : Led} {ln : Int} {tl t1 t2 t3 : Tok} {b l Dp wl Ds Dz : Addr} {vs ps pv wvs sv zv : List Value} {kp kl kd wk ks kz : Nat} {M : List Nat} {q : Nat × Nat} {pend : List (Nat × Nat)} {St : List Nat} {S : Nat → Str} {t : Nat} {c : Int} {Q : Flow → Shared → Prop} {E : Value → Shared → Prop}
    (hB : Below A₀ base [] h₀) (hX : Frag.In (Mine.pb.heap_1 w.params) h₀) (hT : Top p loose mean mg mb h₀) (hd : dp + 40 < recursionLimit) (hu : un + 400 < cLine)
    (S0 : St2 h₀ L s.heap m cm (lexL X ln tl ps kp ++ (led ++ ((l, listOf vs.toArray kl) :: (Dp, listOf pv.toArray kd) :: Rr)))) (hled : led.map (·.1) = as) (DI : Dist (X.adr ++ as)) (O : Off (X.adr ++ as) ((l, listOf vs.toArray kl) :: (Dp, listOf pv.toArray kd) :: Rr)) (oDl : @Ne Nat Dp l) (oD : ∀ p ∈ Rr, p.1 ≠ Dp)
    (B : Bk X as b l vs kl Rr Rk (bookKv St S (nOf M d.low))) (ok : Ok1 d Rk) (mw : (wl, listOf wvs.toArray wk) ∈ Rk) (hw : StrsAre wvs (wordsL d.low)) (LP : LoopP d.fs d.pr d.low M (q :: pend) St S t) (hne : ¬ Rel M q.1 q.2)
    (hps : StrsAre ps (pushL (wordsL d.low) pend)) (hpv : StrsAre pv (pushL (wordsL d.low) pend)) (ms : (Ds, listOf sv.toArray ks) ∈ Rr) (hsv : IntsN sv St) (mz : (Dz, listOf zv.toArray kz) ∈ Rr) (hzv : StrsAre zv ((List.range 5).map S))
    (m1 : m (Str.ofString "mine") = some (.int (nOf M d.low q.1 : Nat) t1)) (m2 : m (Str.ofString "theirs") = some (.int (nOf M d.low q.2 : Nat) t2)) (m3 : m (Str.ofString "merges") = some (.int c t3)) (m4 : m (Str.ofString "stands") = some (.ref Ds)) (m5 : m (Str.ofString "facts") = some (.ref d.fl)) (m6 : m (Str.ofString "pending") = some (.ref Dp))
    (c1 : cm (Str.ofString "words") = some (.ref wl)) (c2 : cm (Str.ofString "book") = some (.ref b)) (c3 : cm (Str.ofString "line") = some (.ref X.lx)) (c4 : cm (Str.ofString "sized") = some (.ref Dz))
    (kont : ∀ (m' cm' : Str → Option Value) (h' : Heap) (tk' : Tok), Merged h₀ L d X as led Rk ln tl b l Dp m cm c (joinM M (bothOf M q)) (pend ++ pushes (joinM M (bothOf M q)) d.fs) (stI St (mergedOf M (bothOf M q))) (fI S (sC d.low ((mergedOf M (bothOf M q)).length % 2 == 1)) (mergedOf M (bothOf M q))) h' m' cm' → Q .next { s with heap := h', toks := tk' }) :
    wpAny (model PySem.Challenge.rw_ti0052_01.prog w) (lawA dp un gd cn L a ccd) (execs inBody (lawEnv cn L a ccd)) Q E s := by
  have hlow := ok.hlow
  have h4 := ok.h4
  have hsm := ok.hsm
  have hq := LP.inv.lt q (List.mem_cons_self ..)
  rw [inBody_eq]
  have sub0 : ∀ p ∈ Rr, p ∈ lexL X ln tl ps kp ++ (led ++ ((l, listOf vs.toArray kl) :: (Dp, listOf pv.toArray kd) :: Rr)) := fun p hp => List.mem_append_right _ (List.mem_append_right _ (.tail _ (.tail _ hp)))
  refine execs_app (law_13a hB hX hT hd hu S0 m1 m2 m3 ?_)
  intro h1 tk1 u1 u2 S1
  rw [both_of] at S1
  dsimp only
  refine execs_app (law_13b (s := { s with heap := h1, toks := tk1 }) hB hX hT hd hu S1 (B.book.mono sub0) (List.mem_append_right _ (List.mem_append_right _ (.head _))) (B.prs.mono sub0) hlow LP (sub0 _ (B.sub _ mw)) hw ((upS_ne (by decide)).trans c2) ((upS_ne (by decide)).trans c1) ?_)
  intro h2 tk2 Dn nv kn S2 hnv
  dsimp only
  refine execs_app (law_13c (s := { s with heap := h2, toks := tk2 }) (q := q) hB hX hT hd hu S2 (.head _) hnv upS_eq ((upS_ne (by decide)).trans upS_eq) ?_)
  intro h3 tk3 u3 Dm mv km S3 hmv hltm
  dsimp only
  have S3 := st2_drop2 S3
  have hltm : ∀ p ∈ lexL X ln tl ps kp ++ (led ++ ((l, listOf vs.toArray kl) :: (Dp, listOf pv.toArray kd) :: Rr)), @LT.lt Nat _ p.1 Dm := fun p hp => hltm p (.tail _ hp)
  refine execs_app (law_14a (s := { s with heap := h3, toks := tk3 }) hB hX hT hd hu S3 (.head _) hmv (.tail _ (sub0 _ mz)) hzv (.tail _ (sub0 _ (B.sub _ mw))) hw hlow ((upS_ne (by decide)).trans upS_eq) upS_eq ((upS_ne (by decide)).trans ((upS_ne (by decide)).trans ((upS_ne (by decide)).trans ((upS_ne (by decide)).trans c4)))) ((upS_ne (by decide)).trans ((upS_ne (by decide)).trans ((upS_ne (by decide)).trans ((upS_ne (by decide)).trans c1)))) ?_)
  intro h5 tk5 Dz5 zv5 kz5 S5 hzv5 hltz
  dsimp only
  have S6 := st2_two S5
  obtain ⟨DI2, O2⟩ := conv1 DI O oDl oD
  have hled2 : ((Dp, listOf pv.toArray kd) :: led).map (·.1) = Dp :: as := by rw [List.map_cons, hled]
  have B2 : Bk X (Dp :: as) b l vs kl Rr Rk (bookKv St S (nOf M d.low)) := ⟨O2, B.ne, B.book, B.prs, B.sub⟩
  have B3 := B2.one (o := listOf mv.toArray km) (ln := ln) (tl := tl) (ps := ps) (kp := kp) (led := (Dp, listOf pv.toArray kd) :: led) hled2 (x := Dm) (lt_cv hltm)
  have B4 := B3.one (o := listOf zv5.toArray kz5) (ln := ln) (tl := tl) (ps := ps) (kp := kp) (led := (Dp, listOf pv.toArray kd) :: led) hled2 (x := Dz5) (lt_cv2 hltz)
  have hml : (mergedOf M (bothOf M q)).length ≤ 5 := by
    unfold mergedOf
    exact Nat.le_trans (List.length_filter_le _ _) (by rw [List.length_range]; exact Nat.le_refl 5)
  have hnb : bothOf M q * 2 ^ d.low < 2 ^ 40 := sh_lt hlow (Nat.or_lt_two_pow (n := 5) (m_lt LP.inv.part hq.1).2 (m_lt LP.inv.part hq.2).2)
  refine execs_app (law_14b (s := { s with heap := h5, toks := tk5 }) (up := ((mergedOf M (bothOf M q)).length % 2 == 1)) hB hX hT hd hu S6 hled2 B4 hlow LP hnb (.tail _ (.head _)) hmv (fun k hk => mg_lt hk) (mg_nodup _ _) hml (.head _) hzv5
    ((upS_ne (by decide)).trans ((upS_ne (by decide)).trans upS_eq)) ((upS_ne (by decide)).trans ((upS_ne (by decide)).trans ((upS_ne (by decide)).trans ((upS_ne (by decide)).trans upS_eq)))) upS_eq ((upS_ne (by decide)).trans ((upS_ne (by decide)).trans ((upS_ne (by decide)).trans ((upS_ne (by decide)).trans ((upS_ne (by decide)).trans c2))))) ?_)
  intro m7 h7 tk7 vs7 kl7 Rr7 S7 B7 hm7
  dsimp only
  rw [book_merged LP] at B7
  have sub7 : ∀ p ∈ Rr7, p ∈ lexL X ln tl ps kp ++ (((Dp, listOf pv.toArray kd) :: led) ++ ((l, listOf vs7.toArray kl7) :: Rr7)) := fun p hp => List.mem_append_right _ (List.mem_append_right _ (.tail _ hp))
  have q7 : ∀ p ∈ Rr, p ∈ Rr7 := fun p hp => B7.sub p (.tail _ (.tail _ hp))
  refine execs_app (law_14c (s := { s with heap := h7, toks := tk7 }) hB hX hT hd hu S7 (sub7 _ (B7.sub _ (.tail _ (.head _)))) hmv (sub7 _ (q7 _ ms)) hsv LP.len hml ((upS_ne (by decide)).trans ((upS_ne (by decide)).trans upS_eq)) ((hm7 _ (by decide)).trans ((if_neg (by decide)).trans m4)) ?_)
  intro h8 tk8 Ds8 sv8 S8 hsv8 hlts
  dsimp only
  have S8 := st2_in S8
  have B8 := B7.one (o := listOf sv8.toArray 0) (ln := ln) (tl := tl) (ps := ps) (kp := kp) hled2 hlts
  have S9 := st2_cv2 S8
  obtain ⟨O9, oDl9, oD9⟩ := conv2 (o := listOf pv.toArray kd) DI2 B8.off
  have LP2 := LP.merge (up := ((mergedOf M (bothOf M q)).length % 2 == 1)) hlow hsm h4 hne
  obtain ⟨p1, p2, p3, p4, p5, p6, p7, p8, p9, p10, p11, p12, p13, e8⟩ := iseg8
  rw [e8]
  have q9 : ∀ p ∈ Rk, p ∈ (Ds8, listOf sv8.toArray 0) :: Rr7 := fun p hp => .tail _ (q7 p (B.sub p hp))
  have lps : ps.length < 900 := by
    have := LP.cnt
    rw [strsAre_len hps, pushL_len]
    rw [List.length_cons] at this
    exact l16_ar this
  have lpv : pv.length < 900 := by rw [strsAre_len hpv, ← strsAre_len hps]; exact lps
  refine law_9 (s := { s with heap := h8, toks := tk8 }) hB hX hT hd hu S9 hled DI O9 oDl9 oD9 B8.book B8.prs (q9 _ mw) hw (q9 _ ok.mfl) (ok.FI.mono q9) h4 hsm (LP2.tells hlow) (LP2.round hlow) lps lpv
    ((upS_ne (by decide)).trans ((upS_ne (by decide)).trans ((upS_ne (by decide)).trans ((upS_ne (by decide)).trans ((upS_ne (by decide)).trans c1))))) ((upS_ne (by decide)).trans ((upS_ne (by decide)).trans ((upS_ne (by decide)).trans ((upS_ne (by decide)).trans ((upS_ne (by decide)).trans c2))))) ((upS_ne (by decide)).trans ((upS_ne (by decide)).trans ((upS_ne (by decide)).trans ((upS_ne (by decide)).trans ((upS_ne (by decide)).trans c3)))))
    ((if_neg (by decide)).trans ((hm7 _ (by decide)).trans ((if_neg (by decide)).trans m5))) ((if_neg (by decide)).trans ((hm7 _ (by decide)).trans ((if_neg (by decide)).trans m6))) ?_
  intro m9 h9 tk9 puv kp9 kd9 S10 hpuv f1 f2 f3
  rw [push_all _ _ h4] at hpuv
  have O10 : Off (X.adr ++ as) ((l, listOf vs7.toArray kl7) :: (Dp, listOf (pv ++ puv).toArray kd9) :: (Ds8, listOf sv8.toArray 0) :: Rr7) := (conv2 DI2 B8.off).1
  have B10 : Bk X as b l vs7 kl7 ((Ds8, listOf sv8.toArray 0) :: Rr7) Rk (bookKv (stI St (mergedOf M (bothOf M q))) (fI S (sC d.low ((mergedOf M (bothOf M q)).length % 2 == 1)) (mergedOf M (bothOf M q))) (nOf (joinM M (bothOf M q)) d.low)) :=
    ⟨fun p hp a ha => B8.off p hp a ((List.mem_append.mp ha).elim (List.mem_append_left _) fun ha => List.mem_append_right _ (.tail _ ha)), B8.ne, B8.book, B8.prs, q9⟩
  have go : ∀ y, y ≠ Str.ofString "fine" → y ≠ Str.ofString "more" → y ≠ Str.ofString "pending" → y ≠ Str.ofString "stands" → y ≠ Str.ofString "k" → y ≠ Str.ofString "merges" → m9 y = m y := fun y a1 a2 a3 a4 a5 a6 => (f3 y a1 a2 a3).trans ((if_neg a4).trans ((hm7 y a5).trans (if_neg a6)))
  have gc : ∀ y, y ≠ Str.ofString "sized" → y ≠ Str.ofString "great" → y ≠ Str.ofString "merged" → y ≠ Str.ofString "numbers" → y ≠ Str.ofString "both" → upS (upS (upS (upS (upS cm (Str.ofString "both") (.int ((bothOf M q * 2 ^ d.low : Nat) : Int) u2)) (Str.ofString "numbers") (.ref Dn)) (Str.ofString "merged") (.ref Dm)) (Str.ofString "great") (.int (((mergedOf M (bothOf M q)).length : Int).fmod 2) u3)) (Str.ofString "sized") (.ref Dz5) y = cm y := fun y a1 a2 a3 a4 a5 =>
    (upS_ne a1).trans ((upS_ne a2).trans ((upS_ne a3).trans ((upS_ne a4).trans (upS_ne a5))))
  refine kont m9 _ h9 tk9 ⟨⟨ps ++ puv, pv ++ puv, vs7, sv8, zv5, kp9, kd9, kl7, 0, kz5, Ds8, Dz5, (Ds8, listOf sv8.toArray 0) :: Rr7, u1, S10, O10, oDl9, oD9, B10, by rw [pushL_app]; exact strsAre_app hps hpuv, by rw [pushL_app]; exact strsAre_app hpv hpuv, .head _, hsv8, .tail _ (B7.sub _ (.head _)), hzv5, ?_, ?_, upS_eq⟩, f1, f2, ?_, ?_, ?_, ?_, ?_, ?_⟩
  · exact (f3 _ (by decide) (by decide) (by decide)).trans ((if_neg (by decide)).trans ((hm7 _ (by decide)).trans (if_pos rfl)))
  · exact (f3 _ (by decide) (by decide) (by decide)).trans (if_pos rfl)
  · exact go _ (by decide) (by decide) (by decide) (by decide) (by decide) (by decide)
  · exact go _ (by decide) (by decide) (by decide) (by decide) (by decide) (by decide)
  · exact gc _ (by decide) (by decide) (by decide) (by decide) (by decide)
  · exact gc _ (by decide) (by decide) (by decide) (by decide) (by decide)
  · exact gc _ (by decide) (by decide) (by decide) (by decide) (by decide)
  · exact gc _ (by decide) (by decide) (by decide) (by decide) (by decide)
end
end Mine
end
section
open PySem PySem.W PyProof.Rows PySem.Calls PySem.Spec
set_option Elab.async false
set_option maxRecDepth 100000
set_option maxHeartbeats 0
namespace Mine
section
variable {w : World} {p : Program} {loose : List Str} {mean : ExcName → Option Value} {mg mb : Str → Option Value} {dp un : Nat} {gd : Option (List Code)} {cn : Str} {a : Addr} {ccd : Value} {A₀ : Around} {base h₀ : Heap} {L : Addr} {m cm : Str → Option Value} {s : Shared} {W1 : Led}
theorem law_if {n1 n2 : Nat} {t1 t2 : Tok} {Q : Flow → Shared → Prop} {E : Value → Shared → Prop}
    (hB : Below A₀ base [] h₀) (hX : Frag.In (Mine.pb.heap_1 w.params) h₀) (hT : Top p loose mean mg mb h₀) (hd : dp + 40 < recursionLimit) (hu : un + 400 < cLine)
    (S0 : St2 h₀ L s.heap m cm W1) (hm1 : m (Str.ofString "mine") = some (.int (n1 : Nat) t1)) (hm2 : m (Str.ofString "theirs") = some (.int (n2 : Nat) t2))
    (k1 : n1 ≠ n2 → ∀ (h' : Heap) (tk' : Tok), St2 h₀ L h' m cm W1 → wpAny (model PySem.Challenge.rw_ti0052_01.prog w) (lawA dp un gd cn L a ccd) (execs inBody (lawEnv cn L a ccd)) Q E { s with heap := h', toks := tk' })
    (k2 : n1 = n2 → ∀ (h' : Heap) (tk' : Tok), St2 h₀ L h' m cm W1 → Q .next { s with heap := h', toks := tk' }) :
    wpAny (model PySem.Challenge.rw_ti0052_01.prog w) (lawA dp un gd cn L a ccd) (execs (bseg 5 1) (lawEnv cn L a ccd)) Q E s := by
  revert hX; k_fill; intro hX
  obtain ⟨F, ⟨CK, N, HC⟩, hR2⟩ := S0
  show wpAny _ _ (execs [_] _) _ _ _
  (show (let V := _; let A9 := _; wpAny _ A9 (execs _ V) _ _ _)); intro V A9
  wtm_at "mQ"
  (k_here; k_dflt (refine' Mine.c_eq _ _ _ _ _ _ _ _ _ _ _ _ _ _ _ _ _ ?k1z167 ?k2z167 ?k3z167 ?k4z167 ?k5z167 ?kKz167 ?kdz167 ?kuz167 ?kRz167; (case k1z167 => k_asm); (case k2z167 => k_asm); (case k3z167 => k_asm); (case k4z167 => k_asm); (case k5z167 => k_asm); (case kKz167 => first | exact rfl | assumption); (case kdz167 => wtm_at "mRM"); (case kuz167 => wtm_at "mRU")))
  refine Mine.out0 ?_
  intro h9 tk9 F9 N9
  by_cases e : n1 = n2
  · rw [show (((n1 : Nat) : Int) == ((n2 : Nat) : Int)) = true by rw [e]; exact beq_self_eq_true _]
    try dsimp only
    try k_fold
    repeat' ((fail_if_success (with_reducible show wpAny _ _ (execs [_, _, _, _, _, _, _, _, _, _] _) ..)); wtm_at "mNOLOOP"; wtm_at "mSTEQ")
    exact k2 e _ _ ⟨F9, ⟨CK, N9, HC⟩, hR2⟩
  · rw [show (((n1 : Nat) : Int) == ((n2 : Nat) : Int)) = false by rw [beq_eq_false_iff_ne, ne_eq, Int.ofNat_inj]; exact e]
    try dsimp only
    try k_fold
    repeat' ((fail_if_success (with_reducible show wpAny _ _ (execs [_, _, _, _, _, _, _, _, _, _] _) ..)); wtm_at "mNOLOOP"; wtm_at "mSTEQ")
    refine wpAny_mono (k1 e _ _ ⟨F9, ⟨CK, N9, HC⟩, hR2⟩) (fun f s' hf => ?_) fun _ _ e => e
    k_unfold
    cases f with
    | next => exact wpAny_pure hf
    | _ => exact hf
theorem conv3 {X : LexP} {as : List Addr} {led R CK : Led} {I : Addr} {ln : Int} {tl : Tok} {ps : List Value} {k : Nat} (HC : CellsAre cm (lawCl L) CK) (hl : led.map (·.1) = as) (DI : Dist (X.adr ++ as)) (O : Off (X.adr ++ as) R) (h : ∀ p ∈ CK ++ (lexL X ln tl ps k ++ (led ++ R)), p.1 ≠ I) :
    Dist (X.adr ++ (I :: as)) ∧ Off (X.adr ++ (I :: as)) R ∧ I ∉ (lawCl L).map (·.2) := by
  obtain ⟨d1, d2, d3⟩ := List.pairwise_append.mp DI
  have hx : ∀ a ∈ X.adr ++ as, @Ne Nat a I := fun a ha => by
    have : a ∈ (lexL X ln tl ps k ++ led).map (·.1) := by rw [List.map_append, hl]; exact ha
    obtain ⟨q, hq, rfl⟩ := List.mem_map.mp this
    exact h q (List.mem_append_right _ (by rw [← List.append_assoc]; exact List.mem_append_left _ hq))
  refine ⟨List.pairwise_append.mpr ⟨d1, List.pairwise_cons.mpr ⟨fun a ha => Ne.symm (hx a (List.mem_append_right _ ha)), d2⟩, fun a ha x hx2 => ?_⟩, fun p hp a ha => ?_, fun hi => ?_⟩
  · rcases List.mem_cons.mp hx2 with rfl | hx2
    · exact hx a (List.mem_append_left _ ha)
    · exact d3 a ha x hx2
  · rcases List.mem_append.mp ha with ha | ha
    · exact O p hp a (List.mem_append_left _ ha)
    · rcases List.mem_cons.mp ha with rfl | ha
      · exact h p (List.mem_append_right _ (List.mem_append_right _ (List.mem_append_right _ hp)))
      · exact O p hp a (List.mem_append_right _ ha)
  · rw [← cells_adr HC] at hi
    obtain ⟨q, hq, e⟩ := List.mem_map.mp hi
    exact h q (List.mem_append_left _ hq) e
theorem conv4 {X : LexP} {as : List Addr} {led R CK : Led} {I : Addr} {ln : Int} {tl : Tok} {ps : List Value} {k : Nat} (HC : CellsAre cm (lawCl L) CK) (hl : led.map (·.1) = as) (DI : Dist (X.adr ++ (I :: as))) (O : Off (X.adr ++ (I :: as)) R) (hI : I ∉ (lawCl L).map (·.2)) :
    ∀ p ∈ CK ++ (lexL X ln tl ps k ++ (led ++ R)), p.1 ≠ I := fun p hp e => by
  obtain ⟨d1, d2, d3⟩ := List.pairwise_append.mp DI
  rcases List.mem_append.mp hp with hp | hp
  · refine hI ?_
    rw [← cells_adr HC]
    exact List.mem_map.mpr ⟨p, hp, e⟩
  · rcases List.mem_append.mp hp with hp | hp
    · exact d3 p.1 (List.mem_map.mpr ⟨p, hp, rfl⟩ : p.1 ∈ (lexL X ln tl ps k).map (·.1)) I (.head _) e
    · rcases List.mem_append.mp hp with hp | hp
      · exact (List.pairwise_cons.mp d2).1 p.1 (hl ▸ List.mem_map.mpr ⟨p, hp, rfl⟩) e.symm
      · exact O p hp I (List.mem_append_right _ (.head _)) e
theorem news_it {h : Heap} {q : Addr × Obj} {CK A B R : Led} (N : News h₀ L h (q :: (CK ++ (A ++ (B ++ R))))) : News h₀ L h (CK ++ (A ++ ((q :: B) ++ R))) := news_sub N fun p hp => by
  exact Mine.sub_at hp (by wtm_at "per")
theorem news_it2 {h : Heap} {q : Addr × Obj} {CK A B R : Led} (N : News h₀ L h (CK ++ (A ++ ((q :: B) ++ R)))) : News h₀ L h (q :: (CK ++ (A ++ (B ++ R)))) := news_sub N fun p hp => by
  exact Mine.sub_at hp (by wtm_at "per")
inductive LoopSX (h₀ : Heap) (L : Addr) (d : Dat1) (X : LexP) (as : List Addr) (led Rk : Led) (ln : Int) (tl : Tok) (b l wl : Addr) (tlow : Tok) (M : List Nat) (pend : List (Nat × Nat)) (St : List Nat) (S : Nat → Str) (nn : Led) (m : Str → Option Value) : Prop
  | mk (CK : Led) (cm : Str → Option Value) (ps pv vs sv zv : List Value) (kp kd kl ks kz : Nat) (Dp Ds Dz : Addr) (Rr : Led) (tm : Tok) : nn = CK ++ (lexL X ln tl ps kp ++ (led ++ ((l, listOf vs.toArray kl) :: Rr))) → CellsAre cm (lawCl L) CK → (∀ p ∈ lexL X ln tl ps kp ++ (led ++ ((l, listOf vs.toArray kl) :: Rr)), p.1 ∉ (lawCl L).map (·.2)) → Bk X as b l vs kl Rr Rk (bookKv St S (nOf M d.low)) → StrsAre ps (pushL (wordsL d.low) pend) → StrsAre pv (pushL (wordsL d.low) pend) → (Dp, listOf pv.toArray kd) ∈ Rr → (Ds, listOf sv.toArray ks) ∈ Rr → IntsN sv St → (Dz, listOf zv.toArray kz) ∈ Rr → StrsAre zv ((List.range 5).map S) → m (Str.ofString "merges") = some (.int (5 - (ncl M : Int)) tm) → m (Str.ofString "stands") = some (.ref Ds) → cm (Str.ofString "sized") = some (.ref Dz) → m (Str.ofString "pending") = some (.ref Dp) → cm (Str.ofString "words") = some (.ref wl) → cm (Str.ofString "book") = some (.ref b) → cm (Str.ofString "line") = some (.ref X.lx) → cm (Str.ofString "low") = some (.int (d.low : Int) tlow) → LoopSX h₀ L d X as led Rk ln tl b l wl tlow M pend St S nn m
structure LoopS (h₀ : Heap) (L : Addr) (d : Dat1) (X : LexP) (as : List Addr) (led Rk : Led) (ln : Int) (tl : Tok) (b l wl : Addr) (tlow : Tok) (M : List Nat) (pend : List (Nat × Nat)) (St : List Nat) (S : Nat → Str) (nn : Led) (m : Str → Option Value) : Prop where
  ex : LoopSX h₀ L d X as led Rk ln tl b l wl tlow M pend St S nn m
  fine : m (Str.ofString "fine") = some (.bool true)
  facts : m (Str.ofString "facts") = some (.ref d.fl)
  pair : m (Str.ofString "pair") = some (.ref d.pa)
end
end Mine
end
section
open PySem PySem.W PyProof.Rows PySem.Calls PySem.Spec
set_option Elab.async false
set_option maxRecDepth 100000
set_option maxHeartbeats 0
namespace Mine
theorem Bk.weak {X : LexP} {as : List Addr} {I b l : Addr} {vs : List Value} {k : Nat} {Rr Rk : Led} {kvs : List (Str × Str)} (B : Bk X (I :: as) b l vs k Rr Rk kvs) : Bk X as b l vs k Rr Rk kvs :=
  ⟨fun p hp a ha => B.off p hp a ((List.mem_append.mp ha).elim (List.mem_append_left _) fun ha => List.mem_append_right _ (.tail _ ha)), B.ne, B.book, B.prs, B.sub⟩
theorem cells_it {A B R : Led} {I : Addr} {it : Obj} {c : List Addr} (h : ∀ p ∈ A ++ (B ++ R), p.1 ∉ c) (hI : I ∉ c) : ∀ p ∈ A ++ (((I, it) :: B) ++ R), p.1 ∉ c := fun p hp => by
  rcases List.mem_append.mp hp with hp | hp
  · exact h p (List.mem_append_left _ hp)
  · rcases List.mem_cons.mp hp with rfl | hp
    · exact hI
    · exact h p (List.mem_append_right _ hp)
theorem cells_un {A B R : Led} {q : Addr × Obj} {c : List Addr} (h : ∀ p ∈ A ++ ((q :: B) ++ R), p.1 ∉ c) : ∀ p ∈ A ++ (B ++ R), p.1 ∉ c := fun p hp => h p (by
  rcases List.mem_append.mp hp with hp | hp
  · exact List.mem_append_left _ hp
  · exact List.mem_append_right _ (.tail _ hp))
theorem strs_two {ps : List Value} {w1 w2 : Str} {ws : List Str} (h : StrsAre ps (w1 :: w2 :: ws)) : ∃ u1 u2 ps2, ps = .str w1 u1 :: .str w2 u2 :: ps2 ∧ StrsAre ps2 ws := by
  cases h with
  | cons _ u1 h => cases h with
    | cons _ u2 h => exact ⟨u1, u2, _, rfl, h⟩
theorem strs_twoV {ps : List Value} {w1 w2 : Str} {ws : List Str} (h : StrsAre ps (w1 :: w2 :: ws)) : ∃ x1 x2 ps2, ps = x1 :: x2 :: ps2 ∧ StrsAre ps2 ws := by
  obtain ⟨u1, u2, ps2, e, h2⟩ := strs_two h
  exact ⟨_, _, ps2, e, h2⟩
theorem bk_dp {X : LexP} {as : List Addr} {b l x : Addr} {vs : List Value} {k : Nat} {Rr Rk : Led} {kvs : List (Str × Str)} {o : Obj} (O : Off (X.adr ++ as) ((l, listOf vs.toArray k) :: (x, o) :: Rr)) (h : @Ne Nat x l) (B : Bk X as b l vs k Rr Rk kvs) : Bk X as b l vs k ((x, o) :: Rr) Rk kvs :=
  ⟨O, fun p hp => by
    rcases List.mem_cons.mp hp with rfl | hp
    · exact h
    · exact B.ne p hp, B.book.mono fun p hp => .tail _ hp, B.prs.mono fun p hp => .tail _ hp, fun p hp => .tail _ (B.sub p hp)⟩
section
variable {w : World} {p : Program} {loose : List Str} {mean : ExcName → Option Value} {mg mb : Str → Option Value} {dp un : Nat} {gd : Option (List Code)} {cn : Str} {a : Addr} {ccd : Value} {A₀ : Around} {base h₀ : Heap} {L : Addr} {m cm : Str → Option Value} {s : Shared}
theorem assign_loc {M : Model} {A : Around} {E : Value → Shared → Prop} {env : Env} {y : Str} {pos : Pos} {v : Value} {news : Led} {Q : Unit → Shared → Prop} (F : Fr h₀ env.locals s.heap m) (N : News h₀ env.locals s.heap news) (h : ∀ h', Fr h₀ env.locals h' (fun z => if z = y then some v else m z) → News h₀ env.locals h' news → Q () { s with heap := h', toks := s.toks + 1 })
    (hy : env.kindOf y = some .local := by rfl) (hp' : (env.scope.kind == .class || (env.scope.kind == .module && env.locals != env.globals)) = false := by rfl) : wpAny M A (assign (.Name y pos) env v) Q E s :=
  wpAny_assign_Name (wpAny_storeName_local hy F.ns (fun h₂ hn₂ hs₂ => h h₂ (F.set hn₂ hs₂) (N.set hs₂)) hp')
theorem law_16 {d : Dat1} {X : LexP} {as : List Addr} {led Rk nn : Led} {ln : Int} {tl tlow : Tok} {b l wl : Addr} {wvs : List Value} {wk : Nat} {M : List Nat} {pend : List (Nat × Nat)} {St : List Nat} {S : Nat → Str} {Q : Flow → Shared → Prop} {E : Value → Shared → Prop}
    (hB : Below A₀ base [] h₀) (hX : Frag.In (Mine.pb.heap_1 w.params) h₀) (hT : Top p loose mean mg mb h₀) (hd : dp + 40 < recursionLimit) (hu : un + 400 < cLine)
    (F : Fr h₀ L s.heap m) (N : News h₀ L s.heap nn) (hled : led.map (·.1) = as) (DI : Dist (X.adr ++ as)) (ok : Ok1 d Rk) (mw : (wl, listOf wvs.toArray wk) ∈ Rk) (hw : StrsAre wvs (wordsL d.low))
    (LS : LoopS h₀ L d X as led Rk ln tl b l wl tlow M pend St S nn m) (LP : LoopP d.fs d.pr d.low M pend St S 0)
    (kont : ∀ (m' : Str → Option Value) (h' : Heap) (tk' : Tok) (nn' : Led) (M : List Nat) (St : List Nat) (S : Nat → Str) (t : Nat), Fr h₀ L h' m' → News h₀ L h' nn' → LoopS h₀ L d X as led Rk ln tl b l wl tlow M [] St S nn' m' → LoopP d.fs d.pr d.low M [] St S t → Q .next { s with heap := h', toks := tk' }) :
    wpAny (model PySem.Challenge.rw_ti0052_01.prog w) (lawA dp un gd cn L a ccd) (execs (seg 20 1) (lawEnv cn L a ccd)) Q E s := by
  revert hX; k_fill; intro hX
  have hlow := ok.hlow
  have h4 := ok.h4
  have hsm := ok.hsm
  show wpAny _ _ (execs [_] _) _ _ _
  (show (let V := _; let A9 := _; wpAny _ A9 (execs _ V) _ _ _)); intro V A9
  wtm_at "mQ"
  refine wpAny_For ?_
  wtm_at "mQ"
  rename IsRange _ _ _ _ _ _ _ _ => hRg
  rename News _ _ _ _ => N2
  rename Fr _ _ _ _ => F2
  try dsimp only
  refine for_KB (n := 16) (src_range hRg (by decide) (by decide)) F2 N2 (fun t mm nn => ∃ (M : List Nat) (pend : List (Nat × Nat)) (St : List Nat) (S : Nat → Str), LoopS h₀ L d X as led Rk ln tl b l wl tlow M pend St S nn mm ∧ LoopP d.fs d.pr d.low M pend St S t) ⟨M, pend, St, S, LS, LP⟩ ?turn ?done
  case turn =>
    intro E1 K I it t v mm nn h7 tk7 ht hv hsub hoffI F3 N3 hn hbk hJ
    clear F2 N2 LS LP
    (first | (with_reducible show wpAny _ _ _ _ _ _; generalize hGoal168 : wpAny _ _ _ _ _ _ = Goal168) | (dsimp only; with_reducible show wpAny _ _ _ _ _ _; generalize hGoal168 : wpAny _ _ _ _ _ _ = Goal168) | (generalize hGoal168 : True = Goal168))
    obtain ⟨tv, rfl⟩ := hv
    obtain ⟨M, pend, St, S, ⟨⟨CK, cm, ps, pv, vs, sv, zv, kp, kd, kl, ks, kz, Dp, Ds, Dz, Rr, tm, rfl, HC, hcc, B, hps, hpv, mDp, mDs, hsv, mDz, hzv, n1, n2, n3, n4, c1, c2, c3, c4⟩, e1, e2, e3⟩, LP⟩ := hJ
    obtain ⟨DI2, O2, hI⟩ := conv3 HC hled DI B.off hoffI
    have hled2 : ((I, it) :: led).map (·.1) = I :: as := by rw [List.map_cons, hled]
    have B2 : Bk X (I :: as) b l vs kl Rr Rk (bookKv St S (nOf M d.low)) := ⟨O2, B.ne, B.book, B.prs, B.sub⟩
    have hcc2 : ∀ p ∈ lexL X ln tl ps kp ++ (((I, it) :: led) ++ ((l, listOf vs.toArray kl) :: Rr)), p.1 ∉ (lawCl L).map (·.2) := cells_it hcc hI
    subst hGoal168
    refine assign_loc F3 N3 fun h8 F8 N8 => ?_
    clear F3 N3
    have F8 : Fr h₀ L h8 _ := F8
    have N8 := news_it (A := lexL X ln tl ps kp) N8
    show wpAny _ _ (execs loopBody (lawEnv cn L a ccd)) K E1 _
    rw [loopBody_eq]
    cases pend with
    | nil =>
      cases hpv
      refine execs_app (law_11n (s := { s with heap := h8, toks := tk7 + 1 }) hB hX hT hd hu F8 N8 (List.mem_append_right _ (List.mem_append_right _ (List.mem_append_right _ (.tail _ mDp)))) n4 ?_)
      intro h9 tk9 F9 N9
      exact hbk _ (wpAny_pure (kont _ _ _ _ M St S t F9 (news_drop (news_it2 N9)) ⟨⟨CK, cm, ps, [], vs, sv, zv, kp, kd, kl, ks, kz, Dp, Ds, Dz, Rr, tm, rfl, HC, hcc, B, hps, .nil, mDp, mDs, hsv, mDz, hzv, n1, n2, n3, n4, c1, c2, c3, c4⟩, e1, e2, e3⟩ LP))
    | cons q r =>
      have hq := LP.inv.lt q (List.mem_cons_self ..)
      have hps : StrsAre ps (lwOf (wordsL d.low) q.1 :: lwOf (wordsL d.low) q.2 :: pushL (wordsL d.low) r) := hps
      have hpv : StrsAre pv (lwOf (wordsL d.low) q.1 :: lwOf (wordsL d.low) q.2 :: pushL (wordsL d.low) r) := hpv
      obtain ⟨u1, u2, ps2, rfl, hps2⟩ := strs_two hps
      obtain ⟨x1, x2, pv2, rfl, hpv2⟩ := strs_twoV hpv
      have hlen : ps2.length < 900 ∧ pv2.length < 900 := by
        have := LP.cnt
        rw [List.length_cons] at this
        rw [strsAre_len hps2, strsAre_len hpv2, pushL_len]
        lia
      refine execs_app (law_11a (s := { s with heap := h8, toks := tk7 + 1 }) hB hX hT hd hu ⟨F8, ⟨CK, N8, HC⟩, hcc2⟩ hled2 DI2 O2 B.ne mDp hpv (pushL_sok hlow LP.inv.lt) hlen c3 n4 e1 ?_)
      intro m9 h9 tk9 t1 t2 Dn kp9 S9 O9 oDl9 oD9 f1 f2 f3 f4
      dsimp only
      obtain ⟨F9, ⟨CK9, N9, HC9⟩, hc9⟩ := S9
      have up : ∀ p ∈ Rr, p ∈ CK9 ++ (lexL X ln tl ps2 kp9 ++ (((I, it) :: led) ++ ((l, listOf vs.toArray kl) :: (Dn, listOf pv2.toArray 0) :: Rr))) := fun p hp => List.mem_append_right _ (List.mem_append_right _ (List.mem_append_right _ (.tail _ (.tail _ hp))))
      refine execs_app (law_12 (s := { s with heap := h9, toks := tk9 }) (j1 := q.1) (j2 := q.2) hB hX hT hd hu F9 N9 HC9 (fun p hp => List.mem_append_left _ hp) (B.book.mono up) (List.mem_append_right _ (List.mem_append_right _ (List.mem_append_right _ (.head _)))) (B.prs.mono up) hlow LP hq.1 hq.2 (lw_word hq.1) (lw_word hq.2) c2 f2 f3 ?_)
      intro m10 h10 tk10 v1 v2 F10 N10 g1 g2 g3
      dsimp only
      have go : ∀ y, y ≠ Str.ofString "mine" → y ≠ Str.ofString "theirs" → y ≠ Str.ofString "pending" → y ≠ Str.ofString "one" → y ≠ Str.ofString "other" → y ≠ Str.ofString "_" → m10 y = mm y := fun y a1 a2 a3 a4 a5 a6 => (g3 y a1 a2).trans ((f4 y a3 a4 a5).trans (if_neg a6))
      have g4 : m10 (Str.ofString "pending") = some (.ref Dn) := (g3 _ (by decide) (by decide)).trans f1
      have g5 := (go _ (by decide) (by decide) (by decide) (by decide) (by decide) (by decide)).trans n1
      have g6 := (go _ (by decide) (by decide) (by decide) (by decide) (by decide) (by decide)).trans n2
      have g7 := (go _ (by decide) (by decide) (by decide) (by decide) (by decide) (by decide)).trans e1
      have g8 := (go _ (by decide) (by decide) (by decide) (by decide) (by decide) (by decide)).trans e2
      have g9 := (go _ (by decide) (by decide) (by decide) (by decide) (by decide) (by decide)).trans e3
      clear go g3 f4 F9 N9
      refine law_if (s := { s with heap := h10, toks := tk10 }) hB hX hT hd hu ⟨F10, ⟨CK9, N10, HC9⟩, hc9⟩ g1 g2 ?_ ?_
      · intro hne h11 tk11 S11
        have hne2 : ¬ Rel M q.1 q.2 := fun e => hne (by unfold nOf; rw [e])
        refine law_15 (s := { s with heap := h11, toks := tk11 }) hB hX hT hd hu S11 hled2 DI2 O9 oDl9 oD9 B2 ok mw hw LP hne2 hps2 hpv2 mDs hsv mDz hzv g1 g2 g5 g6 g8 g4 c1 c2 c3 n3 ?_
        intro m12 cm12 h12 tk12 MM
        obtain ⟨ps3, pv3, vs3, sv3, zv3, kp3, kd3, kl3, ks3, kz3, Ds3, Dz3, Rr3, tm3, ⟨F12, ⟨CK12, N12, HC12⟩, hc12⟩, O12, oDl12, oD12, B12, hps3, hpv3, mDs3, hsv3, mDz3, hzv3, k1, k2, k3⟩ := MM.ex
        have J := (parts_join M LP.inv.part ⟨q.1, hq.1⟩ ⟨q.2, hq.2⟩ hne2).2.1
        have hnc : (5 - (ncl M : Int)) + 1 = 5 - (ncl (joinM M (bothOf M q)) : Int) := by
          have J : ncl (joinM M (bothOf M q)) + 1 = ncl M := J
          lia
        rw [hnc] at k1
        have BB := bk_dp O12 oDl12 B12
        refine hn m12 _ _ _ ⟨_, _, _, _, ⟨⟨CK12, cm12, ps3, pv3, vs3, sv3, zv3, kp3, kd3, kl3, ks3, kz3, Dn, Ds3, Dz3, (Dn, listOf pv3.toArray kd3) :: Rr3, tm3, rfl, HC12, cells_un hc12, BB.weak, hps3, hpv3, .head _, .tail _ mDs3, hsv3, .tail _ mDz3, hzv3, k1, k2, k3, MM.pending, MM.words.trans c1, MM.book.trans c2, MM.line.trans c3, MM.low.trans c4⟩, MM.fine, MM.facts.trans g8, MM.pair.trans g9⟩, LP.merge hlow hsm h4 hne2⟩ (fun p hp => nomatch hp) F12 (news_it2 N12) (conv4 HC12 hled DI2 O12 hI)
      · intro heq h11 tk11 S11
        have heq2 : Rel M q.1 q.2 := sh_inj.mp heq
        obtain ⟨F12, ⟨CK12, N12, HC12⟩, hc12⟩ := S11
        have BB := bk_dp O9 oDl9 B2
        refine hn m10 _ _ _ ⟨_, _, _, _, ⟨⟨CK12, cm, ps2, pv2, vs, sv, zv, kp9, 0, kl, ks, kz, Dn, Ds, Dz, (Dn, listOf pv2.toArray 0) :: Rr, tm, rfl, HC12, cells_un hc12, BB.weak, hps2, hpv2, .head _, .tail _ mDs, hsv, .tail _ mDz, hzv, g5, g6, n3, g4, c1, c2, c3, c4⟩, g7, g8, g9⟩, LP.skip heq2⟩ (fun p hp => nomatch hp) F12 (news_it2 N12) (conv4 HC12 hled DI2 O9 hI)
  case done =>
    intro E1 mm nn h7 tk7 hJ hsub F8 N8
    clear F2 N2 LS LP
    (first | (with_reducible show wpAny _ _ _ _ _ _; generalize hGoal169 : wpAny _ _ _ _ _ _ = Goal169) | (dsimp only; with_reducible show wpAny _ _ _ _ _ _; generalize hGoal169 : wpAny _ _ _ _ _ _ = Goal169) | (generalize hGoal169 : True = Goal169))
    obtain ⟨M, pend, St, S, LS, LP⟩ := hJ
    obtain rfl : pend = [] := List.eq_nil_of_length_eq_zero (by have := LP.cnt; lia)
    subst hGoal169
    wtm_at "mQ"
    exact kont _ _ _ _ M St S 16 F8 N8 LS LP
end
end Mine
end
section
open PySem PySem.W PyProof.Rows PySem.Calls PySem.Spec
set_option Elab.async false
set_option maxRecDepth 100000
set_option maxHeartbeats 0
namespace Mine
structure NumsIn (r : Led) (ys : List Value) (rows : List (List Nat)) : Prop where
  len : ys.length = rows.length
  at_ : ∀ (i : Nat) (row : List Nat), rows[i]? = some row → ∃ (t : Addr) (vs : List Value) (k : Nat), ys[i]? = some (Value.ref t) ∧ (t, listOf vs.toArray k) ∈ r ∧ IntsN vs row
theorem NumsIn.mono {r r' : Led} {ys : List Value} {rows : List (List Nat)} (h : NumsIn r ys rows) (s : ∀ p ∈ r, p ∈ r') : NumsIn r' ys rows :=
  ⟨h.len, fun i row e => by obtain ⟨t, vs, k, a, b, c⟩ := h.at_ i row e; exact ⟨t, vs, k, a, s _ b, c⟩⟩
theorem NumsIn.snoc {r r' : Led} {ys : List Value} {rows : List (List Nat)} {t : Addr} {vs : List Value} {k : Nat} {row : List Nat} (h : NumsIn r ys rows) (hm : (t, listOf vs.toArray k) ∈ r') (hv : IntsN vs row) (hs : ∀ p ∈ r, p ∈ r') : NumsIn r' (ys ++ [Value.ref t]) (rows ++ [row]) :=
  ⟨by rw [List.length_append, List.length_append, h.len]; rfl, fun i g e => by
    rcases Nat.lt_trichotomy i rows.length with hi | hi | hi
    · rw [List.getElem?_append_left hi] at e
      obtain ⟨t', vs', k', a, b, c⟩ := h.at_ i g e
      exact ⟨t', vs', k', by rw [List.getElem?_append_left (by rw [h.len]; exact hi)]; exact a, hs _ b, c⟩
    · subst hi
      rw [List.getElem?_append_right (Nat.le_refl _), Nat.sub_self] at e
      cases e
      exact ⟨t, vs, k, by rw [← h.len, List.getElem?_append_right (Nat.le_refl _), Nat.sub_self]; rfl, hm, hv⟩
    · rw [List.getElem?_eq_none (by rw [List.length_append]; exact hi)] at e
      cases e⟩
theorem news_c4 {h₀ h : Heap} {L : Addr} {c d i x : Addr × Obj} {R : Led} (N : News h₀ L h (c :: d :: i :: x :: R)) : News h₀ L h (x :: c :: d :: i :: R) := news_sub N fun p hp => by
  exact Mine.sub_at hp (by wtm_at "per")
theorem news_c4' {h₀ h : Heap} {L : Addr} {c d i x : Addr × Obj} {R : Led} (N : News h₀ L h (x :: c :: d :: i :: R)) : News h₀ L h (c :: d :: i :: x :: R) := news_sub N fun p hp => by
  exact Mine.sub_at hp (by wtm_at "per")
theorem news_c5 {h₀ h : Heap} {L : Addr} {x k c d i : Addr × Obj} {add R : Led} (N : News h₀ L h (x :: k :: c :: d :: i :: (add ++ R))) : News h₀ L h (c :: d :: i :: k :: ((x :: add) ++ R)) := news_sub N fun p hp => by
  exact Mine.sub_at hp (by wtm_at "per")
theorem news_c6 {h₀ h : Heap} {L : Addr} {x : Addr × Obj} {add CK R : Led} (N : News h₀ L h (x :: (add ++ (CK ++ R)))) : News h₀ L h (CK ++ (x :: (add ++ R))) := news_sub N fun p hp => by
  exact Mine.sub_at hp (by wtm_at "per")
theorem lt_s1 {p C : Nat} (h : p < C) : p < C + 1 := Nat.lt_succ_of_lt h
section
variable {w : World} {p : Program} {loose : List Str} {mean : ExcName → Option Value} {mg mb : Str → Option Value} {dp un : Nat} {gd : Option (List Code)} {cn : Str} {a : Addr} {ccd : Value} {A₀ : Around} {base h₀ : Heap} {L : Addr} {m cm : Str → Option Value} {s : Shared} {W1 : Led}
theorem own_cell {M : Model} {A : Around} {E : Value → Shared → Prop} {y : Str} {pos : Pos} {v : Value} {v0 : Option Value} {c : Addr} {o : Obj} {env : Env} {led : Led} {Q : Unit → Shared → Prop} (F : Fr h₀ L s.heap m) (N : News h₀ L s.heap ((c, o) :: led)) (hd : o.data = .cell v0) (hoff : ∀ p ∈ led, p.1 ≠ c)
    (h : ∀ o' h', o'.data = .cell (some v) → Fr h₀ L h' m → News h₀ L h' ((c, o') :: led) → Q () { s with heap := h' })
    (hc : env.cells.lookup y = some c := by rfl) (hk : env.scope.kind = .function := by rfl) (hx : env.kindOf y = some .cell := by rfl) : wpAny M A (assign (.Name y pos) env v) Q E s := by
  have g := N _ (List.mem_cons_self ..)
  refine wpAny_assign_Name (wpAny_storeName_cell hk hx hc ⟨o, g.1, hd⟩ fun h' hv hs => ?_)
  obtain ⟨o', g', d'⟩ := hv
  refine h o' h' d' (F.change hs g.2.1 g.2.2) fun p hp => ?_
  rcases List.mem_cons.mp hp with rfl | hp
  · exact ⟨g', g.2⟩
  · have q := N p (List.mem_cons_of_mem _ hp)
    exact ⟨(hs.2 p.1 (hoff p hp)).trans q.1, q.2⟩
theorem law_17a {d : Dat1} {Q : Flow → Shared → Prop} {E : Value → Shared → Prop}
    (hB : Below A₀ base [] h₀) (hX : Frag.In (Mine.pb.heap_1 w.params) h₀) (hT : Top p loose mean mg mb h₀) (hd : dp + 40 < recursionLimit) (hu : un + 400 < cLine)
    (S0 : St2 h₀ L s.heap m cm W1) (ok : Ok1 d W1) (hmf : m (Str.ofString "facts") = some (.ref d.fl)) (hmp : m (Str.ofString "pair") = some (.ref d.pa))
    (kont : ∀ (h' : Heap) (tk' : Tok) (Dl : Addr) (lv : List Value) (kl : Nat), St2 h₀ L h' m (upS cm (Str.ofString "labels") (.ref Dl)) ((Dl, listOf lv.toArray kl) :: W1) → IntsN lv (labels d.fs d.pr) → (∀ p ∈ W1, @LT.lt Nat _ p.1 Dl) → Q .next { s with heap := h', toks := tk' }) :
    wpAny (model PySem.Challenge.rw_ti0052_01.prog w) (lawA dp un gd cn L a ccd) (execs (seg 21 1) (lawEnv cn L a ccd)) Q E s := by
  revert hX; k_fill; intro hX
  obtain ⟨F, ⟨CK, N, HC⟩, hR2⟩ := S0
  have up : ∀ p ∈ W1, p ∈ CK ++ W1 := fun p hp => List.mem_append_right _ hp
  show wpAny _ _ (execs [_] _) _ _ _
  (show (let V := _; let A9 := _; wpAny _ A9 (execs _ V) _ _ _)); intro V A9
  wtm_at "mQ"
  (k_here; k_dflt (refine' Mine.c_labels (up _ ok.mfl) (up _ ok.mpa) (ok.FI.mono up) ok.h4 ok.hsm ok.hp _ _ _ _ _ _ _ _ _ _ _ _ _ _ _ _ _ ?k1z174 ?k2z174 ?k3z174 ?k4z174 ?k5z174 ?kKz174 ?kdz174 ?kuz174 ?kRz174; (case k1z174 => k_asm); (case k2z174 => k_asm); (case k3z174 => k_asm); (case k4z174 => k_asm); (case k5z174 => k_asm); (case kKz174 => first | exact rfl | assumption); (case kdz174 => wtm_at "mRM"); (case kuz174 => wtm_at "mRU")))
  intro v9 n9 h9 tk9 hp9 F9 N9
  (first | (with_reducible show wpAny _ _ _ _ _ _; generalize hGoal170 : wpAny _ _ _ _ _ _ = Goal170) | (dsimp only; with_reducible show wpAny _ _ _ _ _ _; generalize hGoal170 : wpAny _ _ _ _ _ _ = Goal170) | (generalize hGoal170 : True = Goal170))
  obtain ⟨Dl, lv, kl, rfl, hlv, hlt, rfl⟩ := hp9
  subst hGoal170
  try dsimp only
  try k_fold
  wtm_at "mQ"
  rename News _ _ _ _ => N6
  rename Fr _ _ _ _ => F6
  rename CellsAre (upS _ _ _) _ _ => HC6
  exact kont _ _ Dl lv kl ⟨F6, ⟨_, news_in0 N6, HC6⟩, fun p hp => by
    rcases List.mem_cons.mp hp with rfl | hp
    · exact fresh_cell HC hlt
    · exact hR2 p hp⟩ hlv fun p hp => hlt p (up p hp)
inductive GrpI (lb : List Nat) (CK W1 : Led) (C : Addr) (i : Nat) (ys : List Value) (nn : Led) : Prop
  | mk (co : Obj) (v0 : Option Value) (add : Led) : nn = (C + 1, co) :: (add ++ (CK ++ W1)) → co.data = .cell v0 → NumsIn add ys ((List.range i).map (groupOf lb)) → (∀ p ∈ add, @LT.lt Nat _ (C + 1) p.1) → (∀ q ∈ CK ++ W1, @LT.lt Nat _ q.1 C) → GrpI lb CK W1 C i ys nn
theorem law_17b {lb : List Nat} {lv : List Value} {kl : Nat} {Dl : Addr} {Q : Flow → Shared → Prop} {E : Value → Shared → Prop}
    (hB : Below A₀ base [] h₀) (hX : Frag.In (Mine.pb.heap_1 w.params) h₀) (hT : Top p loose mean mg mb h₀) (hd : dp + 40 < recursionLimit) (hu : un + 400 < cLine)
    (S0 : St2 h₀ L s.heap m cm W1) (ml : (Dl, listOf lv.toArray kl) ∈ W1) (hlv : IntsN lv lb) (hlb : lb.length = 5) (hcl : cm (Str.ofString "labels") = some (.ref Dl))
    (kont : ∀ (h' : Heap) (tk' : Tok) (Dg : Addr) (gv : List Value) (kg : Nat) (add : Led), St2 h₀ L h' m (upS cm (Str.ofString "groups") (.ref Dg)) ((Dg, listOf gv.toArray kg) :: (add ++ W1)) → NumsIn add gv ((List.range 5).map (groupOf lb)) → Q .next { s with heap := h', toks := tk' }) :
    wpAny (model PySem.Challenge.rw_ti0052_01.prog w) (lawA dp un gd cn L a ccd) (execs (seg 22 1) (lawEnv cn L a ccd)) Q E s := by
  revert hX; k_fill; intro hX
  obtain ⟨F, ⟨CK, N, HC⟩, hR2⟩ := S0
  obtain ⟨oL, mL, dL⟩ := cells_at HC (y := Str.ofString "labels") rfl
  rw [hcl] at dL
  have getl : ∀ j, j < 5 → ∃ t, lv[j]? = some (.int ((mkk lb j : Nat) : Int) t) := fun j hj => get_lab hlv hlb hj
  show wpAny _ _ (execs [_] _) _ _ _
  (show (let V := _; let A9 := _; wpAny _ A9 (execs _ V) _ _ _)); intro V A9
  wtm_at "mQ"
  refine wpAny_Assign_Name ?_ ?_
  rotate_left
  with_unfolding_all rfl
  refine comp_open (cl := _) (by rfl) ?_
  wtm_at "mQ"
  rename IsRange _ _ _ _ _ _ _ _ => hRg
  rename News _ _ _ _ => N2
  rename Fr _ _ _ _ => F2
  try dsimp only
  refine comp_atC (n := 5) (y := Str.ofString "k") (src_range hRg (by decide) (by decide)) F2 N2 (by decide) (GrpI lb CK W1)
    (fun C hC => ⟨_, _, [], rfl, rfl, ⟨rfl, fun i _ e => by cases e⟩, (fun _ h => nomatch h), hC⟩) ?turn ?done (fun _ _ => rfl) (fun _ => rfl)
  case turn =>
    intro E1 I C D it oC mc i v ys yk nn h7 tk7 hi hv hJ hyl hID hDC hlt hsub hoff nC F3 N3
    clear F2 N2
    (first | (with_reducible show wpAny _ _ _ _ _ _; generalize hGoal171 : wpAny _ _ _ _ _ _ = Goal171) | (dsimp only; with_reducible show wpAny _ _ _ _ _ _; generalize hGoal171 : wpAny _ _ _ _ _ _ = Goal171) | (generalize hGoal171 : True = Goal171))
    obtain ⟨tv, rfl⟩ := hv
    obtain ⟨co, v0, add, rfl, dco, hys, hadd, hCW⟩ := hJ
    have N3 := news_c4 N3
    have hoffC : ∀ p ∈ (C, oC) :: (D, listOf ys.toArray yk) :: (I, it) :: (add ++ (CK ++ W1)), p.1 ≠ C + 1 := fun p hp => by
      rcases List.mem_cons.mp hp with rfl | hp
      · exact Nat.ne_of_lt (Nat.lt_succ_self C)
      · rcases List.mem_cons.mp hp with rfl | hp
        · exact Nat.ne_of_lt (lt_s1 hDC)
        · rcases List.mem_cons.mp hp with rfl | hp
          · exact Nat.ne_of_lt (lt_s1 (Nat.lt_trans hID hDC))
          · rcases List.mem_append.mp hp with hp | hp
            · exact Nat.ne_of_gt (hadd p hp)
            · exact Nat.ne_of_lt (lt_s1 (hCW p hp))
    obtain ⟨tk, hlk⟩ := getl i hi
    subst hGoal171
    rw [show (0 : Int) + (i : Int) = (i : Int) from Int.zero_add _]
    refine own_cell F3 N3 dco hoffC ?_
    intro co2 h8 dco2 F8 N8
    clear F3 N3
    refine ifs_nil ?_
    try dsimp only
    refine comp_open (cl := _) (by rfl) ?_
    wtm_at "mQ"
    clear hRg
    rename IsRange _ _ _ _ _ _ _ _ => hRg2
    rename News _ _ _ _ => N4
    rename Fr _ _ _ _ => F4
    try dsimp only
    refine comp_K0 (n := 5) (src_range hRg2 (by decide) (by decide)) F4 N4 (by decide) (fun j zs => IntsN zs ((List.range j).filter fun x => mkk lb x == mkk lb i)) ⟨rfl, fun i n e => by cases e⟩ ?turn2 ?done2
    case turn2 =>
      intro E2 Ky Kn C2 R2 oC3 mc2 j v zs h9 tk9 hj hv hzl hRR hoffC2 nC3 F5 N5 hy hx hzs
      clear F4 N4
      (first | (with_reducible show wpAny _ _ _ _ _ _; generalize hGoal172 : wpAny _ _ _ _ _ _ = Goal172) | (dsimp only; with_reducible show wpAny _ _ _ _ _ _; generalize hGoal172 : wpAny _ _ _ _ _ _ = Goal172) | (generalize hGoal172 : True = Goal172))
      obtain ⟨tv2, rfl⟩ := hv
      obtain ⟨tj, hlj⟩ := getl j hj
      have e1 := hRR _ (mem_deep 4 (List.mem_append_right _ (List.mem_append_left _ mL)))
      have e2 := hRR _ (mem_deep 4 (List.mem_append_right _ (List.mem_append_right _ ml)))
      have e3 := hRR _ (.head _)
      subst hGoal172
      rw [show (0 : Int) + (j : Int) = (j : Int) from Int.zero_add _]
      refine own_name (o := oC3) F5 N5 nC3 hoffC2 ?_
      intro oC4 h14 tk14 nC4 F14 N14
      clear F5 N5
      refine ifs_one ?_
      try dsimp only
      wtm_at "mQ"
      · rename ((mkk lb j : Nat) : Int) = ((mkk lb i : Nat) : Int) => hb
        refine hy _ oC4 _ _ _ ?_ nC4 F14 N14
        rw [List.range_succ, List.filter_append, List.filter_cons_of_pos (by rw [beq_iff_eq]; exact Int.ofNat_inj.mp hb)]
        exact hzs.push
      · rename ¬ ((mkk lb j : Nat) : Int) = ((mkk lb i : Nat) : Int) => hb
        refine hx oC4 _ _ _ ?_ nC4 F14 N14
        rw [List.range_succ, List.filter_append, List.filter_cons_of_neg (by rw [beq_iff_eq]; exact fun h => hb (by rw [h])), List.filter_nil, List.append_nil]
        exact hzs
    case done2 =>
      intro D2 zs zk h9 tk9 hzs hzl hltD F5 N5
      clear F4 N4
      try dsimp only
      wtm_at "mQ"
      refine ⟨oC, mc, (C + 1, co2) :: (((D2, listOf zs.toArray zk) :: add) ++ (CK ++ W1)), _, _, ⟨co2, _, _, rfl, dco2, ?_, ?_, hCW⟩, (fun p hp => nomatch hp), nC, F5, news_c5 N5, ?_, rfl⟩
      · rw [List.range_succ, List.map_append]
        exact hys.snoc (.head _) hzs fun p hp => .tail _ hp
      · intro p hp
        rcases List.mem_cons.mp hp with rfl | hp
        · exact hltD _ (.head _)
        · exact hadd p hp
      · intro p hp
        rcases List.mem_cons.mp hp with rfl | hp
        · exact hoff (C + 1, co) (.head _)
        · rcases List.mem_cons.mp hp with rfl | hp
          · exact ⟨Nat.ne_of_gt (hltD _ (mem_deep 3 (.head _))), Nat.ne_of_gt (hltD _ (.tail _ (.head _))), Nat.ne_of_gt (hltD _ (.tail _ (.tail _ (.head _))))⟩
          · exact hoff p (.tail _ hp)
  case done =>
    intro C Dg gv kg nn h7 tk7 hJ hgl hsub hoffD hltD F3 N3
    clear F2 N2
    (first | (with_reducible show wpAny _ _ _ _ _ _; generalize hGoal173 : wpAny _ _ _ _ _ _ = Goal173) | (dsimp only; with_reducible show wpAny _ _ _ _ _ _; generalize hGoal173 : wpAny _ _ _ _ _ _ = Goal173) | (generalize hGoal173 : True = Goal173))
    obtain ⟨co, v0, add, rfl, dco, hys, hadd, hCW⟩ := hJ
    have N3 := drop2 N3
    have hDc : Dg ∉ (lawCl L).map (·.2) := fresh_cell HC hltD
    have hac : ∀ p ∈ add, p.1 ∉ (lawCl L).map (·.2) := fun p hp => fresh_cell HC fun q hq => Nat.lt_trans (hCW q hq) (Nat.lt_trans (Nat.lt_succ_self C) (hadd p hp))
    have N3 := news_c6 N3
    have hR3 : ∀ p ∈ (Dg, listOf gv.toArray kg) :: (add ++ W1), p.1 ∉ (lawCl L).map (·.2) := fun p hp => by
      rcases List.mem_cons.mp hp with rfl | hp
      · exact hDc
      · rcases List.mem_append.mp hp with hp | hp
        · exact hac p hp
        · exact hR2 p hp
    subst hGoal173
    try dsimp only
    wtm_at "mQ"
    rename News _ _ _ _ => N6
    rename Fr _ _ _ _ => F6
    rename CellsAre (upS _ _ _) _ _ => HC6
    exact kont _ _ Dg gv kg add ⟨F6, ⟨_, N6, HC6⟩, hR3⟩ hys
end
end Mine
end
section
open PySem PySem.W PyProof.Rows PySem.Calls PySem.Spec
set_option Elab.async false
set_option maxRecDepth 100000
set_option maxHeartbeats 0
namespace Mine
theorem sum_pow (low : Nat) : ∀ g : List Nat, (g.map fun x => (2 : Int) ^ (low + x)).sum = (((g.map (2 ^ ·)).sum * 2 ^ low : Nat) : Int)
  | [] => by simp
  | x :: g => by
    rw [List.map_cons, List.sum_cons, sum_pow low g, List.map_cons, List.sum_cons, Nat.add_mul, ← Nat.pow_add, Nat.add_comm x low]
    push_cast
    rfl
section
variable {w : World} {p : Program} {loose : List Str} {mean : ExcName → Option Value} {mg mb : Str → Option Value} {dp un : Nat} {gd : Option (List Code)} {cn : Str} {a : Addr} {ccd : Value} {A₀ : Around} {base h₀ : Heap} {L : Addr} {m cm : Str → Option Value} {s : Shared} {W1 : Led}
theorem law_17c {low : Nat} {M : List Nat} {St : List Nat} {S : Nat → Str} {lb : List Nat} {sv zv gv : List Value} {ks kz kg : Nat} {Ds Dz Dg : Addr} {tlow : Tok} {Q : Flow → Shared → Prop} {E : Value → Shared → Prop}
    (hB : Below A₀ base [] h₀) (hX : Frag.In (Mine.pb.heap_1 w.params) h₀) (hT : Top p loose mean mg mb h₀) (hd : dp + 40 < recursionLimit) (hu : un + 400 < cLine)
    (S0 : St2 h₀ L s.heap m cm W1) (ms : (Ds, listOf sv.toArray ks) ∈ W1) (hsv : IntsN sv St) (mz : (Dz, listOf zv.toArray kz) ∈ W1) (hzv : StrsAre zv ((List.range 5).map S)) (mgr : (Dg, listOf gv.toArray kg) ∈ W1) (hgv : NumsIn W1 gv ((List.range 5).map (groupOf lb)))
    (hSt : ∀ k ∈ St, k < 5) (hls : St.length = 5) (hlow : low < 29) (hsum : ∀ k, k < 5 → ((groupOf lb k).map (2 ^ ·)).sum * 2 ^ low = nOf M low k) (hlt : ∀ k, k < 5 → nOf M low k < 2 ^ 40)
    (hms : m (Str.ofString "stands") = some (.ref Ds)) (hcs : cm (Str.ofString "sized") = some (.ref Dz)) (hcg : cm (Str.ofString "groups") = some (.ref Dg)) (hcl : cm (Str.ofString "low") = some (.int (low : Int) tlow))
    (kont : ∀ (h' : Heap) (tk' : Tok) (Di : Addr) (iv : List Value) (ki : Nat) (add : Led), St2 h₀ L h' (fun z => if z = Str.ofString "items" then some (.ref Di) else m z) cm ((Di, listOf iv.toArray ki) :: (add ++ W1)) → PairsIn add iv (bookKv St S (nOf M low)) → Q .next { s with heap := h', toks := tk' }) :
    wpAny (model PySem.Challenge.rw_ti0052_01.prog w) (lawA dp un gd cn L a ccd) (execs (seg 23 1) (lawEnv cn L a ccd)) Q E s := by
  revert hX; k_fill; intro hX
  obtain ⟨F, ⟨CK, N, HC⟩, hR2⟩ := S0
  obtain ⟨oZ, mZ, dZ⟩ := cells_at HC (y := Str.ofString "sized") rfl
  obtain ⟨oG, mG, dG⟩ := cells_at HC (y := Str.ofString "groups") rfl
  obtain ⟨oL, mL, dL⟩ := cells_at HC (y := Str.ofString "low") rfl
  rw [hcs] at dZ
  rw [hcg] at dG
  rw [hcl] at dL
  have ms1 : (Ds, listOf sv.toArray ks) ∈ CK ++ W1 := List.mem_append_right _ ms
  show wpAny _ _ (execs [_] _) _ _ _
  (show (let V := _; let A9 := _; wpAny _ A9 (execs _ V) _ _ _)); intro V A9
  wtm_at "mQ"
  refine comp_assign (cl := _) (by with_unfolding_all rfl) (by rfl) ?_
  wtm_at "mQ"
  rename News _ _ _ _ => N2
  rename Fr _ _ _ _ => F2
  try dsimp only
  refine comp_KL (src_list N2 ms1 rfl rfl) F2 N2 ?hn (fun i ys add => PairsIn add ys (bookKv (St.take i) S (nOf M low))) ⟨rfl, fun i k v e => by cases e⟩ ?turn ?done
  case hn => rw [hsv.1, hls]; decide
  case turn =>
    intro E1 Ky Kn C R oC mc i v ys add h9 tk9 hi hv hyl hlC hRR hAR hoffC nC F3 N3 hy hx hJ
    clear F2 N2 hx
    (first | (with_reducible show wpAny _ _ _ _ _ _; generalize hGoal175 : wpAny _ _ _ _ _ _ = Goal175) | (dsimp only; with_reducible show wpAny _ _ _ _ _ _; generalize hGoal175 : wpAny _ _ _ _ _ _ = Goal175) | (generalize hGoal175 : True = Goal175))
    obtain ⟨k, hk⟩ : ∃ k, St[i]? = some k := ⟨_, List.getElem?_eq_getElem (by rw [← hsv.1]; exact hi)⟩
    obtain ⟨tv, e⟩ := hsv.2 i k hk
    rw [e] at hv
    cases hv
    have k5 := hSt k (List.mem_of_getElem? hk)
    obtain ⟨tz, hvz⟩ := strsAre_get hzv (i := k) (y := S k) (by rw [List.getElem?_map, List.getElem?_range k5]; rfl)
    obtain ⟨tg, gvs, kgg, hvg, mtg, hgr⟩ := hgv.at_ k (groupOf lb k) (by rw [List.getElem?_map, List.getElem?_range k5]; rfl)
    have e1 := hRR _ (List.mem_append_left _ mZ)
    have e2 := hRR _ (List.mem_append_left _ mG)
    have e3 := hRR _ (List.mem_append_left _ mL)
    have e4 := hRR _ (List.mem_append_right _ mz)
    have e5 := hRR _ (List.mem_append_right _ mgr)
    have e6 := hRR _ (List.mem_append_right _ mtg)
    subst hGoal175
    refine own_name (o := oC) F3 N3 nC hoffC ?_
    intro oC2 h14 tk14 nC2 F14 N14
    clear F3 N3
    refine ifs_nil ?_
    try dsimp only
    wtm_at "mQ"
    refine comp_open (cl := _) (by rfl) ?_
    wtm_at "mQ"
    rename News _ _ _ _ => N4
    rename Fr _ _ _ _ => F4
    try dsimp only
    refine comp_K0 (src_list N4 (.tail _ e6) rfl rfl) F4 N4 ?hn2 (fun j zs => IntsAre zs (((groupOf lb k).take j).map fun x => (2 : Int) ^ (low + x))) .nil ?turn2 ?done2
    case hn2 => rw [hgr.1]; unfold groupOf; exact Nat.le_trans (List.length_filter_le _ _) (by rw [List.length_range]; decide)
    case turn2 =>
      intro E2 Ky2 Kn2 C2 R2 oC3 mc2 j v zs h16 tk16 hj hv hzl hRR2 hoffC2 nC3 F5 N5 hy2 hx2 hzs
      clear F4 N4 hx2
      (first | (with_reducible show wpAny _ _ _ _ _ _; generalize hGoal176 : wpAny _ _ _ _ _ _ = Goal176) | (dsimp only; with_reducible show wpAny _ _ _ _ _ _; generalize hGoal176 : wpAny _ _ _ _ _ _ = Goal176) | (generalize hGoal176 : True = Goal176))
      obtain ⟨x, hxg⟩ : ∃ x, (groupOf lb k)[j]? = some x := ⟨_, List.getElem?_eq_getElem (by rw [← hgr.1]; exact hj)⟩
      obtain ⟨tx, e⟩ := hgr.2 j x hxg
      rw [e] at hv
      cases hv
      have x5 : x < 5 := List.mem_range.mp (List.mem_filter.mp (List.mem_of_getElem? hxg)).1
      have e7 := hRR2 _ (.tail _ e3)
      subst hGoal176
      refine own_name (o := oC3) F5 N5 nC3 hoffC2 ?_
      intro oC4 h18 tk18 nC4 F18 N18
      clear F5 N5
      refine ifs_nil ?_
      try dsimp only
      wtm_at "mQ"
      have ep : ((low : Int) + (x : Int)).toNat = low + x := by lia
      rw [ep]
      refine hy2 _ oC4 _ _ _ ?_ nC4 F18 N18
      have et : (groupOf lb k).take (j + 1) = (groupOf lb k).take j ++ [x] := by rw [List.take_succ, hxg]; rfl
      rw [et, List.map_append]
      exact hzs.append (.cons _ _ .nil)
    case done2 =>
      intro D2 zs zk h16 tk16 hzs hzl hltD F5 N5
      clear F4 N4
      have hzs : IntsAre zs ((groupOf lb k).map fun x => (2 : Int) ^ (low + x)) := by rw [hgr.1, List.take_length] at hzs; exact hzs
      try dsimp only
      wtm_at "mQ"
      rw [sum_pow, hsum k k5]
      (k_here; k_dflt (refine' Mine.c_oct (n := nOf M low k) (hlt k k5) _ _ _ _ _ _ _ _ _ _ _ _ _ _ _ _ _ ?k1z178 ?k2z178 ?k3z178 ?k4z178 ?k5z178 ?kKz178 ?kdz178 ?kuz178 ?kRz178; (case k1z178 => k_asm); (case k2z178 => k_asm); (case k3z178 => k_asm); (case k4z178 => k_asm); (case k5z178 => k_asm); (case kKz178 => first | exact rfl | assumption); (case kdz178 => wtm_at "mRM"); (case kuz178 => wtm_at "mRU")))
      refine Mine.out1 ?_
      intro u9 h9 tk9 F9 N9
      try dsimp only
      try k_fold
      wtm_at "mQ"
      rename _ ∧ _ ∧ AllLt _ _ => lT
      rename News _ _ _ _ => N10
      rename Fr _ _ _ _ => F10
      refine hy _ oC2 _ [(_, tupO (S k) tz (octStr (nOf M low k)) u9 0)] _ _ ?_ nC2 F10 (drop2 N10) (fun p hp => by rw [List.mem_singleton.mp hp]; exact lT.2.1)
      have et : bookKv (St.take (i + 1)) S (nOf M low) = bookKv (St.take i) S (nOf M low) ++ [(S k, octStr (nOf M low k))] := by
        unfold bookKv
        rw [List.take_succ, hk, List.map_append]
        rfl
      rw [et]
      exact hJ.snoc (.head _) fun p hp => .tail _ hp
  case done =>
    intro Di iv ki add h9 tk9 hJ hil hA1 hA2 hA3 F3 N3
    clear F2 N2
    (first | (with_reducible show wpAny _ _ _ _ _ _; generalize hGoal177 : wpAny _ _ _ _ _ _ = Goal177) | (dsimp only; with_reducible show wpAny _ _ _ _ _ _; generalize hGoal177 : wpAny _ _ _ _ _ _ = Goal177) | (generalize hGoal177 : True = Goal177))
    have hJ : PairsIn add iv (bookKv St S (nOf M low)) := by
      rw [hsv.1, List.take_length] at hJ
      exact hJ
    have N3 : News h₀ L h9 _ := N3
    have N3 := news_c6 N3
    have hR3 : ∀ p ∈ (Di, listOf iv.toArray ki) :: (add ++ W1), p.1 ∉ (lawCl L).map (·.2) := fun p hp => by
      rcases List.mem_cons.mp hp with rfl | hp
      · exact fresh_cell HC hA3
      · rcases List.mem_append.mp hp with hp | hp
        · exact fresh_cell HC (hA2 p hp)
        · exact hR2 p hp
    subst hGoal177
    wtm_at "mQ"
    exact kont _ _ Di iv ki add ⟨F3, ⟨CK, N3, HC⟩, hR3⟩ hJ
end
end Mine
end
section
open PySem PySem.W PyProof.Rows PySem.Calls PySem.Spec
set_option Elab.async false
set_option maxRecDepth 100000
set_option maxHeartbeats 0
namespace Mine
theorem octStr_sok (n : Nat) : PyData.strOk (octStr n) = true := by
  unfold PyData.strOk
  rw [Array.all_eq_true_iff_forall_mem]
  intro c hc
  have : c ∈ octs n := List.mem_toArray.mp hc
  exact decide_eq_true (Nat.lt_trans (octs_ok n c this).2 (by decide))
theorem group_fit {lb : List Nat} {low i : Nat} (hl : low < 29) : (((groupOf lb i).map fun j => wordOf (low + j)).map (·.length)).sum + ((groupOf lb i).map fun j => wordOf (low + j)).length * (Str.ofString ", ").length ≤ 16777216 := by
  have h5 : ∀ j ∈ groupOf lb i, j < 5 := fun j hj => List.mem_range.mp (List.mem_filter.mp hj).1
  have hgl : (groupOf lb i).length ≤ 5 := by unfold groupOf; exact Nat.le_trans (List.length_filter_le _ _) (by rw [List.length_range]; exact Nat.le_refl 5)
  have key : ∀ g : List Nat, (∀ j ∈ g, j < 5) → ((g.map fun j => wordOf (low + j)).map (·.length)).sum ≤ 100 * g.length := fun g => by
    induction g with
    | nil => intro _; exact Nat.le_refl 0
    | cons x g ih =>
      intro h
      have h1 := ih fun j hj => h j (.tail _ hj)
      have h2 := (written_len ⟨low + x, by have := h x (.head _); lia⟩ ⟨0, by decide⟩).2
      rw [List.map_cons, List.map_cons, List.sum_cons, List.length_cons]
      dsimp only at h2
      lia
  have := key _ h5
  rw [List.length_map, show (Str.ofString ", ").length = 2 from by decide]
  lia
section
variable {w : World} {p : Program} {loose : List Str} {mean : ExcName → Option Value} {mg mb : Str → Option Value} {dp un : Nat} {gd : Option (List Code)} {cn : Str} {a : Addr} {ccd : Value} {A₀ : Around} {base h₀ : Heap} {L : Addr} {m cm : Str → Option Value} {s : Shared} {W1 : Led}
theorem law_17d {low : Nat} {fs : List Fact} {pr : Nat × Nat} {M : List Nat} {pend : List (Nat × Nat)} {St : List Nat} {S : Nat → Str} {t : Nat} {b l wl : Addr} {vs wvs : List Value} {kl wk : Nat} {Q : Flow → Shared → Prop} {E : Value → Shared → Prop}
    (hB : Below A₀ base [] h₀) (hX : Frag.In (Mine.pb.heap_1 w.params) h₀) (hT : Top p loose mean mg mb h₀) (hd : dp + 40 < recursionLimit) (hu : un + 400 < cLine)
    (S0 : St2 h₀ L s.heap m cm W1) (IB : IsBook W1 b l) (ml : (l, listOf vs.toArray kl) ∈ W1) (P : PairsIn W1 vs (bookKv St S (nOf M low))) (hlow : low < 29) (LP : LoopP fs pr low M pend St S t)
    (mw : (wl, listOf wvs.toArray wk) ∈ W1) (hw : StrsAre wvs (wordsL low)) (hcb : cm (Str.ofString "book") = some (.ref b)) (hcw : cm (Str.ofString "words") = some (.ref wl))
    (kont : ∀ (h' : Heap) (tk' : Tok) (Dt : Addr) (tv : List Value) (kt : Nat), St2 h₀ L h' (fun z => if z = Str.ofString "told" then some (.ref Dt) else m z) cm ((Dt, listOf tv.toArray kt) :: W1) → StrsAre tv ((List.range 5).map (toldOf (nOf M low))) → Q .next { s with heap := h', toks := tk' }) :
    wpAny (model PySem.Challenge.rw_ti0052_01.prog w) (lawA dp un gd cn L a ccd) (execs (seg 24 1) (lawEnv cn L a ccd)) Q E s := by
  revert hX; k_fill; intro hX
  obtain ⟨F, ⟨CK, N, HC⟩, hR2⟩ := S0
  obtain ⟨oB, mB, dB⟩ := cells_at HC (y := Str.ofString "book") rfl
  obtain ⟨oW, mW, dW⟩ := cells_at HC (y := Str.ofString "words") rfl
  rw [hcb] at dB
  rw [hcw] at dW
  have mw1 : (wl, listOf wvs.toArray wk) ∈ CK ++ W1 := List.mem_append_right _ mw
  show wpAny _ _ (execs [_] _) _ _ _
  (show (let V := _; let A9 := _; wpAny _ A9 (execs _ V) _ _ _)); intro V A9
  wtm_at "mQ"
  refine comp_assign (cl := _) (by with_unfolding_all rfl) (by rfl) ?_
  wtm_at "mQ"
  rename News _ _ _ _ => N2
  rename Fr _ _ _ _ => F2
  try dsimp only
  refine comp_KL0 (src_list N2 mw1 rfl rfl) F2 N2 ?hn (fun i ys => StrsAre ys ((List.range i).map (toldOf (nOf M low)))) .nil ?turn ?done
  case hn => rw [strsAre_len hw, wordsL_len]; decide
  case turn =>
    intro E1 Ky Kn C R2 oC mc i v ys h9 tk9 hi hv hyl hRR hoffC nC F3 N3 hy hx hys
    clear F2 N2 hx
    (first | (with_reducible show wpAny _ _ _ _ _ _; generalize hGoal179 : wpAny _ _ _ _ _ _ = Goal179) | (dsimp only; with_reducible show wpAny _ _ _ _ _ _; generalize hGoal179 : wpAny _ _ _ _ _ _ = Goal179) | (generalize hGoal179 : True = Goal179))
    rw [strsAre_len hw, wordsL_len] at hi
    obtain ⟨tx, e⟩ := strsAre_get hw (wordsL_get (low := low) hi)
    rw [e] at hv
    cases hv
    have f1 := word_fit (by lia : low + i < 33)
    obtain ⟨n1, ns1, hg1, hc1, hl1, hv1⟩ := LP.hget hlow hi (x := wordOf (low + i)) rfl
    have e1 := hRR _ (List.mem_append_left _ mB)
    have sub : ∀ o, ∀ p ∈ W1, p ∈ (C, o) :: R2 := fun o p hp => .tail _ (hRR p (List.mem_append_right _ hp))
    have hnl := nOf_lt hlow LP.inv.part hi
    subst hGoal179
    refine own_name (o := oC) F3 N3 nC hoffC ?_
    intro oC2 h14 tk14 nC2 F14 N14
    clear F3 N3
    refine ifs_nil ?_
    try dsimp only
    wtm_at "mQ"
    (k_here; k_dflt (refine' Mine.c_flags (IB.mono (sub oC2)) (sub oC2 _ ml) (P.mono (sub oC2)) f1.2.2.1 f1.2.2.2.1 f1.2.1 (LP.keys _) hg1 hc1 hl1 _ _ _ _ _ _ _ _ _ _ _ _ _ _ _ _ _ ?k1z185 ?k2z185 ?k3z185 ?k4z185 ?k5z185 ?kKz185 ?kdz185 ?kuz185 ?kRz185; (case k1z185 => k_asm); (case k2z185 => k_asm); (case k3z185 => k_asm); (case k4z185 => k_asm); (case k5z185 => k_asm); (case kKz185 => first | exact rfl | assumption); (case kdz185 => wtm_at "mRM"); (case kuz185 => wtm_at "mRU")))
    intro v9 n9 h9 tk9 hp9 F9 N9
    (first | (with_reducible show wpAny _ _ _ _ _ _; generalize hGoal180 : wpAny _ _ _ _ _ _ = Goal180) | (dsimp only; with_reducible show wpAny _ _ _ _ _ _; generalize hGoal180 : wpAny _ _ _ _ _ _ = Goal180) | (generalize hGoal180 : True = Goal180))
    obtain ⟨⟨u1, hu1⟩, e9⟩ := hp9
    rw [hv1] at hu1
    subst v9
    subst n9
    subst hGoal180
    try dsimp only
    try k_fold
    wtm_at "mQ"
    (k_here; k_dflt (refine' Mine.c_pretty (n := ((nOf M low i : Nat) : Int)) (Int.natCast_nonneg _) (by exact_mod_cast hnl) _ _ _ _ _ _ _ _ _ _ _ _ _ _ _ _ _ ?k1z186 ?k2z186 ?k3z186 ?k4z186 ?k5z186 ?kKz186 ?kdz186 ?kuz186 ?kRz186; (case k1z186 => k_asm); (case k2z186 => k_asm); (case k3z186 => k_asm); (case k4z186 => k_asm); (case k5z186 => k_asm); (case kKz186 => first | exact rfl | assumption); (case kdz186 => wtm_at "mRM"); (case kuz186 => wtm_at "mRU")))
    refine Mine.out1 ?_
    intro u2 h9 tk9 F9 N9
    try dsimp only
    try k_fold
    wtm_at "mQ"
    rename News _ _ _ _ => N10
    rename Fr _ _ _ _ => F10
    refine hy _ oC2 _ _ _ ?_ nC2 F10 N10
    rw [List.range_succ, List.map_append]
    exact strsAre_snoc hys
  case done =>
    intro Dt tv kt h9 tk9 htv hyl hlt F3 N3
    clear F2 N2
    have htv : StrsAre tv ((List.range 5).map (toldOf (nOf M low))) := by rw [strsAre_len hw, wordsL_len] at htv; exact htv
    have N3 : News h₀ L h9 _ := N3
    try dsimp only
    wtm_at "mQ"
    exact kont _ _ Dt tv kt ⟨F3, ⟨CK, news_in0 N3, HC⟩, fun p hp => by
      rcases List.mem_cons.mp hp with rfl | hp
      · exact fresh_cell HC hlt
      · exact hR2 p hp⟩ htv
theorem law_17e {low : Nat} {N' : Nat → Nat} {kvs : List (Str × Str)} {lb : List Nat} {b l wl Di Dt Dg : Addr} {vs wvs iv tv gv : List Value} {kl wk ki kt kg : Nat} {Q : Flow → Shared → Prop} {E : Value → Shared → Prop}
    (hB : Below A₀ base [] h₀) (hX : Frag.In (Mine.pb.heap_1 w.params) h₀) (hT : Top p loose mean mg mb h₀) (hd : dp + 40 < recursionLimit) (hu : un + 400 < cLine)
    (S0 : St2 h₀ L s.heap m cm W1) (IB : IsBook W1 b l) (ml : (l, listOf vs.toArray kl) ∈ W1) (P : PairsIn W1 vs kvs) (hvl : vs.length < 1000) (mi : (Di, listOf iv.toArray ki) ∈ W1) (P2 : PairsIn W1 iv kvs) (hso : ∀ x ∈ kvs, PyData.strOk x.1 = true ∧ PyData.strOk x.2 = true)
    (mt : (Dt, listOf tv.toArray kt) ∈ W1) (htv : StrsAre tv ((List.range 5).map (toldOf N'))) (mgr : (Dg, listOf gv.toArray kg) ∈ W1) (hgv : NumsIn W1 gv ((List.range 5).map (groupOf lb))) (hlow : low < 29) (hto : ∀ k, k < 5 → toldOf N' k = Txt.join (Str.ofString ", ") ((groupOf lb k).map fun j => wordOf (low + j))) (hts : ∀ k, k < 5 → PyData.strOk (toldOf N' k) = true)
    (mw : (wl, listOf wvs.toArray wk) ∈ W1) (hw : StrsAre wvs (wordsL low)) (hcb : cm (Str.ofString "book") = some (.ref b)) (hcw : cm (Str.ofString "words") = some (.ref wl)) (hcg : cm (Str.ofString "groups") = some (.ref Dg)) (hmi : m (Str.ofString "items") = some (.ref Di)) (hmt : m (Str.ofString "told") = some (.ref Dt))
    (kont : ∀ (h' : Heap) (tk' : Tok), St2 h₀ L h' m cm W1 → Q .next { s with heap := h', toks := tk' }) :
    wpAny (model PySem.Challenge.rw_ti0052_01.prog w) (lawA dp un gd cn L a ccd) (execs (seg 25 1) (lawEnv cn L a ccd)) Q E s := by
  revert hX; k_fill; intro hX
  obtain ⟨F, ⟨CK, N, HC⟩, hR2⟩ := S0
  obtain ⟨oB, mB, dB⟩ := cells_at HC (y := Str.ofString "book") rfl
  obtain ⟨oW, mW, dW⟩ := cells_at HC (y := Str.ofString "words") rfl
  obtain ⟨oG, mG, dG⟩ := cells_at HC (y := Str.ofString "groups") rfl
  rw [hcb] at dB
  rw [hcw] at dW
  rw [hcg] at dG
  have kk : ∀ (h' : Heap) (tk' : Tok), Fr h₀ L h' m → News h₀ L h' (CK ++ W1) → Q .next { s with heap := h', toks := tk' } := fun h' tk' F' N' => kont h' tk' ⟨F', ⟨CK, N', HC⟩, hR2⟩
  have up : ∀ p ∈ W1, p ∈ CK ++ W1 := fun p hp => List.mem_append_right _ hp
  have HS : ∀ p ∈ CK, p ∈ CK ++ W1 := fun p hp => List.mem_append_left _ hp
  have mB1 := HS _ mB
  have mW1 := HS _ mW
  have mG1 := HS _ mG
  clear kont hR2
  obtain ⟨W2, hW2⟩ : ∃ W2 : Led, W2 = CK ++ W1 := ⟨_, rfl⟩
  rw [← hW2] at N kk up HS mB1 mW1 mG1
  clear hW2
  have IB2 := IB.mono up
  have mi2 := up _ mi
  have mt2 := up _ mt
  have mw2 := up _ mw
  have mgr2 := up _ mgr
  have hgv2 := hgv.mono up
  obtain ⟨dx, hs, tb, nb, mb1, mb2⟩ := IB2
  have N1 := news_more (news_more N mb2) (.tail _ mb1)
  clear N
  show wpAny _ _ (execs [_] _) _ _ _
  (show (let V := _; let A9 := _; wpAny _ A9 (execs _ V) _ _ _)); intro V A9
  wtm_at "mQX"
  (k_here; k_dflt (refine' Mine.c_items (b := b) (l := l) (R := W2) ⟨dx, hs, tb, nb, mb1, mb2⟩ (up _ ml) hvl _ _ _ _ _ _ _ _ _ _ _ _ _ _ _ _ _ ?k1z184 ?k2z184 ?k3z184 ?k4z184 ?k5z184 ?kKz184 ?kdz184 ?kuz184 ?kRz184; (case k1z184 => k_asm); (case k2z184 => k_asm); (case k3z184 => k_asm); (case k4z184 => exact news_drop (news_drop N1)); (case k5z184 => k_asm); (case kKz184 => first | exact rfl | assumption); (case kdz184 => wtm_at "mRM"); (case kuz184 => wtm_at "mRU")))
  intro v9 n9 h9 tk9 hp9 F9 N9
  clear N1
  (first | (with_reducible show wpAny _ _ _ _ _ _; generalize hGoal181 : wpAny _ _ _ _ _ _ = Goal181) | (dsimp only; with_reducible show wpAny _ _ _ _ _ _; generalize hGoal181 : wpAny _ _ _ _ _ _ = Goal181) | (generalize hGoal181 : True = Goal181))
  obtain ⟨q9, rfl, hq9, rfl⟩ := hp9
  subst hGoal181
  try dsimp only
  try k_fold
  wtm_at "mQX"
  refine ne_pairs N9 (.head _) (.tail _ mi2) (P.mono fun p hp => .tail _ (up p hp)) (P2.mono fun p hp => .tail _ (up p hp)) hso ?ou ?_
  case ou => wtm_at "mRU"
  have N9 := news_drop N9
  try dsimp only
  wtm_at "mQX"
  refine comp_open (cl := _) (by rfl) ?_
  wtm_at "mQX"
  rename News _ _ _ _ => N2
  rename Fr _ _ _ _ => F2
  try dsimp only
  refine comp_K0 (src_list N2 mgr2 rfl rfl) F2 N2 ?hn (fun i ys => StrsAre ys ((List.range i).map (toldOf N'))) .nil ?turn ?done
  case hn => rw [hgv.len, List.length_map, List.length_range]; decide
  case turn =>
    intro E1 Ky Kn C R2 oC mc i v ys h9 tk9 hi hv hyl hRR hoffC nC F3 N3 hy hx hys
    clear F2 N2 hx
    (first | (with_reducible show wpAny _ _ _ _ _ _; generalize hGoal182 : wpAny _ _ _ _ _ _ = Goal182) | (dsimp only; with_reducible show wpAny _ _ _ _ _ _; generalize hGoal182 : wpAny _ _ _ _ _ _ = Goal182) | (generalize hGoal182 : True = Goal182))
    rw [hgv.len, List.length_map, List.length_range] at hi
    obtain ⟨tg, gvs, kgg, hvg, mtg, hgr⟩ := hgv2.at_ i (groupOf lb i) (by rw [List.getElem?_map, List.getElem?_range hi]; rfl)
    rw [hvg] at hv
    cases hv
    have e1 := hRR _ mtg
    have e2 := hRR _ mW1
    have e3 := hRR _ mw2
    have hgl : (groupOf lb i).length ≤ 5 := by unfold groupOf; exact Nat.le_trans (List.length_filter_le _ _) (by rw [List.length_range]; exact Nat.le_refl 5)
    subst hGoal182
    refine own_name (o := oC) F3 N3 nC hoffC ?_
    intro oC2 h14 tk14 nC2 F14 N14
    clear F3 N3
    refine ifs_nil ?_
    try dsimp only
    wtm_at "mQ"
    refine comp_open (cl := _) (by rfl) ?_
    wtm_at "mQ"
    rename News _ _ _ _ => N4
    rename Fr _ _ _ _ => F4
    try dsimp only
    refine comp_K0 (src_list N4 (.tail _ e1) rfl rfl) F4 N4 ?hn2 (fun j zs => StrsAre zs (((groupOf lb i).take j).map fun j => wordOf (low + j))) .nil ?turn2 ?done2
    case hn2 => rw [hgr.1]; exact Nat.le_trans hgl (by decide)
    case turn2 =>
      intro E2 Ky2 Kn2 C2 R3 oC3 mc2 j v zs h16 tk16 hj hv hzl hRR2 hoffC2 nC3 F5 N5 hy2 hx2 hzs
      clear F4 N4 hx2
      (first | (with_reducible show wpAny _ _ _ _ _ _; generalize hGoal183 : wpAny _ _ _ _ _ _ = Goal183) | (dsimp only; with_reducible show wpAny _ _ _ _ _ _; generalize hGoal183 : wpAny _ _ _ _ _ _ = Goal183) | (generalize hGoal183 : True = Goal183))
      obtain ⟨x, hxg⟩ : ∃ x, (groupOf lb i)[j]? = some x := ⟨_, List.getElem?_eq_getElem (by rw [← hgr.1]; exact hj)⟩
      obtain ⟨tx, e⟩ := hgr.2 j x hxg
      rw [e] at hv
      cases hv
      have x5 : x < 5 := List.mem_range.mp (List.mem_filter.mp (List.mem_of_getElem? hxg)).1
      obtain ⟨tw, hwx⟩ := strsAre_get hw (wordsL_get (low := low) x5)
      have e7 := hRR2 _ (.tail _ e2)
      have e8 := hRR2 _ (.tail _ e3)
      subst hGoal183
      refine own_name (o := oC3) F5 N5 nC3 hoffC2 ?_
      intro oC4 h18 tk18 nC4 F18 N18
      clear F5 N5
      refine ifs_nil ?_
      try dsimp only
      wtm_at "mQ"
      refine hy2 _ oC4 _ _ _ ?_ nC4 F18 N18
      have et : (groupOf lb i).take (j + 1) = (groupOf lb i).take j ++ [x] := by rw [List.take_succ, hxg]; rfl
      rw [et, List.map_append]
      exact strsAre_snoc hzs
    case done2 =>
      intro D2 zs zk h16 tk16 hzs hzl hltD F5 N5
      clear F4 N4
      have hzs : StrsAre zs ((groupOf lb i).map fun j => wordOf (low + j)) := by rw [hgr.1, List.take_length] at hzs; exact hzs
      try dsimp only
      wtm_at "mQ"
      refine join_list (ys := (groupOf lb i).map fun j => wordOf (low + j)) ⟨_, (N5 _ (.head _)).1, rfl, _, rfl⟩ hzs ?sum (fun t' k' => ?_)
      case sum => exact group_fit hlow
      rw [← hto i hi]
      try dsimp only
      wtm_at "mQ"
      refine hy _ oC2 _ _ _ ?_ nC2 F5 (news_drop N5)
      rw [List.range_succ, List.map_append]
      exact strsAre_snoc hys
  case done =>
    intro D3 ys yk h9 tk9 hys hyl hlt F3 N3
    clear F2 N2
    have hys : StrsAre ys ((List.range 5).map (toldOf N')) := by
      rw [hgv.len, List.length_map, List.length_range] at hys
      exact hys
    have hso2 : ∀ x ∈ (List.range 5).map (toldOf N'), PyData.strOk x = true := fun x hx => by
      obtain ⟨k, hk, rfl⟩ := List.mem_map.mp hx
      exact hts k (List.mem_range.mp hk)
    try dsimp only
    wtm_at "mQX"
    refine ne_strs N3 (.tail _ mt2) (.head _) htv hys hso2 hso2 ?ou2 ?_
    case ou2 => wtm_at "mRU"
    rw [decide_eq_true rfl]
    have N3 := news_drop N3
    try dsimp only
    (repeat' ((fail_if_success (with_reducible show ite _ _ _)); walk1))
    with_reducible refine ite_no ?_ ?_
    · decide
    wtm_at "mQX"
    exact kk _ _ F3 N3
end
end Mine
end
section
open PySem PySem.W PyProof.Rows PySem.Calls PySem.Spec
set_option Elab.async false
set_option maxRecDepth 100000
set_option maxHeartbeats 0
namespace Mine
theorem off_ck {X : LexP} {as : List Addr} {led R CK : Led} {L : Addr} {cm : Str → Option Value} {ln : Int} {tl : Tok} {ps : List Value} {k : Nat} (HC : CellsAre cm (lawCl L) CK) (hc : ∀ p ∈ lexL X ln tl ps k ++ (led ++ R), p.1 ∉ (lawCl L).map (·.2)) (hl : led.map (·.1) = as) (O : Off (X.adr ++ as) R) : Off (X.adr ++ as) (CK ++ R) :=
  off_app (fun c hx x hx2 e => by
    have h2 : x ∈ (lexL X ln tl ps k ++ led).map (·.1) := by rw [List.map_append, hl]; exact hx2
    obtain ⟨q, hq, rfl⟩ := List.mem_map.mp h2
    refine hc q (by rw [← List.append_assoc]; exact List.mem_append_left _ hq) ?_
    rw [← cells_adr HC, ← e]
    exact List.mem_map.mpr ⟨c, hx, rfl⟩) O
theorem news_17f {h₀ h : Heap} {L : Addr} {x a1 a2 a3 a4 a5 : Addr × Obj} {B CK R : Led} (N : News h₀ L h (x :: a1 :: a2 :: a3 :: a4 :: a5 :: (B ++ (CK ++ R)))) : News h₀ L h (CK ++ (x :: R)) := news_sub N fun p hp => by
  exact Mine.sub_at hp (by wtm_at "per")
theorem nl_sok {low : Nat} (hl : low < 29) : PyData.strOk (⟨(10 :: (wordOf low).cps.toList).toArray⟩ : Str) = true := by
  have h := word_plain (by lia : low < 33)
  unfold PyData.strOk
  rw [Array.all_eq_true_iff_forall_mem]
  intro c hc
  have hc : c ∈ 10 :: (wordOf low).cps.toList := List.mem_toArray.mp hc
  rcases List.mem_cons.mp hc with rfl | hc
  · decide
  · exact decide_eq_true (Nat.lt_trans (h.ascii c hc) (by decide))
theorem met_len (val : Nat → Int) : ∀ i, (firstMet val i).length = ((List.range i).filter fun k => (List.range k).all fun j => val j != val k).length
  | 0 => rfl
  | i + 1 => by
    rw [firstMet_succ, List.range_succ, List.filter_append, List.length_append, ← met_len val i]
    have e := firstMet_any val i (val i)
    rw [List.any_map] at e
    unfold step_dedup
    rw [e]
    by_cases h : (List.range i).any ((fun x => x == val i) ∘ val) = true
    · rw [if_pos h, List.filter_cons_of_neg (by
        rw [List.all_eq_true]
        intro h2
        obtain ⟨j, hj, h3⟩ := List.any_eq_true.mp h
        exact bne_iff_ne.mp (h2 j hj) (beq_iff_eq.mp h3))]
      rfl
    · rw [if_neg h, List.filter_cons_of_pos (by
        rw [List.all_eq_true]
        intro j hj
        rw [bne_iff_ne]
        intro h2
        exact h (List.any_eq_true.mpr ⟨j, hj, beq_iff_eq.mpr h2⟩)), List.length_append]
      rfl
theorem met_ncl {lb : List Nat} (h : lb.length = 5) : (firstMet (fun i => (lb.map fun (n : Nat) => (n : Int)).getD i 0) 5).length = ncl lb := by
  have e : (fun i => (lb.map fun (n : Nat) => (n : Int)).getD i 0) = fun i => ((mkk lb i : Nat) : Int) := by
    funext i
    show _ = ((lb.getD i 0 : Nat) : Int)
    rw [List.getD_eq_getElem?_getD, List.getD_eq_getElem?_getD, List.getElem?_map]
    cases lb[i]? <;> rfl
  rw [e, met_len]
  unfold ncl
  congr 1
  refine List.filter_congr fun k _ => ?_
  congr 1
  funext j
  rw [Bool.eq_iff_iff, bne_iff_ne, bne_iff_ne, ne_eq, Int.ofNat_inj]
section
variable {prog : Program} {w : World} {A : Around} {E : Value → Shared → Prop} {s : Shared} {h₀ : Heap} {L : Addr} {m : Str → Option Value} {news : Led}
theorem newSet_L {l : Addr} {vs : List Value} {ns : List Int} {k : Nat} {Q : Value → Shared → Prop} (F : Fr h₀ L s.heap m) (N : News h₀ L s.heap news)
    (hl : (l, listOf vs.toArray k) ∈ news) (hi : IntsAre vs ns) (hb : ns.length + 1 < scanBound)
    (h : ∀ h' (tk : Nat) o, Fr h₀ L h' m → News h₀ L h' ((s.heap.objs.size, o) :: news) →
      o.SetObjOf (intKind prog w) (fun k' => (firstMet (fun i => ns.getD i 0) vs.length).any (· == k')) (firstMet (fun i => ns.getD i 0) vs.length).length → Q (.ref s.heap.objs.size) { s with heap := h', toks := tk }) (hh : A.handled = none := by rfl) :
    wpAny (model prog w) A (call (.type "set") [.ref l]) Q E s := by
  have hvn : vs.length = ns.length := IntsAre.length hi
  have hsz : vs.toArray.size = vs.length := List.size_toArray
  rw [← hvn] at hb
  refine PySem.call_set_list (items := vs.toArray) (ns := ns) hh ⟨_, (N _ hl).1, rfl, _, rfl⟩ (by simpa using hi) (by rw [hsz]; exact hb) fun h' tk hS hk => ?_
  rw [hsz] at hS
  obtain ⟨o, ho, hso⟩ := hS.objOf
  obtain ⟨oL, _, _, hL, _⟩ := F.ns
  have hLlt : L < s.heap.objs.size := Heap.lt_size hL
  refine h h' tk o ⟨F.ns.at' fun o' e => hk L o' hLlt e, fun b o' e => hk b o' (Heap.lt_size (F.keep b o' e)) (F.keep b o' e), F.above⟩ (fun p hp => ?_) hso
  rcases List.mem_cons.mp hp with rfl | hp
  · refine ⟨ho, Nat.ne_of_gt hLlt, ?_⟩
    cases hq : h₀.get? s.heap.objs.size with
    | none => rfl
    | some o' => exact absurd (Heap.lt_size (F.keep _ _ hq)) (Nat.lt_irrefl _)
  · exact ⟨hk _ _ (Heap.lt_size (N p hp).1) (N p hp).1, (N p hp).2.1, (N p hp).2.2⟩
theorem eq_rest {D1 D2 : Addr} {a b : Str} {n : Int} {t1 t2 t3 v1 v2 v3 : Tok} {k j : Nat} {Q : Value → Shared → Prop} (N : News h₀ L s.heap news) (m1 : (D1, listOf #[.str a t1, .str b t2, .int n t3] k) ∈ news) (m2 : (D2, listOf #[.str a v1, .str b v2, .int n v3] j) ∈ news)
    (o1 : PyData.strOk a = true) (o2 : PyData.strOk b = true) (hu : A.units + 8 < cLine) (h : Q (.bool true) s) : wpAny (model prog w) A (compareOp .Eq (.ref D1) (.ref D2)) Q E s := by
  have r1 : ReadsAll s.heap [.str a t1, .str b t2, .int n t3] [PyData.str a, PyData.str b, PyData.int n] [] := .cons (.str _ _) (.cons (.str _ _) (.cons (.int _ _) .nil))
  have r2 : ReadsAll s.heap [.str a v1, .str b v2, .int n v3] [PyData.str a, PyData.str b, PyData.int n] [] := .cons (.str _ _) (.cons (.str _ _) (.cons (.int _ _) .nil))
  have hc : (PyData.list [PyData.str a, PyData.str b, PyData.int n]).canLay0 = true := by simp only [PyData.canLay0, PyData.canLayAll0, o1, o2, Bool.and_true]
  refine SeqAt.compareEq_reads (.list (N _ m1).1 rfl rfl r1) (.list (N _ m2).1 rfl rfl r2) hc hc ?_ ?_
  · exact Nat.lt_of_le_of_lt (Nat.add_le_add_left (by simp only [PyData.depth, PyData.depthAll]; decide) _) hu
  · rw [show PyData.eqv (.list [PyData.str a, PyData.str b, PyData.int n]) (.list [PyData.str a, PyData.str b, PyData.int n]) = true by simp [PyData.eqv, PyData.eqvAll]]; exact h
end
theorem nl_word (low : Nat) : (⟨(10 :: (wordOf low).cps.toList).toArray⟩ : Str) = Str.ofString "\n" ++ wordOf low := str_ext (by rw [str_app]; rfl)
section
variable {w : World} {p : Program} {loose : List Str} {mean : ExcName → Option Value} {mg mb : Str → Option Value} {dp un : Nat} {gd : Option (List Code)} {cn : Str} {a : Addr} {ccd : Value} {A₀ : Around} {base h₀ : Heap} {L : Addr} {m cm : Str → Option Value} {s : Shared} {R1 : Led}
theorem law_17f {low : Nat} {X : LexP} {as : List Addr} {Rd : List Nat → Led → Prop} {led : Led} {tl : Tok} {kp : Nat} {Q : Flow → Shared → Prop} {E : Value → Shared → Prop}
    (hB : Below A₀ base [] h₀) (hX : Frag.In (Mine.pb.heap_1 w.params) h₀) (hT : Top p loose mean mg mb h₀) (hd : dp + 40 < recursionLimit) (hu : un + 400 < cLine)
    (S0 : St2 h₀ L s.heap m cm (lexL X 5 tl [] kp ++ (led ++ R1))) (RD : Reads1 w p loose mean mg mb X.f as Rd) (hR0 : Rd (10 :: endSg low) led) (DI : Dist (X.adr ++ as)) (O : Off (X.adr ++ as) R1) (hlow : low < 29) (hcl : cm (Str.ofString "line") = some (.ref X.lx))
    (kont : ∀ (h' : Heap) (tk' u1 u2 u3 : Tok) (Dr : Addr) (kr : Nat), St2 h₀ L h' (fun z => if z = Str.ofString "rest" then some (.ref Dr) else m z) cm ((Dr, listOf #[.str (Str.ofString "\n" ++ wordOf low) u1, .str (Str.ofString "") u2, .int 7 u3] kr) :: R1) → Q .next { s with heap := h', toks := tk' }) :
    wpAny (model PySem.Challenge.rw_ti0052_01.prog w) (lawA dp un gd cn L a ccd) (execs (seg 26 1) (lawEnv cn L a ccd)) Q E s := by
  revert hX; k_fill; intro hX
  obtain ⟨F, ⟨CK, N, HC⟩, hR2⟩ := S0
  obtain ⟨oL, mL, dL⟩ := cells_at HC (y := Str.ofString "line") rfl
  rw [hcl] at dL
  have OC := off_ck HC hR2 (RD.1 _ _ hR0).1 O
  have hc2 := cnt_last hlow
  have het := end_tok hlow
  have N1 := news_l5c N
  have e1 : (_, oL) ∈ led ++ (CK ++ R1) := List.mem_append_right _ (List.mem_append_left _ mL)
  have hR3 : ∀ p ∈ R1, p.1 ∉ (lawCl L).map (·.2) := fun p hp => hR2 p (List.mem_append_right _ (List.mem_append_right _ hp))
  have hlen : (10 :: endSg low).length ≤ 4000 := by
    have := (written_len ⟨low, by lia⟩ ⟨0, by decide⟩).2
    rw [str_len] at this
    unfold endSg
    simp only [List.length_cons, List.length_append, List.length_nil]
    dsimp only at this
    lia
  clear N hR2
  dsimp only [lexL, LexP.outer, lexE, List.cons_append, List.nil_append] at N1
  show wpAny _ _ (execs [_] _) _ _ _
  (show (let V := _; let A9 := _; wpAny _ A9 (execs _ V) _ _ _)); intro V A9
  wtm_at "mQ"
  (k_here; k_dflt (refine' Mine.c_tokL (X := X) (ln := 5) (tl := tl) (k := kp) (sg := 10 :: endSg low) RD hR0 hlen DI OC _ _ _ _ _ _ _ _ _ _ _ _ _ _ _ _ _ ?k1z189 ?k2z189 ?k3z189 ?k4z189 ?k5z189 ?kKz189 ?kdz189 ?kuz189 ?kRz189; (case k1z189 => k_asm); (case k2z189 => k_asm); (case k3z189 => k_asm); (case k4z189 => exact N1); (case k5z189 => k_asm); (case kKz189 => first | exact rfl | assumption); (case kdz189 => wtm_at "mRM"); (case kuz189 => wtm_at "mRU")))
  intro v9 n9 h9 tk9 hp9 F9 N9
  clear N1
  (first | (with_reducible show wpAny _ _ _ _ _ _; generalize hGoal187 : wpAny _ _ _ _ _ _ = Goal187) | (dsimp only; with_reducible show wpAny _ _ _ _ _ _; generalize hGoal187 : wpAny _ _ _ _ _ _ = Goal187) | (generalize hGoal187 : True = Goal187))
  obtain ⟨⟨u9, hu9⟩, ln3, tl3, led3, rd3, hln3, rfl⟩ := hp9
  rw [het] at hu9 rd3 hln3
  rw [nl_word] at hu9
  subst v9
  rw [hc2] at hln3
  obtain rfl : ln3 = 7 := by
    have e : ln3 + cnt10 [] = 5 + 2 := hln3
    have e2 : cnt10 [] = 0 := rfl
    lia
  have e1 : (_, oL) ∈ led3 ++ (CK ++ R1) := List.mem_append_right _ (List.mem_append_left _ mL)
  dsimp only [lexL, LexP.outer, lexE, List.cons_append, List.nil_append] at N9
  subst hGoal187
  try dsimp only
  try k_fold
  wtm_at "mQ"
  rename News _ _ _ _ => N2
  (k_here; k_dflt (refine' Mine.c_tokL (X := X) (ln := 7) (tl := tl3) (k := kp) (sg := []) RD rd3 (Nat.zero_le _) DI OC _ _ _ _ _ _ _ _ _ _ _ _ _ _ _ _ _ ?k1z190 ?k2z190 ?k3z190 ?k4z190 ?k5z190 ?kKz190 ?kdz190 ?kuz190 ?kRz190; (case k1z190 => k_asm); (case k2z190 => k_asm); (case k3z190 => k_asm); (case k4z190 => exact N2); (case k5z190 => k_asm); (case kKz190 => first | exact rfl | assumption); (case kdz190 => wtm_at "mRM"); (case kuz190 => wtm_at "mRU")))
  intro v9 n9 h9 tk9 hp9 F9 N9
  clear N2
  (first | (with_reducible show wpAny _ _ _ _ _ _; generalize hGoal188 : wpAny _ _ _ _ _ _ = Goal188) | (dsimp only; with_reducible show wpAny _ _ _ _ _ _; generalize hGoal188 : wpAny _ _ _ _ _ _ = Goal188) | (generalize hGoal188 : True = Goal188))
  obtain ⟨⟨u8, hu8⟩, ln4, tl4, led4, rd4, hln4, rfl⟩ := hp9
  rw [tokO_nil] at hu8 rd4 hln4
  have hu8 : v9 = .str (Str.ofString "") u8 := hu8
  subst v9
  obtain rfl : ln4 = 7 := by
    have e : ln4 + cnt10 [] = 7 + cnt10 [] := hln4
    lia
  have e1 : (_, oL) ∈ led4 ++ (CK ++ R1) := List.mem_append_right _ (List.mem_append_left _ mL)
  dsimp only [lexL, LexP.outer, lexE, List.cons_append, List.nil_append] at N9
  subst hGoal188
  try dsimp only
  try k_fold
  wtm_at "mQ"
  rename News _ _ _ _ => N6
  rename Fr _ _ _ _ => F6
  rename _ ∧ _ ∧ _ ∧ _ ∧ _ ∧ AllLt _ _ => lR
  exact kont _ _ _ _ _ _ _ ⟨F6, ⟨CK, news_17f N6, HC⟩, fun p hp => by
    rcases List.mem_cons.mp hp with rfl | hp
    · exact fresh_cell (R := []) HC fun p hp => lt_of_all lR.2.2.2.2.2 p (List.mem_append_right _ (List.mem_append_left _ (by rw [List.append_nil] at hp; exact hp)))
    · exact hR3 p hp⟩
theorem law_17g {low : Nat} {lb : List Nat} {lv wvs : List Value} {kl wk kr : Nat} {Dl wl Dr : Addr} {c : Int} {tm u1 u2 u3 : Tok} {Q : Flow → Shared → Prop} {E : Value → Shared → Prop}
    (hB : Below A₀ base [] h₀) (hX : Frag.In (Mine.pb.heap_1 w.params) h₀) (hT : Top p loose mean mg mb h₀) (hd : dp + 40 < recursionLimit) (hu : un + 400 < cLine)
    (S0 : St2 h₀ L s.heap m cm R1) (ml : (Dl, listOf lv.toArray kl) ∈ R1) (hlv : IntsN lv lb) (hlb : lb.length = 5) (mw : (wl, listOf wvs.toArray wk) ∈ R1) (hw : StrsAre wvs (wordsL low)) (hlow : low < 29) (mr : (Dr, listOf #[.str (Str.ofString "\n" ++ wordOf low) u1, .str (Str.ofString "") u2, .int 7 u3] kr) ∈ R1)
    (hcl : cm (Str.ofString "labels") = some (.ref Dl)) (hcw : cm (Str.ofString "words") = some (.ref wl)) (hmf : m (Str.ofString "fine") = some (.bool true)) (hmm : m (Str.ofString "merges") = some (.int c tm)) (hmr : m (Str.ofString "rest") = some (.ref Dr)) (hc : c = 5 - (ncl lb : Int))
    (kont : ∀ (h' : Heap) (tk' : Tok), St2 h₀ L h' m cm R1 → Q (.ret (.bool true)) { s with heap := h', toks := tk' }) :
    wpAny (model PySem.Challenge.rw_ti0052_01.prog w) (lawA dp un gd cn L a ccd) (execs (seg 27 1) (lawEnv cn L a ccd)) Q E s := by
  revert hX; k_fill; intro hX
  obtain ⟨F, ⟨CK, N, HC⟩, hR2⟩ := S0
  obtain ⟨oL, mL, dL⟩ := cells_at HC (y := Str.ofString "labels") rfl
  obtain ⟨oW, mW, dW⟩ := cells_at HC (y := Str.ofString "words") rfl
  rw [hcl] at dL
  rw [hcw] at dW
  have kk : ∀ (h' : Heap) (tk' : Tok), Fr h₀ L h' m → News h₀ L h' (CK ++ R1) → Q (.ret (.bool true)) { s with heap := h', toks := tk' } := fun h' tk' F' N' => kont h' tk' ⟨F', ⟨CK, N', HC⟩, hR2⟩
  have HS : ∀ p ∈ CK, p ∈ CK ++ R1 := fun p hp => List.mem_append_left _ hp
  have up : ∀ p ∈ R1, p ∈ CK ++ R1 := fun p hp => List.mem_append_right _ hp
  have mL1 := HS _ mL
  have mW1 := HS _ mW
  have ml1 := up _ ml
  have mw1 := up _ mw
  have mr1 := up _ mr
  clear kont hR2
  obtain ⟨W2, hW2⟩ : ∃ W2 : Led, W2 = CK ++ R1 := ⟨_, rfl⟩
  rw [← hW2] at N kk HS mL1 mW1 ml1 mw1 mr1
  clear hW2
  obtain ⟨t0, hk0⟩ := strsAre_get hw (wordsL_get (low := low) (i := 0) (by decide))
  rw [Nat.add_zero] at hk0
  have hk0 : wvs[Int.toNat 0]? = some (.str (wordOf low) t0) := hk0
  have hwl := (written_len ⟨low, by lia⟩ ⟨0, by decide⟩).2
  show wpAny _ _ (execs [_] _) _ _ _
  (show (let V := _; let A9 := _; wpAny _ A9 (execs _ V) _ _ _)); intro V A9
  wtm_at "mQX"
  rename Fr _ _ _ _ => F2
  rename News _ _ _ _ => N2
  have hlen : (firstMet (fun i => (lb.map fun (n : Nat) => (n : Int)).getD i 0) lv.length).length = ncl lb := by rw [hlv.1, hlb]; exact met_ncl hlb
  have hn5 : ncl lb ≤ 5 := by unfold ncl; exact Nat.le_trans (List.length_filter_le _ _) (by rw [List.length_range]; exact Nat.le_refl 5)
  refine newSet_L F2 N2 ml1 (intsN_are hlv) (by rw [List.length_map, hlb]; decide) ?_
  intro h1 tk1 o F1 N1 so
  rw [hlen] at so
  clear F2 N2
  try dsimp only
  generalize (fun k' => (firstMet (fun i => (lb.map fun (n : Nat) => (n : Int)).getD i 0) lv.length).any (· == k')) = g9 at so
  repeat' ((fail_if_success (with_reducible show wpAny _ _ (call (Value.builtin "len") _ _) _ _ _)); wtm_at "mNOLOOP"; wtm_at "mSTEQ")
  refine len_sl1 (own := []) N1 so (by lia) ?_
  have N1 := news_drop N1
  clear so
  try dsimp only
  wtm_at "mQX"
  · rename News _ _ _ _ => N5
    rename Fr _ _ _ _ => F5
    refine eq_rest N5 (.tail _ mr1) (.head _) (by rw [← nl_word]; exact nl_sok hlow) (by decide +kernel) ?ou ?_
    case ou => wtm_at "mRU"
    have N5 := news_drop N5
    try dsimp only
    wtm_at "mQX"
    exact kk _ _ F5 N5
  · exfalso
    first
      | (rename (c == 5 - (ncl lb : Int)) = false => hb; rw [hc, beq_self_eq_true] at hb; cases hb)
      | (rename ¬ c = 5 - (ncl lb : Int) => hb; exact hb hc)
      | (rename c ≠ 5 - (ncl lb : Int) => hb; exact hb hc)
end
end Mine
end
section
open PySem PySem.W PyProof.Rows PySem.Calls PySem.Spec
set_option Elab.async false
set_option maxRecDepth 100000
set_option maxHeartbeats 0
namespace Mine
theorem law_eq : lawDef.1 = seg 0 4 ++ (seg 4 3 ++ (seg 7 2 ++ (seg 9 1 ++ (seg 10 2 ++ (seg 12 1 ++ (seg 13 1 ++ (seg 14 1 ++ (seg 15 2 ++ (seg 17 2 ++ (seg 19 1 ++ (seg 20 1 ++ (seg 21 1 ++ (seg 22 1 ++ (seg 23 1 ++ (seg 24 1 ++ (seg 25 1 ++ (seg 26 1 ++ seg 27 1))))))))))))))))) := rfl
theorem st2_last {h₀ h : Heap} {L : Addr} {m cm : Str → Option Value} {t i g x : Addr × Obj} {C D A B R : Led} (S : St2 h₀ L h m cm (t :: i :: (C ++ (g :: (D ++ (x :: (A ++ (B ++ R)))))))) : St2 h₀ L h m cm (A ++ (B ++ (x :: R))) := by
  obtain ⟨F, ⟨CK, N, HC⟩, hR⟩ := S
  refine ⟨F, ⟨CK, news_sub N fun p hp => ?_, HC⟩, fun p hp => hR p ?_⟩
  · exact Mine.sub_at hp (by wtm_at "per")
  · exact Mine.sub_at hp (by wtm_at "per")
section
variable {fs : List Fact} {pr : Nat × Nat} {low : Nat} {M : List Nat} {St : List Nat} {S : Nat → Str} {t : Nat}
theorem fin_group (hs : Small fs) (hp : pr.1 < 5 ∧ pr.2 < 5) (h : LoopP fs pr low M [] St S t) {k : Nat} (hk : k < 5) : groupOf (labels fs pr) k = groupOf M k :=
  (group_rel (fun _ _ hi hj => final_rel hs hp h.inv hi hj) hk).symm
theorem fin_sum (hs : Small fs) (hp : pr.1 < 5 ∧ pr.2 < 5) (h : LoopP fs pr low M [] St S t) : ∀ k, k < 5 → ((groupOf (labels fs pr) k).map (2 ^ ·)).sum * 2 ^ low = nOf M low k := fun k hk => by
  rw [fin_group hs hp h hk, group_sum M h.inv.part ⟨k, hk⟩]
  rfl
theorem fin_told (hl : low < 29) (hs : Small fs) (hp : pr.1 < 5 ∧ pr.2 < 5) (h : LoopP fs pr low M [] St S t) : ∀ k, k < 5 → toldOf (nOf M low) k = Txt.join (Str.ofString ", ") ((groupOf (labels fs pr) k).map fun j => wordOf (low + j)) := fun k hk => by
  rw [fin_group hs hp h hk, group_bits M h.inv.part ⟨k, hk⟩, toldOf_eq hl (m_lt h.inv.part hk) (rfl : nOf M low k = mkk M k * 2 ^ low)]
  rfl
theorem fin_ncl (hs : Small fs) (hp : pr.1 < 5 ∧ pr.2 < 5) (h : LoopP fs pr low M [] St S t) : ncl M = ncl (labels fs pr) := ncl_rel fun _ _ hi hj => final_rel hs hp h.inv hi hj
theorem fin_sok {pend : List (Nat × Nat)} (h : LoopP fs pr low M pend St S t) (N : Nat → Nat) : ∀ x ∈ bookKv St S N, PyData.strOk x.1 = true ∧ PyData.strOk x.2 = true := fun x hx => by
  obtain ⟨k, hk, rfl⟩ := List.mem_map.mp hx
  exact ⟨(h.pl k (h.sp.lt k hk)).1.strOk, octStr_sok _⟩
end
section
variable {w : World} {p : Program} {loose : List Str} {mean : ExcName → Option Value} {mg mb : Str → Option Value} {dp un : Nat} {gd : Option (List Code)} {cn : Str} {a : Addr} {ccd : Value} {A₀ : Around} {base h₀ : Heap} {L : Addr} {m cm : Str → Option Value} {s : Shared} {CK : Led}
theorem law_all {sa : Addr} {svs : List Value} {ns : List Int} {Q : Flow → Shared → Prop} {E : Value → Shared → Prop}
    (hB : Below A₀ base [] h₀) (hX : Frag.In (Mine.pb.heap_1 w.params) h₀) (hT : Top p loose mean mg mb h₀) (hd : dp + 40 < recursionLimit) (hu : un + 400 < cLine)
    (F : Fr h₀ L s.heap m) (N : News h₀ L s.heap (CK ++ [(290, tabObj #[])])) (HC : CellsAre cm (lawCl L) CK) (hL : 290 < L)
    (hs : h₀.IsList sa svs.toArray) (hi : IntsAre svs ns) (hn : ns.length ≤ 63) (hcs : cm (Str.ofString "script") = some (.ref sa))
    (kont : ∀ (m' : Str → Option Value) (h' : Heap) (tk' : Tok) (tp : Array Value), Fr h₀ L h' m' → h'.get? 290 = some (tabObj tp) → Q (.ret (.bool true)) { s with heap := h', toks := tk' }) :
    wpAny (model PySem.Challenge.rw_ti0052_01.prog w) (lawA dp un gd cn L a ccd) (execs lawDef.1 (lawEnv cn L a ccd)) Q E s := by
  rw [law_eq]
  refine execs_app (law_1 hB hX hT hd hu F N HC hL (fun _ h => nomatch h) hs hi hn hcs ?_)
  intro d m1 cm1 R1 h1 tk1 tlow S1 ok1 a1 a2 a3 a4
  dsimp only
  with_reducible refine execs_app (law_2 (s := { s with heap := h1, toks := tk1 }) (d := d) hB hX hT hd hu hL S1 ok1.hlow a4 ?_)
  intro m2 R2 h2 tk2 wl wvs wk S2 u2 mw2 hw b1 b2
  dsimp only
  with_reducible refine execs_app (law_3 (s := { s with heap := h2, toks := tk2 }) hB hX hT hd hu hL S2 (ok1.mono u2) mw2 hw (b1.trans a1) (b2.trans a2) ((upS_ne (by decide)).trans a3) upS_eq ?_)
  intro m3 cm3 R3 h3 tk3 tt rl rk S3 u3 mr3 c1 c2 c3 c4 c5 c6
  dsimp only
  have c6 := c6.trans ((upS_ne (by decide)).trans a4)
  have ok3 := (ok1.mono u2).mono u3
  with_reducible refine execs_app (law_4 (s := { s with heap := h3, toks := tk3 }) hB hX hT hd hu hL S3 ok3 (u3 _ mw2) hw c5 c2 ?_)
  intro h4 tk4 X as Rd led4 tl4 tp S4 RD rd4 DI O4
  dsimp only
  have ok4 := ok3.mono (R' := (290, tabObj tp) :: R3) fun p hp => .tail _ hp
  have mw4 : (wl, listOf wvs.toArray wk) ∈ (290, tabObj tp) :: R3 := .tail _ (u3 _ mw2)
  rw [← sgAt_zero] at rd4
  with_reducible refine execs_app (law_5 (s := { s with heap := h4, toks := tk4 }) hB hX hT hd hu hL S4 RD rd4 DI O4 ok4 mw4 hw (List.mem_cons_of_mem _ mr3) ((upS_ne (by decide)).trans c5) upS_eq c1 ?_)
  intro m5 h5 tk5 tl5 led5 add5 Dr5 rvs5 k5 S5 rd5 O5 d1 md5 LI5 d2 d3
  dsimp only
  have e1 := d2.trans c3
  have e2 := d3.trans c4
  have u5 : ∀ p ∈ (290, tabObj tp) :: R3, p ∈ add5 ++ ((290, tabObj tp) :: R3) := fun p hp => List.mem_append_right _ hp
  have hled := (RD.1 _ _ rd5).1
  have hlow := ok4.hlow
  have h4 := ok4.h4
  have hsm := ok4.hsm
  have hpp := ok4.hp
  with_reducible refine execs_app (law_6 (s := { s with heap := h5, toks := tk5 }) hB hX hT hd hu S5 hled O5 hlow (u5 _ mw4) hw ((upS_ne (by decide)).trans c5) ?_)
  intro h6 tk6 b l vs6 k6 R6 S6 O6 n6 IB6 P6 u6
  dsimp only
  have g1 : upS (upS cm3 (Str.ofString "line") (.ref X.lx)) (Str.ofString "book") (.ref b) (Str.ofString "words") = some (.ref wl) := (upS_ne (by decide)).trans ((upS_ne (by decide)).trans c5)
  have g2 : upS (upS cm3 (Str.ofString "line") (.ref X.lx)) (Str.ofString "book") (.ref b) (Str.ofString "book") = some (.ref b) := upS_eq
  have g3 : upS (upS cm3 (Str.ofString "line") (.ref X.lx)) (Str.ofString "book") (.ref b) (Str.ofString "line") = some (.ref X.lx) := (upS_ne (by decide)).trans upS_eq
  have g4 : upS (upS cm3 (Str.ofString "line") (.ref X.lx)) (Str.ofString "book") (.ref b) (Str.ofString "low") = some (.int (d.low : Int) tlow) := (upS_ne (by decide)).trans ((upS_ne (by decide)).trans c6)
  generalize upS (upS cm3 (Str.ofString "line") (.ref X.lx)) (Str.ofString "book") (.ref b) = cm6 at S6 g1 g2 g3 g4
  with_reducible refine execs_app (law_6b (s := { s with heap := h6, toks := tk6 }) hB hX hT hd hu S6 hled O6 n6 hlow IB6 P6 (u6 _ (u5 _ mw4)) hw g1 g2 ?_)
  intro h7 tk7 S7
  dsimp only
  with_reducible refine execs_app (law_7 (s := { s with heap := h7, toks := tk7 }) hB hX hT hd hu S7 hled DI O6 n6 hlow IB6 P6 (u6 _ (u5 _ mw4)) hw g1 g2 g4 ?_)
  intro m8 h8 tk8 vs8 k8 R8 S8 B8 hm8
  dsimp only
  have B8 : Bk X as b l vs8 k8 R8 (add5 ++ ((290, tabObj tp) :: R3)) (kvsRun d.low 5) := ⟨B8.off, B8.ne, B8.book, B8.prs, fun p hp => B8.sub p (u6 p hp)⟩
  with_reducible refine execs_app (law_8 (s := { s with heap := h8, toks := tk8 }) hB hX hT hd hu S8 hled DI B8 hlow h4 hpp ((hm8 _ (by decide)).trans d1) (B8.sub _ (List.mem_append_left _ md5)) (LI5.mono fun p hp => B8.sub p (List.mem_append_left _ hp)) g3 ?_)
  intro h9 tk9 Dp pv kd kp9 S9 O9 oDl oD hpv
  dsimp only
  have LP := LoopP.start hlow hsm hpp h4
  have B9 : Bk X as b l vs8 k8 R8 (add5 ++ ((290, tabObj tp) :: R3)) (bookKv [0, 1, 2, 3, 4] (wS d.low) (nOf [1, 2, 4, 8, 16] d.low)) := by rw [kvsRun5] at B8; exact B8
  obtain ⟨p1, p2, p3, p4, p5, p6, p7, p8, p9, p10, p11, p12, p13, e17⟩ := seg17
  rw [e17]
  have O9 : Off (X.adr ++ as) ((l, listOf vs8.toArray k8) :: (Dp, listOf pv.toArray kd) :: R8) := fun p hp a ha => by
    rcases List.mem_cons.mp hp with rfl | hp
    · exact B8.off _ (.head _) a ha
    · exact O9 p hp a ha
  have lpv : pv.length < 900 := by rw [strsAre_len hpv, pushL_len]; show 2 * 1 < 900; decide
  with_reducible refine execs_app (law_9 (s := { s with heap := h9, toks := tk9 }) hB hX hT hd hu S9 hled DI O9 oDl oD B9.book B9.prs (B9.sub _ (u5 _ mw4)) hw (B9.sub _ (u5 _ ok4.mfl)) (ok4.FI.mono fun p hp => B9.sub p (u5 p hp)) h4 hsm (LP.tells hlow) (LP.round hlow) lpv lpv g1 g2 g3 ((if_neg (by decide)).trans ((hm8 _ (by decide)).trans e1)) (if_pos rfl) ?_)
  intro m10 h10 tk10 puv kp10 kd10 S10 hpuv f1 f2 f3
  dsimp only
  rw [push_all _ _ h4] at hpuv
  have O10 : Off (X.adr ++ as) ((l, listOf vs8.toArray k8) :: (Dp, listOf (pv ++ puv).toArray kd10) :: R8) := fun p hp a ha => by
    rcases List.mem_cons.mp hp with rfl | hp
    · exact B8.off _ (.head _) a ha
    · rcases List.mem_cons.mp hp with rfl | hp
      · exact O9 (Dp, listOf pv.toArray kd) (.tail _ (.head _)) a ha
      · exact B8.off p (.tail _ hp) a ha
  have B10 := bk_dp O10 oDl B9
  with_reducible refine execs_app (law_10 (s := { s with heap := h10, toks := tk10 }) (low := d.low) hB hX hT hd hu S10 hled B10 (B10.sub _ (u5 _ mw4)) hw g1 ?_)
  intro m11 h11 tk11 tm11 Ds Dz sv zv ks kz R11 S11 B11 mDs hsv mDz hzv i1 i2 i3
  dsimp only
  obtain ⟨F11, ⟨CK11, N11, HC11⟩, hc11⟩ := S11
  have B11b : Bk X as b l vs8 k8 R11 (add5 ++ ((290, tabObj tp) :: R3)) (bookKv [0, 1, 2, 3, 4] (wS d.low) (nOf [1, 2, 4, 8, 16] d.low)) := ⟨B11.off, B11.ne, B11.book, B11.prs, fun p hp => B11.sub p (B10.sub p hp)⟩
  have go : ∀ y, y ≠ Str.ofString "stands" → y ≠ Str.ofString "merges" → y ≠ Str.ofString "fine" → y ≠ Str.ofString "more" → y ≠ Str.ofString "pending" → y ≠ Str.ofString "k" → m11 y = m5 y := fun y b1 b2 b3 b4 b5 b6 => (i3 y b1 b2).trans ((f3 y b3 b4 b5).trans ((if_neg b5).trans (hm8 y b6)))
  have LS : LoopS h₀ L d X as led5 (add5 ++ ((290, tabObj tp) :: R3)) 5 tl5 b l wl tlow [1, 2, 4, 8, 16] (d.pr :: pushes [1, 2, 4, 8, 16] d.fs) [0, 1, 2, 3, 4] (wS d.low) (CK11 ++ (lexL X 5 tl5 (pv ++ puv) kp10 ++ (led5 ++ ((l, listOf vs8.toArray k8) :: R11)))) m11 :=
    ⟨⟨CK11, _, pv ++ puv, pv ++ puv, vs8, sv, zv, kp10, kd10, k8, ks, kz, Dp, Ds, Dz, R11, tm11, rfl, HC11, hc11, B11b, strsAre_app hpv hpuv, strsAre_app hpv hpuv, B11.sub _ (.head _), mDs, hsv, mDz, hzv, by rw [i2, ncl_start]; rfl, i1, upS_eq, (i3 _ (by decide) (by decide)).trans f2, (upS_ne (by decide)).trans g1, (upS_ne (by decide)).trans g2, (upS_ne (by decide)).trans g3, (upS_ne (by decide)).trans g4⟩,
      (i3 _ (by decide) (by decide)).trans f1, (go _ (by decide) (by decide) (by decide) (by decide) (by decide) (by decide)).trans e1, (go _ (by decide) (by decide) (by decide) (by decide) (by decide) (by decide)).trans e2⟩
  have ok5 := ok4.mono u5
  with_reducible refine execs_app (law_16 (s := { s with heap := h11, toks := tk11 }) hB hX hT hd hu F11 N11 hled DI ok5 (u5 _ mw4) hw LS LP ?_)
  intro m12 h12 tk12 nn12 M St S t F12 N12 LS12 LP12
  dsimp only
  clear LS go
  obtain ⟨⟨CK12, cm12, ps, pv12, vs, sv, zv, kp, kd, kl, ks, kz, Dp, Ds, Dz, Rr, tm, rfl, HC12, hcc, B, hps, hpv, mDp, mDs, hsv, mDz, hzv, n1, n2, n3, n4, q1, q2, q3, q4⟩, r1, r2, r3⟩ := LS12
  cases hps
  have up : ∀ p ∈ Rr, p ∈ lexL X 5 tl5 [] kp ++ (led5 ++ ((l, listOf vs.toArray kl) :: Rr)) := fun p hp => List.mem_append_right _ (List.mem_append_right _ (.tail _ hp))
  have ml : (l, listOf vs.toArray kl) ∈ lexL X 5 tl5 [] kp ++ (led5 ++ ((l, listOf vs.toArray kl) :: Rr)) := List.mem_append_right _ (List.mem_append_right _ (.head _))
  have hlab := labels_mem hsm hpp
  refine execs_app (law_17a (s := { s with heap := h12, toks := tk12 }) (d := d) hB hX hT hd hu ⟨F12, ⟨CK12, N12, HC12⟩, hcc⟩ (ok5.mono fun p hp => up p (B.sub p hp)) r2 r3 ?_)
  intro h13 tk13 Dl lv kl2 S13 hlv hltl
  dsimp only
  with_reducible refine execs_app (law_17b (s := { s with heap := h13, toks := tk13 }) hB hX hT hd hu S13 List.mem_cons_self hlv hlab.len upS_eq ?_)
  intro h14 tk14 Dg gv kg add14 S14 hgv
  dsimp only
  have up14 : ∀ p ∈ lexL X 5 tl5 [] kp ++ (led5 ++ ((l, listOf vs.toArray kl) :: Rr)), p ∈ (Dg, listOf gv.toArray kg) :: (add14 ++ ((Dl, listOf lv.toArray kl2) :: (lexL X 5 tl5 [] kp ++ (led5 ++ ((l, listOf vs.toArray kl) :: Rr))))) := fun p hp => .tail _ (List.mem_append_right _ (.tail _ hp))
  with_reducible refine execs_app (law_17c (s := { s with heap := h14, toks := tk14 }) hB hX hT hd hu S14 (up14 _ (up _ mDs)) hsv (up14 _ (up _ mDz)) hzv List.mem_cons_self (hgv.mono fun p hp => List.mem_cons_of_mem _ (List.mem_append_left _ hp)) (fun k hk => LP12.sp.lt k hk) LP12.len hlow (fin_sum hsm hpp LP12) (fun k hk => nOf_lt hlow LP12.inv.part hk) n2 ((upS_ne (by decide)).trans ((upS_ne (by decide)).trans n3)) upS_eq ((upS_ne (by decide)).trans ((upS_ne (by decide)).trans q4)) ?_)
  intro h15 tk15 Di iv ki add15 S15 hiv
  dsimp only
  have up15 : ∀ p ∈ lexL X 5 tl5 [] kp ++ (led5 ++ ((l, listOf vs.toArray kl) :: Rr)), p ∈ (Di, listOf iv.toArray ki) :: (add15 ++ ((Dg, listOf gv.toArray kg) :: (add14 ++ ((Dl, listOf lv.toArray kl2) :: (lexL X 5 tl5 [] kp ++ (led5 ++ ((l, listOf vs.toArray kl) :: Rr))))))) := fun p hp => .tail _ (List.mem_append_right _ (up14 p hp))
  with_reducible refine execs_app (law_17d (s := { s with heap := h15, toks := tk15 }) hB hX hT hd hu S15 (B.book.mono fun p hp => up15 p (up p hp)) (up15 _ ml) (B.prs.mono fun p hp => up15 p (up p hp)) hlow LP12 (up15 _ (up _ (B.sub _ (u5 _ mw4)))) hw ((upS_ne (by decide)).trans ((upS_ne (by decide)).trans q2)) ((upS_ne (by decide)).trans ((upS_ne (by decide)).trans q1)) ?_)
  intro h16 tk16 Dt tv kt S16 htv
  dsimp only
  with_reducible refine execs_app (law_17e (s := { s with heap := h16, toks := tk16 }) (lb := labels d.fs d.pr) hB hX hT hd hu S16 (B.book.mono fun p hp => List.mem_cons_of_mem _ (up15 p (up p hp))) (List.mem_cons_of_mem _ (up15 _ ml)) (B.prs.mono fun p hp => List.mem_cons_of_mem _ (up15 p (up p hp))) (by rw [B.prs.len]; unfold bookKv; rw [List.length_map, LP12.len]; decide) (List.mem_cons_of_mem _ List.mem_cons_self) (hiv.mono fun p hp => List.mem_cons_of_mem _ (List.mem_cons_of_mem _ (List.mem_append_left _ hp))) (fin_sok LP12 _)
    List.mem_cons_self htv (List.mem_cons_of_mem _ (List.mem_cons_of_mem _ (List.mem_append_right _ List.mem_cons_self))) (hgv.mono fun p hp => List.mem_cons_of_mem _ (List.mem_cons_of_mem _ (List.mem_append_right _ (List.mem_cons_of_mem _ (List.mem_append_left _ hp))))) hlow (fin_told hlow hsm hpp LP12) (LP12.round hlow).sok (List.mem_cons_of_mem _ (up15 _ (up _ (B.sub _ (u5 _ mw4))))) hw ((upS_ne (by decide)).trans ((upS_ne (by decide)).trans q2)) ((upS_ne (by decide)).trans ((upS_ne (by decide)).trans q1)) upS_eq ((if_neg (by decide)).trans (if_pos rfl)) (if_pos rfl) ?_)
  intro h17 tk17 S17
  dsimp only
  have S18 := st2_last S17
  have O18 : Off (X.adr ++ as) ((Dl, listOf lv.toArray kl2) :: (l, listOf vs.toArray kl) :: Rr) := off_cons (ln := 5) (tl := tl5) (ps := []) (k := kp) (rest := []) hled (fun p hp => by
    rw [List.append_nil] at hp
    refine Nat.ne_of_lt (hltl p ?_)
    rw [← List.append_assoc]
    exact List.mem_append_left _ hp) B.off
  with_reducible refine execs_app (law_17f (s := { s with heap := h17, toks := tk17 }) hB hX hT hd hu S18 RD rd5 DI O18 hlow ((upS_ne (by decide)).trans ((upS_ne (by decide)).trans q3)) ?_)
  intro h19 tk19 u1 u2 u3 Dr kr S19
  dsimp only
  with_reducible refine law_17g (s := { s with heap := h19, toks := tk19 }) (lb := labels d.fs d.pr) hB hX hT hd hu S19 (List.mem_cons_of_mem _ List.mem_cons_self) hlv hlab.len (List.mem_cons_of_mem _ (List.mem_cons_of_mem _ (List.mem_cons_of_mem _ (B.sub _ (u5 _ mw4))))) hw hlow List.mem_cons_self ((upS_ne (by decide)).trans upS_eq) ((upS_ne (by decide)).trans ((upS_ne (by decide)).trans q1)) ((if_neg (by decide)).trans ((if_neg (by decide)).trans ((if_neg (by decide)).trans r1))) ((if_neg (by decide)).trans ((if_neg (by decide)).trans ((if_neg (by decide)).trans n1))) (if_pos rfl) (by rw [fin_ncl hsm hpp LP12]) ?_
  intro h20 tk20 S20
  obtain ⟨F20, ⟨CK20, N20, HC20⟩, _⟩ := S20
  exact kont _ _ _ tp F20 (N20 (290, tabObj tp) (List.mem_append_right _ (.tail _ (.tail _ (.tail _ (B.sub _ (u5 _ (.head _)))))))).1
end
end Mine
end
section
open PySem PySem.W PyProof.Rows PySem.Calls PySem.Spec
set_option Elab.async false
set_option maxRecDepth 100000
set_option maxHeartbeats 0
namespace Mine
theorem law_enter {w : World} {p : Program} {loose : List Str} {mean : ExcName → Option Value} {mg mb : Str → Option Value} {s₁ : Shared} {fa sa : Addr} {o : Obj} {pm cd doc : Value} {ps : Arguments} {svs : List Value} {ns : List Int} {R : Result → Shared → Prop}
    (ho : s₁.heap.get? fa = some o) (hd : o.data = .func (Calls.docDef (Str.ofString "law") ps lawDef.1 lawSc pm cd doc)) (hcd : s₁.heap.CodeRec cd (Str.ofString "law"))
    (hb : bindArgs (Calls.docDef (Str.ofString "law") ps lawDef.1 lawSc pm cd doc) ⟨[.ref sa], []⟩ = pure [(Str.ofString "script", .ref sa)])
    (T : Top p loose mean mg mb s₁.heap) (X : Frag.In (Mine.pb.heap_1 w.params) s₁.heap) (hT : TabsAt [(292, 290)] s₁.heap)
    (hs : s₁.heap.IsList sa svs.toArray) (hi : IntsAre svs ns) (hn : ns.length ≤ 63)
    (k : ∀ (h' : Heap) (tk' : Nat) (m' : Str → Option Value), Fr (ghostOf s₁.heap [(292, 290)]) s₁.heap.objs.size h' m' → GrownAll [(292, 290)] h' → R (.ok (.ret (.bool true))) { s₁ with heap := h', toks := tk' }) :
    codeAny (model PySem.Challenge.rw_ti0052_01.prog w) callerA (.call (.ref fa) ⟨[.ref sa], []⟩) R s₁ := by
  refine call_cellsN (by decide) ho hd (Top.nolimit T) hcd hb (fun x hx => ?_) ?_ fun h₁ tk₁ cells F N0 X0 => ?_
  · cases List.mem_singleton.mp hx
    exact .inr ⟨(by decide +kernel : lawSc.names.lookup (Str.ofString "script") = some .cell), rfl⟩
  · show (["groups", "labels", "great", "merged", "numbers", "both", "sized", "book", "line", "words", "low", "cells", "t", "fixed", "script"].map Str.ofString).Nodup
    decide +kernel
  · have N1 := ghost_news hT F N0
    refine law_all (s := { s₁ with heap := h₁, toks := tk₁ }) (L := s₁.heap.objs.size) (cn := Str.ofString "law") (ghost_below hT) (ghost_K hT X (by kernel_rfl)) (ghost_top hT T) ?_ ?_ (ghost_fr hT F) N1 X0 (ghost_lt hT F _ (.head _)) (ghost_list hT hs) hi hn ?_ ?_
    · decide
    · decide
    · rfl
    · intro m' h' tk' tp F' g
      exact k h' tk' m' F' ⟨⟨tp, g⟩, trivial⟩
end Mine
end
end
end
end
section
open PySem PySem.W PyProof.Rows
set_option maxRecDepth 100000
set_option maxHeartbeats 8000000
set_option Elab.async false
namespace Mine
theorem hd.tw17203623261081836304 : True := True.intro
theorem hd.tw17311223219408574766 : True := True.intro
theorem hd.tw17087091549796120035 : True := True.intro
theorem hd.tw15616948245753086127 : True := True.intro
theorem hd.tw7519716089354478335 : True := True.intro
theorem hd.tw978945382295711627 : True := True.intro
theorem hd.tw4065347644161347641 : True := True.intro
theorem hd.tw5961118342813265553 : True := True.intro
theorem hd.tw9641152695372364146 : True := True.intro
theorem hd.tw18185175575083235020 : True := True.intro
theorem hd.tw11128854368766332075 : True := True.intro
theorem hd.tw4138081844389336918 : True := True.intro
theorem hd.tw8068729725432388964 : True := True.intro
theorem hd.tw10216474801634566288 : True := True.intro
theorem hd.tw5148922909946612681 : True := True.intro
theorem hd.tw5781342201191254626 : True := True.intro
theorem hd.tw17711083657039698284 : True := True.intro
theorem hd.tw5732804406350252772 : True := True.intro
theorem hd.tw1452849714261714991 : True := True.intro
theorem hd.tw14620637471214046174 : True := True.intro
theorem hd.tw5201384275714778543 : True := True.intro
theorem hd.tw10889348797400549130 : True := True.intro
theorem hd.tw15043168886218598503 : True := True.intro
theorem hd.tw2867327485932766208 : True := True.intro
theorem hd.tw10752148897807903841 : True := True.intro
theorem hd.tw6990203504111849199 : True := True.intro
theorem hd.tw16649331688326792143 : True := True.intro
theorem hd.tw15103106377680225435 : True := True.intro
theorem hd.tw11652457597714270106 : True := True.intro
theorem hd.tw3259873300814134281 : True := True.intro
theorem hd.tw4856431653887292112 : True := True.intro
theorem hd.tw3953601041324332601 : True := True.intro
theorem hd.tw11117797201346649052 : True := True.intro
theorem hd.tw2216850387143573719 : True := True.intro
theorem hd.tw8684328023851190084 : True := True.intro
theorem hd.tw18322514126500204803 : True := True.intro
theorem hd.tw461538923250603899 : True := True.intro
theorem hd.tw18241275227582772068 : True := True.intro
theorem hd.tw9609788390727539227 : True := True.intro
theorem hd.tw1847840615245081061 : True := True.intro
theorem hd.tw8047900516022102942 : True := True.intro
theorem hd.tw8671608845466749128 : True := True.intro
theorem hd.tw14896477498954680388 : True := True.intro
theorem hd.tw8343274005884668182 : True := True.intro
theorem hd.tw6998783941825042932 : True := True.intro
theorem hd.tw16772102934027710169 : True := True.intro
theorem hd.tw12936449754285732098 : True := True.intro
theorem hd.tw13330244855972007585 : True := True.intro
theorem hd.tw17599816209265215132 : True := True.intro
theorem hd.tw2114630138375439770 : True := True.intro
theorem hd.tw7752767780024739350 : True := True.intro
theorem hd.tw17650839729002327288 : True := True.intro
theorem hd.tw7540741092611519060 : True := True.intro
theorem hd.tw12092154237167983948 : True := True.intro
theorem hd.tw6528754448969337418 : True := True.intro
theorem hd.tw14598272352848978880 : True := True.intro
theorem hd.tw5373601922739893978 : True := True.intro
theorem hd.tw17447410573909459338 : True := True.intro
theorem hd.tw8770205317985620760 : True := True.intro
theorem hd.tw7540655947842036084 : True := True.intro
theorem hd.tw14353793391729792155 : True := True.intro
theorem hd.tw4014540891139286612 : True := True.intro
theorem hd.tw5567388512258382067 : True := True.intro
theorem hd.tw11893437276241958245 : True := True.intro
theorem hd.tw11953376511379268794 : True := True.intro
theorem hd.tw18300207936620678264 : True := True.intro
theorem hd.tw15368132723985388332 : True := True.intro
theorem hd.tw13518370688599389936 : True := True.intro
theorem hd.tw2440592905100669153 : True := True.intro
theorem hd.tw5363564295841288755 : True := True.intro
theorem hd.tw5562173858411828344 : True := True.intro
theorem hd.tw13919464512627920130 : True := True.intro
theorem hd.tw2167537188350426706 : True := True.intro
theorem hd.tw5278057926702712004 : True := True.intro
theorem hd.tw13903934854276604550 : True := True.intro
theorem hd.tw3443669649825651883 : True := True.intro
theorem hd.tw3915529967508079626 : True := True.intro
theorem hd.tw11975651509544506050 : True := True.intro
theorem hd.tw3480954088277226078 : True := True.intro
theorem hd.tw12173100003817136821 : True := True.intro
theorem hd.tw7082855905992002993 : True := True.intro
theorem hd.tw11631869004601391166 : True := True.intro
theorem hd.tw14400467628812073631 : True := True.intro
theorem hd.tw4478964076566166474 : True := True.intro
theorem hd.tw4115565904173853331 : True := True.intro
theorem hd.tw10111801491309104144 : True := True.intro
theorem hd.tw6982297934935202809 : True := True.intro
theorem hd.tw14294001040229213422 : True := True.intro
theorem hd.tw10525666975642140466 : True := True.intro
theorem hd.tw2502866573005156581 : True := True.intro
theorem hd.tw6819123309680001836 : True := True.intro
theorem hd.tw17901334829092211166 : True := True.intro
theorem hd.tw5987830557187376847 : True := True.intro
theorem hd.tw2195365466389143174 : True := True.intro
theorem hd.tw13225837485096350037 : True := True.intro
theorem hd.tw16037735763661986305 : True := True.intro
theorem hd.tw6598312636042714100 : True := True.intro
theorem hd.tw3759623122121258479 : True := True.intro
theorem hd.tw1865391376527767206 : True := True.intro
theorem hd.tw16155205043701107222 : True := True.intro
theorem hd.tw8117029840178788049 : True := True.intro
theorem hd.tw8545014587354053640 : True := True.intro
theorem hd.tw9427301549700849589 : True := True.intro
theorem hd.tw9421340871869096474 : True := True.intro
theorem hd.tw7914949630228597729 : True := True.intro
theorem hd.tw12050417470231563642 : True := True.intro
theorem hd.tw16056359734778111409 : True := True.intro
theorem hd.tw9277588360372424766 : True := True.intro
theorem hd.tw17420951861521290806 : True := True.intro
theorem hd.tw6060742912462422084 : True := True.intro
theorem hd.tw2457190517430149469 : True := True.intro
theorem hd.tw5635641802508607975 : True := True.intro
theorem hd.tw13483081372092288885 : True := True.intro
theorem hd.tw8977307856219701671 : True := True.intro
theorem hd.tw4706079058837389440 : True := True.intro
theorem hd.tw14060154772996877548 : True := True.intro
theorem hd.tw8727321023445011275 : True := True.intro
theorem hd.tw7654286748164834634 : True := True.intro
theorem hd.tw2274498078352570744 : True := True.intro
theorem hd.tw9244321171653502345 : True := True.intro
theorem hd.tw1129884963351977449 : True := True.intro
theorem hd.tw7085514621470718492 : True := True.intro
theorem hd.tw16006246977917349235 : True := True.intro
theorem hd.tw6830512106363814048 : True := True.intro
theorem hd.tw13855946660403688772 : True := True.intro
theorem hd.tw10258999931320997221 : True := True.intro
theorem hd.tw10170382586518783626 : True := True.intro
theorem hd.tw15166520500009309586 : True := True.intro
theorem hd.tw17574625026820762457 : True := True.intro
theorem hd.tw16794629799341752650 : True := True.intro
theorem hd.tw10489413803772117021 : True := True.intro
theorem hd.tw10403243965636340961 : True := True.intro
theorem hd.tw9557236495431379559 : True := True.intro
theorem hd.tw16945582573551092051 : True := True.intro
theorem hd.tw4015398097383911347 : True := True.intro
theorem hd.tw3828038474966422129 : True := True.intro
theorem hd.tw9430268157657104642 : True := True.intro
theorem hd.tw9386895884608548742 : True := True.intro
theorem hd.tw11213053971927718326 : True := True.intro
theorem hd.tw15348815342697509953 : True := True.intro
theorem hd.tw15527848837575444561 : True := True.intro
theorem hd.tw3381375190539634487 : True := True.intro
theorem hd.tw3835593806179374025 : True := True.intro
theorem hd.tw7547452568850923285 : True := True.intro
theorem hd.tw13828106393651249627 : True := True.intro
theorem hd.tw17588044629489971554 : True := True.intro
theorem hd.tw6906073325868019850 : True := True.intro
theorem hd.tw10727248033764811480 : True := True.intro
theorem hd.tw16473244170626142550 : True := True.intro
theorem hd.tw4851647983119433812 : True := True.intro
theorem hd.tw14960593345356199642 : True := True.intro
theorem hd.tw14705683404202351889 : True := True.intro
theorem hd.tw10743916045514856203 : True := True.intro
theorem hd.tw2304311442786299043 : True := True.intro
theorem hd.tw16828841361933241965 : True := True.intro
theorem hd.tw15595854959937240912 : True := True.intro
theorem hd.tw15083628210047938546 : True := True.intro
theorem hd.tw6196171512934965099 : True := True.intro
theorem hd.tw3026753882482905222 : True := True.intro
theorem hd.tw17950676927832955104 : True := True.intro
theorem hd.tw11848291776199104117 : True := True.intro
theorem hd.tw10458740792067480800 : True := True.intro
theorem hd.tw13866372431405929976 : True := True.intro
theorem hd.tw15833661619300960221 : True := True.intro
theorem hd.tw17213754286329925777 : True := True.intro
theorem hd.tw16091413853298234908 : True := True.intro
theorem hd.tw3530705653197291679 : True := True.intro
theorem hd.tw9223920413712330314 : True := True.intro
theorem hd.tw16904818350239718627 : True := True.intro
theorem hd.tw8061450827663939861 : True := True.intro
theorem hd.tw6820862383352777685 : True := True.intro
theorem hd.tw402640490398009360 : True := True.intro
theorem hd.tw8716120427605611371 : True := True.intro
theorem hd.tw15837987909243819085 : True := True.intro
theorem hd.tw7763873220885509757 : True := True.intro
theorem hd.tw6882427118574961969 : True := True.intro
theorem hd.tw15642763164714097627 : True := True.intro
theorem hd.tw2845679848157327705 : True := True.intro
theorem hd.tw6276725880618359904 : True := True.intro
theorem hd.tw991583007596301734 : True := True.intro
theorem hd.tw15279998641719260112 : True := True.intro
theorem hd.tw3789350110615891812 : True := True.intro
theorem hd.tw18293851220164018083 : True := True.intro
theorem hd.tw13466754112058979494 : True := True.intro
theorem hd.tw4478166936697009375 : True := True.intro
theorem hd.tw12374041931403950375 : True := True.intro
theorem hd.tw6551450704038468237 : True := True.intro
theorem hd.tw1610171440888473627 : True := True.intro
theorem hd.tw9170477692918782315 : True := True.intro
theorem hd.tw18103342009636024947 : True := True.intro
theorem hd.tw15967140613478806237 : True := True.intro
theorem hd.tw16194383521188589630 : True := True.intro
theorem hd.tw432457690288141553 : True := True.intro
theorem hd.tw1699103778626983548 : True := True.intro
theorem hd.tw12228760424905384129 : True := True.intro
theorem hd.tw189712035060473897 : True := True.intro
theorem hd.tw12598724348716800887 : True := True.intro
theorem hd.tw11210553801493137410 : True := True.intro
theorem hd.tw17387473266821786944 : True := True.intro
theorem hd.tw6123773746684550334 : True := True.intro
theorem hd.tw7068711184596962023 : True := True.intro
theorem hd.tw1413172679324656950 : True := True.intro
theorem hd.tw9719896912496429819 : True := True.intro
theorem hd.tw5902613922787404954 : True := True.intro
theorem hd.tw11713075325732132258 : True := True.intro
theorem hd.tw8428860471423672150 : True := True.intro
theorem hd.tw1784385830474605701 : True := True.intro
theorem hd.tw1580110805410547442 : True := True.intro
theorem hd.tw10583446816852156582 : True := True.intro
theorem hd.tw10030107230732127627 : True := True.intro
theorem hd.tw12949589719889679912 : True := True.intro
theorem hd.tw8879563391730754479 : True := True.intro
theorem hd.tw8268277133935991078 : True := True.intro
theorem hd.tw14955159897011116063 : True := True.intro
theorem hd.tw10024716035694756283 : True := True.intro
theorem hd.tw10246146449241189800 : True := True.intro
theorem hd.tw14713601330101548304 : True := True.intro
theorem hd.tw16259696140248634718 : True := True.intro
theorem hd.tw15089522573102190283 : True := True.intro
theorem hd.tw11917015161858427179 : True := True.intro
theorem hd.tw9748044761591592747 : True := True.intro
theorem hd.tw16154546982801380032 : True := True.intro
theorem hd.tw18166333605607142505 : True := True.intro
theorem hd.tw212345690472687942 : True := True.intro
theorem hd.tw16299908979028503884 : True := True.intro
theorem hd.tw14147866220447708227 : True := True.intro
theorem hd.tw1359830224848277088 : True := True.intro
theorem hd.tw11054480109507316185 : True := True.intro
theorem hd.tw11631947586910100387 : True := True.intro
theorem hd.tw14560493823538711346 : True := True.intro
theorem hd.tw2386827423013361158 : True := True.intro
theorem hd.tw16634568088961857937 : True := True.intro
theorem hd.tw9398405308114057262 : True := True.intro
theorem hd.tw13790719812936386609 : True := True.intro
theorem hd.tw6164396464334811476 : True := True.intro
theorem hd.tw18245042118932799458 : True := True.intro
theorem hd.tw17919194246423945575 : True := True.intro
theorem hd.tw2315301623876862497 : True := True.intro
theorem hd.tw2101469004524951375 : True := True.intro
theorem hd.tw9702936160620672325 : True := True.intro
theorem hd.tw15615537253650120727 : True := True.intro
theorem hd.tw18437946751001850788 : True := True.intro
theorem hd.tw17579296083999419209 : True := True.intro
theorem hd.tw8934143017859847078 : True := True.intro
theorem hd.tw8025032847418708242 : True := True.intro
theorem hd.tw12575139184659369484 : True := True.intro
theorem hd.tw1836080755315867724 : True := True.intro
theorem hd.tw1013155817946168525 : True := True.intro
theorem hd.tw17330945745186091897 : True := True.intro
theorem hd.tw1409312971732116557 : True := True.intro
theorem hd.tw16970440968685349367 : True := True.intro
theorem hd.tw4870687313549177768 : True := True.intro
theorem hd.tw1011335219593555734 : True := True.intro
theorem hd.tw8609351116199087170 : True := True.intro
theorem hd.tw18093812233618175256 : True := True.intro
theorem hd.tw12399718760709695909 : True := True.intro
theorem hd.tw1222794163293265305 : True := True.intro
theorem hd.tw5054737718236178183 : True := True.intro
theorem hd.tw9763420282994701918 : True := True.intro
theorem hd.tw4360684699965382250 : True := True.intro
theorem hd.tw17672654358674132775 : True := True.intro
theorem hd.tw8735263284916673568 : True := True.intro
theorem hd.tw17893044597097874663 : True := True.intro
theorem hd.tw11032806212648032379 : True := True.intro
theorem hd.tw14906377314874228009 : True := True.intro
theorem hd.tw6931407450589930559 : True := True.intro
theorem hd.tw8112040973832200146 : True := True.intro
theorem hd.tw18343703819029505601 : True := True.intro
theorem hd.tw17681399029576232318 : True := True.intro
theorem hd.tw2930668341846507884 : True := True.intro
theorem hd.tw13783031573616600631 : True := True.intro
theorem hd.tw280609765759037681 : True := True.intro
theorem hd.tw7023726343779634624 : True := True.intro
theorem hd.tw5511420028821071320 : True := True.intro
theorem hd.tw13315533130655954831 : True := True.intro
theorem hd.tw7880807054014371918 : True := True.intro
theorem hd.tw3309697970292668127 : True := True.intro
theorem hd.tw12614811148066621264 : True := True.intro
theorem hd.tw9741134391959003819 : True := True.intro
theorem hd.tw14553816603554493358 : True := True.intro
theorem hd.tw8091962400308939844 : True := True.intro
theorem hd.tw4383666589626881386 : True := True.intro
theorem hd.tw17234923516513369237 : True := True.intro
theorem hd.tw10949625832625181284 : True := True.intro
theorem hd.tw15813434630575017362 : True := True.intro
theorem hd.tw16722109127936396110 : True := True.intro
theorem hd.tw5657824000916062451 : True := True.intro
theorem hd.tw5608270528595127837 : True := True.intro
theorem hd.tw6411954120941647267 : True := True.intro
theorem hd.tw8516288146210602744 : True := True.intro
theorem hd.tw14168552714766633299 : True := True.intro
theorem hd.tw10792051664901133789 : True := True.intro
theorem hd.tw2391449824757734642 : True := True.intro
theorem hd.tw6785817131721698500 : True := True.intro
theorem hd.tw17258206423299326598 : True := True.intro
theorem hd.tw15416985209724490359 : True := True.intro
theorem hd.tw3442329435671937591 : True := True.intro
theorem hd.tw2081544021108705427 : True := True.intro
theorem hd.tw12070051907170230399 : True := True.intro
theorem hd.tw9499510787657705874 : True := True.intro
theorem hd.tw11232374478483605306 : True := True.intro
theorem hd.tw17562767543260142214 : True := True.intro
theorem hd.tw8662294711777555239 : True := True.intro
theorem hd.tw10860895700388868024 : True := True.intro
theorem hd.tw2442259710966052079 : True := True.intro
theorem hd.tw2603259988358896889 : True := True.intro
theorem hd.tw2999033326186475339 : True := True.intro
theorem hd.tw17843490464661113860 : True := True.intro
theorem hd.tw17714235663813219645 : True := True.intro
theorem hd.tw8789358453043137523 : True := True.intro
theorem hd.tw4315991029959535628 : True := True.intro
theorem hd.tw1800889605409440832 : True := True.intro
theorem hd.tw9960721518486171458 : True := True.intro
theorem hd.tw8990313861142287110 : True := True.intro
theorem hd.tw1097998534492414930 : True := True.intro
theorem hd.tw16007149819294483003 : True := True.intro
theorem hd.tw5036846961687405229 : True := True.intro
theorem hd.tw8134915037123179040 : True := True.intro
theorem hd.tw845060206244984605 : True := True.intro
theorem hd.tw5373751490086994478 : True := True.intro
theorem hd.tw17903497710992402801 : True := True.intro
theorem hd.tw9345929723534960622 : True := True.intro
theorem hd.tw3919010098100093602 : True := True.intro
theorem hd.tw17948085552500728524 : True := True.intro
theorem hd.tw5416991563250132298 : True := True.intro
theorem hd.tw11389486352061984695 : True := True.intro
theorem hd.tw1760603350576429475 : True := True.intro
theorem hd.tw16920754564084929960 : True := True.intro
theorem hd.tw6804821044290156842 : True := True.intro
theorem hd.tw16868993833207775613 : True := True.intro
theorem hd.tw4402725079659364252 : True := True.intro
theorem hd.tw1600037746751723098 : True := True.intro
theorem hd.tw8458067239894703972 : True := True.intro
theorem hd.tw11251137523995926341 : True := True.intro
theorem hd.tw13770079208771991547 : True := True.intro
theorem hd.tw17739348878880393726 : True := True.intro
theorem hd.tw11319892378374348655 : True := True.intro
theorem hd.tw15790720579355451973 : True := True.intro
theorem hd.tw3452082135128663414 : True := True.intro
theorem hd.tw728884934406724761 : True := True.intro
theorem hd.tw17606422857730326317 : True := True.intro
theorem hd.tw13368278939475635651 : True := True.intro
theorem hd.tw11465210709893060100 : True := True.intro
theorem hd.tw1778080364554679531 : True := True.intro
theorem hd.tw18291419657060728153 : True := True.intro
theorem hd.tw15759970867653108152 : True := True.intro
theorem hd.tw6407587892757256292 : True := True.intro
theorem hd.tw8184699220007379433 : True := True.intro
theorem hd.tw15411387601460861337 : True := True.intro
theorem hd.tw4086058157674990017 : True := True.intro
theorem hd.tw395138700845864316 : True := True.intro
theorem hd.tw7494724483528729301 : True := True.intro
theorem hd.tw8857068133792860847 : True := True.intro
theorem hd.tw9673543361469618366 : True := True.intro
theorem hd.tw6082411064634330575 : True := True.intro
theorem hd.tw4236039668172988028 : True := True.intro
theorem hd.tw9566141503761928105 : True := True.intro
theorem hd.tw16157073509204512506 : True := True.intro
theorem hd.tw15529170255622000948 : True := True.intro
theorem hd.tw3571134770919094901 : True := True.intro
theorem hd.tw15946388913382835224 : True := True.intro
theorem hd.tw16345102440705955213 : True := True.intro
theorem hd.tw12647368939536790636 : True := True.intro
theorem hd.tw7754304195085646258 : True := True.intro
theorem hd.tw15673258824015622330 : True := True.intro
theorem hd.tw10258225898301398825 : True := True.intro
theorem hd.tw13753220567063992666 : True := True.intro
theorem hd.tw3493717111155160527 : True := True.intro
theorem hd.tw22551697357593593 : True := True.intro
theorem hd.tw3795277891434052102 : True := True.intro
theorem hd.tw6291416237084387574 : True := True.intro
theorem hd.tw11801993109049149486 : True := True.intro
theorem hd.tw6002513971871402140 : True := True.intro
theorem hd.tw7355570028127101125 : True := True.intro
theorem hd.tw6767318904944593275 : True := True.intro
theorem hd.tw10601615944963115059 : True := True.intro
theorem hd.tw7296583596125217682 : True := True.intro
theorem hd.tw10678649693572172417 : True := True.intro
theorem hd.tw12271959270614036898 : True := True.intro
theorem hd.tw2608437505485318709 : True := True.intro
theorem hd.tw541196102884509978 : True := True.intro
theorem hd.tw15852365999677673905 : True := True.intro
theorem hd.tw3646829019195819677 : True := True.intro
theorem hd.tw18264374347568628810 : True := True.intro
theorem hd.tw4971549296188076032 : True := True.intro
theorem hd.tw17177331786930743035 : True := True.intro
theorem hd.tw758273949599710562 : True := True.intro
theorem hd.tw7289634563603522867 : True := True.intro
theorem hd.tw6184460063843016694 : True := True.intro
theorem hd.tw5343241284826551009 : True := True.intro
theorem hd.tw7155415327029175403 : True := True.intro
theorem hd.tw9813476730208780421 : True := True.intro
theorem hd.tw2323474266016966308 : True := True.intro
theorem hd.tw11162318198679636149 : True := True.intro
theorem hd.tw6264232113106981867 : True := True.intro
theorem hd.tw18219297243305740317 : True := True.intro
theorem hd.tw4702841417184801058 : True := True.intro
theorem hd.tw15367242080415987702 : True := True.intro
theorem hd.tw11136197038861592535 : True := True.intro
theorem hd.tw6442067068224118133 : True := True.intro
theorem hd.tw16477043939570097188 : True := True.intro
theorem hd.tw16171809288044610508 : True := True.intro
theorem hd.tw15615420239508185596 : True := True.intro
theorem hd.tw7451428367024993598 : True := True.intro
theorem hd.tw3229955645248102723 : True := True.intro
theorem hd.tw10603584201595350602 : True := True.intro
theorem hd.tw15948780112781908787 : True := True.intro
theorem hd.tw12932263818655905577 : True := True.intro
theorem hd.tw11151547217846952531 : True := True.intro
theorem hd.tw2887051446865420828 : True := True.intro
theorem hd.tw9657781627882305391 : True := True.intro
theorem hd.tw2068664650715991707 : True := True.intro
theorem hd.tw1241404454085649124 : True := True.intro
theorem hd.tw2329189449893159454 : True := True.intro
theorem hd.tw5057992037070297843 : True := True.intro
theorem hd.tw5190246844813560578 : True := True.intro
theorem hd.tw8356816923877370021 : True := True.intro
theorem hd.tw26425463804135960 : True := True.intro
theorem hd.tw3462702350737211693 : True := True.intro
theorem hd.tw15683763237869141255 : True := True.intro
theorem hd.tw16432713993328977331 : True := True.intro
theorem hd.tw4297731678662094536 : True := True.intro
theorem hd.tw12629568148972539762 : True := True.intro
theorem hd.tw14246236162039180721 : True := True.intro
theorem hd.tw16011055738799735888 : True := True.intro
theorem hd.tw1194904439430580092 : True := True.intro
theorem hd.tw12113243949977362033 : True := True.intro
theorem hd.tw8228950375871286339 : True := True.intro
theorem hd.tw10879034167726328663 : True := True.intro
theorem hd.tw6578402527460240241 : True := True.intro
theorem hd.tw16064382804478563927 : True := True.intro
theorem hd.tw6394381022753523788 : True := True.intro
theorem hd.tw17062030032774818151 : True := True.intro
theorem hd.tw6305734824756694309 : True := True.intro
theorem hd.tw2252305205657439004 : True := True.intro
theorem hd.tw4494801613693538912 : True := True.intro
theorem hd.tw10424393626065333798 : True := True.intro
theorem hd.tw1439246655266547700 : True := True.intro
theorem hd.tw6438293893037913957 : True := True.intro
theorem hd.tw3429492842335990350 : True := True.intro
set_option Elab.async true in
theorem hd : PySem.Challenge.rw_ti0052_01.Holds := by
    w_on
    o_law
    k_head
    (case hw => w_witness2)
    k_fill
    intro w s₀ s₁ mg mb G Y fa o pm cd doc dV kV ho hd hcd hD hmg hg args vals as hpre hlay hrd hwl hlo
    have KX := km_in_of Y
    km_tabs Y
    have X := (Ground.X G).1
    have V := (Ground.X G).2
    refine Ground.open G ?_
    intro T B D TE TW
    try (refine guard_noD D (by decide +kernel) ?_; clear D)
    km_lay T hmg ho hd cd
    clear hmg
    wrow_args hpre hlay hrd hwl hlo
    first | (refine callC_kw (enter_call ?_)) | (refine enter_call ?_)
    w_top on
    kn_posts
    have he := Dflts.none hD rfl
    subst he
    have he := Dflts.noKw hD
    subst he
    have KX2 : Frag.In (Mine.pb.heap_1 w.params) s₁.heap := by
      refine Eq.mp (congrArg (fun f => Frag.In f s₁.heap) ?_) KX
      kernel_rfl
    clear KX
    refine law_enter ho (fd_plain hd) hcd rfl T KX2 hT9 (by assumption) (by assumption) (by omega) ?_
    intro h' tk' m' F' hgr
    refine ⟨?_, hgr⟩
    exact goodW_bool F' hg (raisesW_false (by wrow_none_raised)) (by wrow_post)
end Mine
end

theorem PySem.Challenge.cw_ti0052_01_holds : PySem.Challenge.rw_ti0052_01.Holds :=
  Mine.hd
